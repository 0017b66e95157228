/-
  The guards of the three laws on arrange, walked.
-/
import Derived.Test.Qxb6601741aRows
import Derived.WalkKit
import Derived.WalkLawsBesides
namespace Go.Proofs.Qxb6601741a
open Go.RowKit

theorem ret_bool {a b : Bool} (h : a = b) : Ending.returned (.bool a) = .returned (.bool b) := by rw [h]

/-- It returns a bool of which P holds. -/
def RetB (P : Bool → Prop) (e : Ending) : Prop := ∃ b, e = .returned (.bool b) ∧ P b

def SizeOK (n : Nat) (L : Nat → Nat) (b : Bool) : Prop := b = true → n ≤ 4096 ∧ ∀ k, k < n → L k ≤ 4096
def FollOK (n : Nat) (L : Nat → Nat) (b : Bool) : Prop := b = true → ∀ k, k < n → 1 ≤ L k

/-- The metagroups' groups, as a law gets them. -/
structure Grps (w : World) (gb go n : Nat) (A : Nat → Option Addr) (L C : Nat → Nat) (S : Nat → Nat → ByteArray) : Prop where
  cell : ∀ k, k < n → w.cell? ⟨gb, go + k, none⟩ = some (.slice (A k) (L k) (C k))
  name : ∀ k, k < n → ∀ j, j < L k → ∃ b o, A k = some ⟨b, o, none⟩ ∧ w.cell? ⟨b, o + j, none⟩ = some (.string (S k j)) ∧ (S k j).size ≤ maxLen
  len : ∀ k, k < n → L k ≤ C k ∧ C k ≤ maxLen

/-- One group's name, ready for a walk. -/
theorem Grps.at {w : World} {gb go n : Nat} {A : Nat → Option Addr} {L C : Nat → Nat} {S : Nat → Nat → ByteArray} (h : Grps w gb go n A L C S) {k j : Nat} (hk : k < n) (hj : j < L k) :
    ∃ b o, w.cell? ⟨gb, go + k, none⟩ = some (.slice (some ⟨b, o, none⟩) (L k) (C k)) ∧ w.cell? ⟨b, o + j, none⟩ = some (.string (S k j)) ∧ (S k j).size ≤ maxLen := by
  obtain ⟨b, o, h1, h2, h3⟩ := h.name k hk j hj
  exact ⟨b, o, by rw [h.cell k hk, h1], h2, h3⟩

set_option maxRecDepth 100000 in
set_option maxHeartbeats 1000000 in
theorem zz16 (gb go n cap : Nat) (A : Nat → Option Addr) (L C : Nat → Nat) (S : Nat → Nat → ByteArray) (w : World) (hn : n ≤ maxLen) (HGr : Hid (Grps w gb go n A L C S)) :
    Calls Try.prog 16 #[.slice (some ⟨gb, go, none⟩) n cap] w fun e w' => RetB (fun _ => True) e ∧ w' = w := by
  unfold maxLen at hn
  by_cases hbig : n ≤ 1048576
  · go_enter Try.func16, Try.ntmps16
    go_wp2
    go_loop [3, 4] (fun z i => ∃ (k : Nat) (s : Int), k ≤ n ∧ i = .int .i64 k ∧ z = .int .i64 s ∧ 0 ≤ s ∧ s ≤ 1048576) (fun _ i => n - (intOf i).toNat)
    case atStart => exact ⟨0, _, by omega, rfl, rfl, by omega, by omega⟩
    case round =>
      obtain ⟨k, s, hk, rfl, rfl, hs0, hs1⟩ := hrel
      by_cases hlt : k < n
      · have hcell := HGr.out.cell k hlt
        have hlen := HGr.out.len k hlt
        have hl2 : L k ≤ 9223372036854775807 := by have := hlen.2; unfold maxLen at this; omega
        clear hlen
        by_cases hl : L k ≤ 1048576
        · by_cases hsum : s + (L k : Int) ≤ 1048576
          · go_wp2
            go_loop [3, 5] (fun z i => ∃ (j : Nat) (s : Int), j ≤ L k ∧ i = .int .i64 j ∧ z = .int .i64 s ∧ 0 ≤ s ∧ s ≤ 1048576) (fun _ i => L k - (intOf i).toNat)
            case atStart => exact ⟨0, _, by omega, rfl, rfl, by omega, by omega⟩
            case round =>
              clear hsum
              obtain ⟨j, s, hj, rfl, rfl, hs0, hs1⟩ := hrel
              by_cases hjl : j < L k
              · clear hcell
                obtain ⟨b, o, hcell, hnm, hsz⟩ := HGr.out.at hlt hjl
                generalize S k j = str at hnm hsz
                unfold maxLen at hsz
                by_cases hb1 : str.size ≤ 1048576
                · by_cases hb2 : s + (str.size : Int) ≤ 1048576
                  · go_wp2
                    go_round
                    case rel => exact ⟨j + 1, _, by omega, by go_num, rfl, by omega, by omega⟩
                    case measure => simp [intOf]; omega
                  · go_wp2
                    go_ret
                    exact ⟨⟨_, rfl, trivial⟩, rfl⟩
                · go_wp2
                  go_ret
                  exact ⟨⟨_, rfl, trivial⟩, rfl⟩
              · go_wp2
                go_round
                case rel => exact ⟨k + 1, _, by omega, by go_num, rfl, by omega, by omega⟩
                case measure => simp [intOf]; omega
          · go_wp2
            go_ret
            exact ⟨⟨_, rfl, trivial⟩, rfl⟩
        · go_wp2
          go_ret
          exact ⟨⟨_, rfl, trivial⟩, rfl⟩
      · go_wp2
        go_ret
        exact ⟨⟨_, rfl, trivial⟩, rfl⟩
  · go_enter Try.func16, Try.ntmps16
    go_wp2
    go_ret
    exact ⟨⟨_, rfl, trivial⟩, rfl⟩

set_option maxHeartbeats 400000 in
theorem zz16_empty (a : Option Addr) (cap : Nat) (w : World) :
    Calls Try.prog 16 #[.slice a 0 cap] w fun e w' => RetB (fun _ => True) e ∧ w' = w := by
  go_enter Try.func16, Try.ntmps16
  go_wp2
  refine wp_loop_rounds 1 ?_
  rw [rounds_succ]
  go_wp2
  go_ret
  exact ⟨⟨_, rfl, trivial⟩, rfl⟩

set_option maxRecDepth 100000 in
set_option maxHeartbeats 1000000 in
theorem zz22 (gb go n cap : Nat) (A : Nat → Option Addr) (L C : Nat → Nat) (S : Nat → Nat → ByteArray) (w : World) (hn : n ≤ maxLen) (HGr : Hid (Grps w gb go n A L C S)) :
    Calls Try.prog 22 #[.slice (some ⟨gb, go, none⟩) n cap] w fun e w' => RetB (fun _ => True) e ∧ w' = w := by
  unfold maxLen at hn
  by_cases hbig : n ≤ 1048576
  · go_enter Try.func22, Try.ntmps22
    go_wp2
    go_loop [3, 4] (fun z i => ∃ (k : Nat) (s : Int), k ≤ n ∧ i = .int .i64 k ∧ z = .int .i64 s ∧ 0 ≤ s ∧ s ≤ 1048576) (fun _ i => n - (intOf i).toNat)
    case atStart => exact ⟨0, _, by omega, rfl, rfl, by omega, by omega⟩
    case round =>
      obtain ⟨k, s, hk, rfl, rfl, hs0, hs1⟩ := hrel
      by_cases hlt : k < n
      · have hcell := HGr.out.cell k hlt
        have hlen := HGr.out.len k hlt
        have hl2 : L k ≤ 9223372036854775807 := by have := hlen.2; unfold maxLen at this; omega
        clear hlen
        by_cases hl : L k ≤ 1048576
        · by_cases hsum : s + (L k : Int) ≤ 1048576
          · go_wp2
            go_loop [3, 5] (fun z i => ∃ (j : Nat) (s : Int), j ≤ L k ∧ i = .int .i64 j ∧ z = .int .i64 s ∧ 0 ≤ s ∧ s ≤ 1048576) (fun _ i => L k - (intOf i).toNat)
            case atStart => exact ⟨0, _, by omega, rfl, rfl, by omega, by omega⟩
            case round =>
              clear hsum
              obtain ⟨j, s, hj, rfl, rfl, hs0, hs1⟩ := hrel
              by_cases hjl : j < L k
              · clear hcell
                obtain ⟨b, o, hcell, hnm, hsz⟩ := HGr.out.at hlt hjl
                generalize S k j = str at hnm hsz
                unfold maxLen at hsz
                by_cases hb1 : str.size ≤ 1048576
                · by_cases hb2 : s + (str.size : Int) ≤ 1048576
                  · go_wp2
                    go_round
                    case rel => exact ⟨j + 1, _, by omega, by go_num, rfl, by omega, by omega⟩
                    case measure => simp [intOf]; omega
                  · go_wp2
                    go_ret
                    exact ⟨⟨_, rfl, trivial⟩, rfl⟩
                · go_wp2
                  go_ret
                  exact ⟨⟨_, rfl, trivial⟩, rfl⟩
              · go_wp2
                go_round
                case rel => exact ⟨k + 1, _, by omega, by go_num, rfl, by omega, by omega⟩
                case measure => simp [intOf]; omega
          · go_wp2
            go_ret
            exact ⟨⟨_, rfl, trivial⟩, rfl⟩
        · go_wp2
          go_ret
          exact ⟨⟨_, rfl, trivial⟩, rfl⟩
      · go_wp2
        go_ret
        exact ⟨⟨_, rfl, trivial⟩, rfl⟩
  · go_enter Try.func22, Try.ntmps22
    go_wp2
    go_ret
    exact ⟨⟨_, rfl, trivial⟩, rfl⟩

set_option maxHeartbeats 400000 in
theorem zz22_empty (a : Option Addr) (cap : Nat) (w : World) :
    Calls Try.prog 22 #[.slice a 0 cap] w fun e w' => RetB (fun _ => True) e ∧ w' = w := by
  go_enter Try.func22, Try.ntmps22
  go_wp2
  refine wp_loop_rounds 1 ?_
  rw [rounds_succ]
  go_wp2
  go_ret
  exact ⟨⟨_, rfl, trivial⟩, rfl⟩

set_option maxRecDepth 100000 in
set_option maxHeartbeats 1000000 in
theorem zz23 (gb go n cap : Nat) (A : Nat → Option Addr) (L C : Nat → Nat) (S : Nat → Nat → ByteArray) (w : World) (hn : n ≤ maxLen) (HGr : Hid (Grps w gb go n A L C S)) :
    Calls Try.prog 23 #[.slice (some ⟨gb, go, none⟩) n cap] w fun e w' => RetB (fun _ => True) e ∧ w' = w := by
  unfold maxLen at hn
  by_cases hbig : n ≤ 1048576
  · go_enter Try.func23, Try.ntmps23
    go_wp2
    go_loop [3, 4] (fun z i => ∃ (k : Nat) (s : Int), k ≤ n ∧ i = .int .i64 k ∧ z = .int .i64 s ∧ 0 ≤ s ∧ s ≤ 1048576) (fun _ i => n - (intOf i).toNat)
    case atStart => exact ⟨0, _, by omega, rfl, rfl, by omega, by omega⟩
    case round =>
      obtain ⟨k, s, hk, rfl, rfl, hs0, hs1⟩ := hrel
      by_cases hlt : k < n
      · have hcell := HGr.out.cell k hlt
        have hlen := HGr.out.len k hlt
        have hl2 : L k ≤ 9223372036854775807 := by have := hlen.2; unfold maxLen at this; omega
        clear hlen
        by_cases hl : L k ≤ 1048576
        · by_cases hsum : s + (L k : Int) ≤ 1048576
          · go_wp2
            go_loop [3, 5] (fun z i => ∃ (j : Nat) (s : Int), j ≤ L k ∧ i = .int .i64 j ∧ z = .int .i64 s ∧ 0 ≤ s ∧ s ≤ 1048576) (fun _ i => L k - (intOf i).toNat)
            case atStart => exact ⟨0, _, by omega, rfl, rfl, by omega, by omega⟩
            case round =>
              clear hsum
              obtain ⟨j, s, hj, rfl, rfl, hs0, hs1⟩ := hrel
              by_cases hjl : j < L k
              · clear hcell
                obtain ⟨b, o, hcell, hnm, hsz⟩ := HGr.out.at hlt hjl
                generalize S k j = str at hnm hsz
                unfold maxLen at hsz
                by_cases hb1 : str.size ≤ 1048576
                · by_cases hb2 : s + (str.size : Int) ≤ 1048576
                  · go_wp2
                    go_round
                    case rel => exact ⟨j + 1, _, by omega, by go_num, rfl, by omega, by omega⟩
                    case measure => simp [intOf]; omega
                  · go_wp2
                    go_ret
                    exact ⟨⟨_, rfl, trivial⟩, rfl⟩
                · go_wp2
                  go_ret
                  exact ⟨⟨_, rfl, trivial⟩, rfl⟩
              · go_wp2
                go_round
                case rel => exact ⟨k + 1, _, by omega, by go_num, rfl, by omega, by omega⟩
                case measure => simp [intOf]; omega
          · go_wp2
            go_ret
            exact ⟨⟨_, rfl, trivial⟩, rfl⟩
        · go_wp2
          go_ret
          exact ⟨⟨_, rfl, trivial⟩, rfl⟩
      · go_wp2
        go_ret
        exact ⟨⟨_, rfl, trivial⟩, rfl⟩
  · go_enter Try.func23, Try.ntmps23
    go_wp2
    go_ret
    exact ⟨⟨_, rfl, trivial⟩, rfl⟩

set_option maxHeartbeats 400000 in
theorem zz23_empty (a : Option Addr) (cap : Nat) (w : World) :
    Calls Try.prog 23 #[.slice a 0 cap] w fun e w' => RetB (fun _ => True) e ∧ w' = w := by
  go_enter Try.func23, Try.ntmps23
  go_wp2
  refine wp_loop_rounds 1 ?_
  rw [rounds_succ]
  go_wp2
  go_ret
  exact ⟨⟨_, rfl, trivial⟩, rfl⟩

set_option maxRecDepth 100000 in
set_option maxHeartbeats 2000000 in
theorem size17 (gb go n cap : Nat) (A : Nat → Option Addr) (L C : Nat → Nat) (S : Nat → Nat → ByteArray) (w : World) (hn : n ≤ maxLen) (HGr : Hid (Grps w gb go n A L C S)) :
    Calls Try.prog 17 #[.slice (some ⟨gb, go, none⟩) n cap] w fun e w' => RetB (SizeOK n L) e ∧ w' = w := by
  unfold maxLen at hn
  by_cases hbig : n ≤ 4096
  · go_enter Try.func17, Try.ntmps17
    go_wp2
    go_loop [3, 4, 5, 6] (fun me na si i => ∃ (k : Nat) (m q : Int), k ≤ n ∧ i = .int .i64 k ∧ me = .int .i64 m ∧ na = .int .i64 q ∧ si = .int .i64 (24 * n + 16 * m) ∧ 0 ≤ m ∧ m ≤ 4096 ∧ 0 ≤ q ∧ q ≤ 65536 ∧ Hid (∀ t, t < k → L t ≤ 4096)) (fun _ _ _ i => n - (intOf i).toNat)
    case atStart => exact ⟨0, 0, 0, by omega, rfl, rfl, rfl, rfl, by omega, by omega, by omega, by omega, fun t ht => by omega⟩
    case round =>
      obtain ⟨k, m, q, hk, rfl, rfl, rfl, rfl, hm0, hm1, hq0, hq1, HL⟩ := hrel
      by_cases hlt : k < n
      · have hcell := HGr.out.cell k hlt
        have hlen := HGr.out.len k hlt
        have hl2 : L k ≤ 9223372036854775807 := by have := hlen.2; unfold maxLen at this; omega
        clear hlen
        by_cases hl : L k ≤ 4096
        · have HL' : Hid (∀ t, t < k + 1 → L t ≤ 4096) := fun t ht => by
            rcases Nat.lt_or_ge t k with h | h
            · exact HL.out t h
            · obtain rfl : t = k := by omega
              exact hl
          clear HL
          by_cases hsum : m + (L k : Int) ≤ 4096
          · go_wp2
            go_loop [4, 7] (fun na i => ∃ (j : Nat) (q : Int), j ≤ L k ∧ i = .int .i64 j ∧ na = .int .i64 q ∧ 0 ≤ q ∧ q ≤ 65536) (fun _ i => L k - (intOf i).toNat)
            case atStart => exact ⟨0, _, by omega, rfl, rfl, by omega, by omega⟩
            case round =>
              obtain ⟨j, q, hj, rfl, rfl, hq0, hq1⟩ := hrel
              by_cases hjl : j < L k
              · clear hcell
                obtain ⟨b, o, hcell, hnm, hsz⟩ := HGr.out.at hlt hjl
                generalize S k j = str at hnm hsz
                unfold maxLen at hsz
                by_cases hb1 : str.size ≤ 65536
                · by_cases hb2 : q + (str.size : Int) ≤ 65536
                  · go_wp2
                    go_round
                    case rel => exact ⟨j + 1, _, by omega, by go_num, rfl, by omega, by omega⟩
                    case measure => simp [intOf]; omega
                  · go_wp2
                    go_ret
                    exact ⟨⟨_, rfl, fun h => by simp at h⟩, rfl⟩
                · go_wp2
                  go_ret
                  exact ⟨⟨_, rfl, fun h => by simp at h⟩, rfl⟩
              · go_wp2
                go_round
                case rel => exact ⟨k + 1, _, _, by omega, by go_num, rfl, rfl, by go_num, by omega, by omega, by omega, by omega, HL'⟩
                case measure => simp [intOf]; omega
          · go_wp2
            go_ret
            exact ⟨⟨_, rfl, fun h => by simp at h⟩, rfl⟩
        · go_wp2
          go_ret
          exact ⟨⟨_, rfl, fun h => by simp at h⟩, rfl⟩
      · have HL' : Hid (∀ t, t < n → L t ≤ 4096) := fun t ht => HL.out t (by omega)
        clear HL
        go_wp2
        go_ret
        exact ⟨⟨_, rfl, fun _ => ⟨hbig, HL'.out⟩⟩, rfl⟩
  · go_enter Try.func17, Try.ntmps17
    go_wp2
    go_ret
    exact ⟨⟨_, rfl, fun h => by simp at h⟩, rfl⟩

set_option maxHeartbeats 400000 in
theorem size17_empty (a : Option Addr) (cap : Nat) (w : World) :
    Calls Try.prog 17 #[.slice a 0 cap] w fun e w' => e = .returned (.bool true) ∧ w' = w := by
  go_enter Try.func17, Try.ntmps17
  go_wp2
  refine wp_loop_rounds 1 ?_
  rw [rounds_succ]
  go_wp2
  go_ret
  exact ⟨rfl, rfl⟩

set_option maxHeartbeats 1000000 in
theorem follows18 (gb go n cap : Nat) (A : Nat → Option Addr) (L C : Nat → Nat) (S : Nat → Nat → ByteArray) (w : World) (hn : n ≤ 4096) (HGr : Hid (Grps w gb go n A L C S)) (HL : Hid (∀ k, k < n → L k ≤ 4096)) :
    Calls Try.prog 18 #[.slice (some ⟨gb, go, none⟩) n cap] w fun e w' => RetB (FollOK n L) e ∧ w' = w := by
  go_enter Try.func18, Try.ntmps18
  go_wp2
  go_loop [3] (fun i => ∃ (k : Nat), k ≤ n ∧ i = .int .i64 k ∧ Hid (∀ t, t < k → 1 ≤ L t)) (fun i => n - (intOf i).toNat)
  case atStart => exact ⟨0, by omega, rfl, fun t ht => by omega⟩
  case round =>
    obtain ⟨k, hk, rfl, HK⟩ := hrel
    by_cases hlt : k < n
    · have hcell := HGr.out.cell k hlt
      have hl := HL.out k hlt
      by_cases h0 : L k = 0
      · have hb : (((L k : Nat) : Int) == 0) = true := by simp; omega
        clear h0
        go_wp2
        go_ret
        exact ⟨⟨_, rfl, fun h => by simp at h⟩, rfl⟩
      · have hb : (((L k : Nat) : Int) == 0) = false := by simp; omega
        have HK' : Hid (∀ t, t < k + 1 → 1 ≤ L t) := fun t ht => by
          rcases Nat.lt_or_ge t k with h | h
          · exact HK.out t h
          · obtain rfl : t = k := by omega
            omega
        clear h0 HK
        go_wp2
        go_round
        case rel => exact ⟨k + 1, by omega, by go_num, HK'⟩
        case measure => simp [intOf]; omega
    · have HK' : Hid (∀ t, t < n → 1 ≤ L t) := fun t ht => HK.out t (by omega)
      clear HK
      go_wp2
      go_ret
      exact ⟨⟨_, rfl, fun _ => HK'.out⟩, rfl⟩

set_option maxHeartbeats 400000 in
theorem follows18_empty (a : Option Addr) (cap : Nat) (w : World) :
    Calls Try.prog 18 #[.slice a 0 cap] w fun e w' => e = .returned (.bool true) ∧ w' = w := by
  go_enter Try.func18, Try.ntmps18
  go_wp2
  refine wp_loop_rounds 1 ?_
  rw [rounds_succ]
  go_wp2
  go_ret
  exact ⟨rfl, rfl⟩
end Go.Proofs.Qxb6601741a
