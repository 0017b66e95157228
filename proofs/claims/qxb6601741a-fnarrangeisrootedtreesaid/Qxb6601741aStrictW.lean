/-
  arrangeStrictlyIncreasing and arrangeFirstCovers, walked.
-/
import Derived.Test.Qxb6601741aHeightW
import Derived.BigQuiet
import Derived.Deep.QuietTactic
namespace Go.Proofs.Qxb6601741a
open Go.RowKit

/-- Each metagroup's groups rise. -/
def StrictOK (n : Nat) (L : Nat → Nat) (S : Nat → Nat → ByteArray) (b : Bool) : Prop := b = true → ∀ k, k < n → ∀ j, j + 1 < L k → Op.bytesLess (S k j).toList (S k (j + 1)).toList = true

/-- The first metagroup follows whatever any follows. -/
def CoverOK (n : Nat) (L : Nat → Nat) (S : Nat → Nat → ByteArray) (b : Bool) : Prop := b = true → ∀ k, k < n → ∀ g ∈ grOf L S k, g ∈ grOf L S 0

set_option maxRecDepth 100000 in
set_option maxHeartbeats 2000000 in
theorem strict20 (gb go n cap : Nat) (A : Nat → Option Addr) (L C : Nat → Nat) (S : Nat → Nat → ByteArray) (w : World) (hn : n ≤ 4096) (HGr : Hid (Grps w gb go n A L C S)) (HL : Hid (∀ k, k < n → L k ≤ 4096)) :
    Calls Try.prog 20 #[.slice (some ⟨gb, go, none⟩) n cap] w fun e w' => RetB (StrictOK n L S) e ∧ Below w.heap.size w w' := by
  go_enter Try.func20, Try.ntmps20
  go_wp2
  go_loopw [3] (fun i wr => ∃ (k d : Nat), k ≤ n ∧ i = .int .i64 k ∧ w.drewN d = wr ∧ Hid (∀ t, t < k → ∀ j, j + 1 < L t → Op.bytesLess (S t j).toList (S t (j + 1)).toList = true)) (fun i _ => n - (intOf i).toNat)
  case atStart => exact ⟨0, 0, by omega, rfl, rfl, fun t ht => by omega⟩
  case round =>
    obtain ⟨k, d, hk, rfl, rfl, HK⟩ := hrel
    by_cases hlt : k < n
    · have hLk := HL.out k hlt
      go_wp2
      go_loopw [4] (fun i wr => ∃ (j d : Nat), j ≤ L k ∧ i = .int .i64 ((j + 1 : Nat) : Int) ∧ w.drewN d = wr ∧ Hid (∀ t, t < j → t + 1 < L k → Op.bytesLess (S k t).toList (S k (t + 1)).toList = true)) (fun i _ => L k + 1 - (intOf i).toNat)
      case atStart => exact ⟨0, d, by omega, rfl, rfl, fun t ht => by omega⟩
      case round =>
        obtain ⟨j, d, hj, rfl, rfl, HJ⟩ := hrel
        by_cases hjl : j + 1 < L k
        · obtain ⟨b, o, hcell, hnm, _⟩ := HGr.out.at hlt (show j < L k from by omega)
          obtain ⟨b2, o2, hcell2, hnm2, _⟩ := HGr.out.at hlt hjl
          rw [hcell] at hcell2
          simp only [Option.some.injEq, Value.slice.injEq, Addr.mk.injEq, and_true] at hcell2
          obtain ⟨rfl, rfl⟩ := hcell2
          have ej : ((j : Int) + 1 - 1).toNat = j := by omega
          have b1 : (k : Int) < (n : Int) := by omega
          have b2 : (j : Int) + 1 < (L k : Int) := by omega
          have b3 : (j : Int) + 1 - 1 < (L k : Int) := by omega
          cases hbl : Op.bytesLess (S k j).toList (S k (j + 1)).toList with
          | true =>
            have HJ' : Hid (∀ t, t < j + 1 → t + 1 < L k → Op.bytesLess (S k t).toList (S k (t + 1)).toList = true) := fun t ht htl => by
              rcases Nat.lt_or_ge t j with h | h
              · exact HJ.out t h htl
              · obtain rfl : t = j := by omega
                exact hbl
            clear HJ
            generalize S k j = s1 at hnm hbl
            generalize S k (j + 1) = s2 at hnm2 hbl
            go_wp2
            go_quiet (fail)
            go_wp2
            go_round
            case rel => exact ⟨j + 1, _, by omega, by go_num, rfl, HJ'⟩
            case measure => simp [intOf]; omega
          | false =>
            clear HJ
            generalize S k j = s1 at hnm hbl
            generalize S k (j + 1) = s2 at hnm2 hbl
            go_wp2
            go_quiet (fail)
            go_wp2
            go_ret
            exact ⟨⟨_, rfl, fun h => by simp at h⟩, (Below.refl _ _).trans ⟨rfl, rfl, rfl, Nat.le_refl _, fun _ _ => rfl⟩⟩
        · have hcell := HGr.out.cell k hlt
          have HK' : Hid (∀ t, t < k + 1 → ∀ j, j + 1 < L t → Op.bytesLess (S t j).toList (S t (j + 1)).toList = true) := fun t ht q hq => by
            rcases Nat.lt_or_ge t k with h | h
            · exact HK.out t h q hq
            · obtain rfl : t = k := by omega
              exact HJ.out q (by omega) hq
          clear HK HJ
          go_wp2
          go_round
          case rel => exact ⟨k + 1, _, by omega, by go_num, rfl, HK'⟩
          case measure => simp [intOf]; omega
    · have HK' : Hid (StrictOK n L S true) := fun _ t ht => HK.out t (by omega)
      clear HK
      go_wp2
      go_ret
      exact ⟨⟨_, rfl, HK'.out⟩, (Below.refl _ _).trans ⟨rfl, rfl, rfl, Nat.le_refl _, fun _ _ => rfl⟩⟩

/-- The state of FirstCovers: the set of the first metagroup's groups in block b. -/
structure CS (w : World) (b m : Nat) (l : List (List UInt8)) (wr : World) : Prop where
  bel : Below w.heap.size w wr
  map : BMap wr b m (fun s => decide (s ∈ l))

set_option maxRecDepth 100000 in
set_option maxHeartbeats 2000000 in
theorem cover21 (gb go n cap : Nat) (A : Nat → Option Addr) (L C : Nat → Nat) (S : Nat → Nat → ByteArray) (w : World) (hn0 : 1 ≤ n) (hn : n ≤ 4096) (HGr : Hid (Grps w gb go n A L C S)) (HL : Hid (∀ k, k < n → L k ≤ 4096)) :
    Calls Try.prog 21 #[.slice (some ⟨gb, go, none⟩) n cap] w fun e w' => RetB (CoverOK n L S) e ∧ Below w.heap.size w w' := by
  have hz : ((n : Int) == 0) = false := by simp; omega
  have hmm := @run_makeMap Try.prog
  go_enter Try.func21, Try.ntmps21
  go_wp2
  have hS : CS w w.heap.size 0 ((grOf L S 0).take 0) (w.alloc (.map #[] 0)) := ⟨(Below.refl _ _).alloc (Nat.le_refl _) _, (BMap.made w).congr (fun t => by simp)⟩
  have hL0 := HL.out 0 (by omega)
  go_loopw [4] (fun i wr => ∃ (j m : Nat), j ≤ L 0 ∧ m ≤ j ∧ i = .int .i64 j ∧ CS w w.heap.size m ((grOf L S 0).take j) wr) (fun i _ => L 0 - (intOf i).toNat)
  case atStart => exact ⟨0, 0, by omega, by omega, rfl, hS⟩
  case round =>
    clear hS hmm
    obtain ⟨j, m, hj, hm, rfl, hS⟩ := hrel
    by_cases hjl : j < L 0
    · obtain ⟨b, o, hcell, hnm, hsz⟩ := (HGr.out.below hS.bel).at (show 0 < n from by omega) hjl
      simp only [Nat.add_zero] at hcell
      obtain ⟨w3, hup, hI3, hgr⟩ := hS.map.update (by unfold maxLen; omega) (S 0 j) hsz
      have HS3 : Hid (CS w w.heap.size (m + 1) ((grOf L S 0).take (j + 1)) w3) := ⟨hS.bel.grown hgr hS.bel.size (fun k hk => by cases hk; omega), hI3.congr (fun t => by
        rw [grOf_take L S 0 j hjl]; unfold bput
        by_cases e : t = (S 0 j).data.toList <;> simp [e])⟩
      clear hS hI3 hgr
      generalize S 0 j = str at hnm hup
      go_wp2
      go_round
      case rel => exact ⟨j + 1, m + 1, by omega, by omega, by go_num, HS3⟩
      case measure => simp [intOf]; omega
    · have hcell := (HGr.out.below hS.bel).cell 0 (show 0 < n from by omega)
      simp only [Nat.add_zero] at hcell
      rw [grOf_take_all L S 0 j (by omega)] at hS
      have HB : Hid (Below w.heap.size w wr) := hS.bel
      have HLK : Hid (∀ str : ByteArray, str.size ≤ maxLen → (Instr.lookup 34 (.map (some w.heap.size)) (.string str) false).run Try.prog wr = .ok (.bool (decide (str.data.toList ∈ grOf L S 0))) wr) := fun str h => hS.map.look str h
      clear hS
      go_wp2
      go_loop [5] (fun i => ∃ (k : Nat), 1 ≤ k ∧ k ≤ n ∧ i = .int .i64 k ∧ Hid (∀ t, t < k → ∀ g ∈ grOf L S t, g ∈ grOf L S 0)) (fun i => n - (intOf i).toNat)
      case atStart =>
        refine ⟨1, by omega, by omega, rfl, fun t ht g hg => ?_⟩
        obtain rfl : t = 0 := by omega
        exact hg
      case round =>
        clear hcell
        obtain ⟨k, hk1, hk, rfl, HK⟩ := hrel
        by_cases hlt : k < n
        · have hLk := HL.out k hlt
          go_wp2
          go_loop [6] (fun i => ∃ (j : Nat), j ≤ L k ∧ i = .int .i64 j ∧ Hid (∀ t, t < j → (S k t).data.toList ∈ grOf L S 0)) (fun i => L k - (intOf i).toNat)
          case atStart => exact ⟨0, by omega, rfl, fun t ht => by omega⟩
          case round =>
            obtain ⟨j, hj, rfl, HJ⟩ := hrel
            by_cases hjl : j < L k
            · obtain ⟨b, o, hcell, hnm, hsz⟩ := (HGr.out.below HB.out).at hlt hjl
              have hlk := HLK.out (S k j) hsz
              by_cases hmem : (S k j).data.toList ∈ grOf L S 0
              · have HJ' : Hid (∀ t, t < j + 1 → (S k t).data.toList ∈ grOf L S 0) := fun t ht => by
                  rcases Nat.lt_or_ge t j with h | h
                  · exact HJ.out t h
                  · obtain rfl : t = j := by omega
                    exact hmem
                simp only [hmem, decide_true] at hlk
                clear hmem HJ hsz
                generalize S k j = str at hnm hlk
                go_wp2
                go_round
                case rel => exact ⟨j + 1, by omega, by go_num, HJ'⟩
                case measure => simp [intOf]; omega
              · simp only [hmem, decide_false] at hlk
                clear hmem HJ hsz
                generalize S k j = str at hnm hlk
                go_wp2
                go_ret
                exact ⟨⟨_, rfl, fun h => by simp at h⟩, HB.out⟩
            · have hcell := (HGr.out.below HB.out).cell k hlt
              have HK' : Hid (∀ t, t < k + 1 → ∀ g ∈ grOf L S t, g ∈ grOf L S 0) := fun t ht g hg => by
                rcases Nat.lt_or_ge t k with h | h
                · exact HK.out t h g hg
                · obtain rfl : t = k := by omega
                  simp only [grOf, List.mem_map, List.mem_range] at hg
                  obtain ⟨q, hq, rfl⟩ := hg
                  exact HJ.out q (by omega)
              clear HK HJ
              go_wp2
              go_round
              case rel => exact ⟨k + 1, by omega, by omega, by go_num, HK'⟩
              case measure => simp [intOf]; omega
        · have HK' : Hid (CoverOK n L S true) := fun _ t ht => HK.out t (by omega)
          clear HK
          go_wp2
          go_ret
          exact ⟨⟨_, rfl, HK'.out⟩, HB.out⟩
end Go.Proofs.Qxb6601741a
