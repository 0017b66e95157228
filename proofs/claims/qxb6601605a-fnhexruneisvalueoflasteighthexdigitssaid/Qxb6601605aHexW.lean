/-
  hexRune and its wrapper, walked; the plain value of hexadecimal digits.
-/
import Derived.Test.Qxb6601605aRows
import Derived.WalkKit
import Derived.WalkLawsBesides
import Derived.Laws.BitsAllLaws
import Derived.Laws.BitsLemmas
namespace Go.Proofs.Qxb6601605a
open Go.RowKit

theorem ret_int {k : IntKind} {a b : Int} (h : a = b) : Ending.returned (.int k a) = .returned (.int k b) := by rw [h]
theorem ret_bool {a b : Bool} (h : a = b) : Ending.returned (.bool a) = .returned (.bool b) := by rw [h]

/-- The value of a hexadecimal digit. -/
def hv (c : Int) : Int := if 97 ≤ c then c - 87 else if 65 ≤ c then c - 55 else c - 48

/-- What the loop holds behind the digits l. -/
def hx (l : List Int) : Int := l.foldl (fun r c => wrap32 (16 * r + hv c)) 0

/-- The number that the digits write. -/
def hval (l : List Int) : Int := l.foldl (fun r c => 16 * r + hv c) 0

def isHex (c : Int) : Prop := (48 ≤ c ∧ c ≤ 57) ∨ (65 ≤ c ∧ c ≤ 70) ∨ (97 ≤ c ∧ c ≤ 102)

theorem hv_bd {c : Int} (h : isHex c) : 0 ≤ hv c ∧ hv c < 16 := by
  unfold hv; unfold isHex at h
  split
  · omega
  · split <;> omega

theorem wrap32_mul (a b : Int) : wrap32 (16 * wrap32 a + b) = wrap32 (16 * a + b) := by
  unfold wrap32; omega

theorem hx_snoc (l : List Int) (c : Int) : hx (l ++ [c]) = wrap32 (16 * hx l + hv c) := by
  simp [hx, List.foldl_append]

theorem hval_snoc (l : List Int) (c : Int) : hval (l ++ [c]) = 16 * hval l + hv c := by
  simp [hval, List.foldl_append]

theorem hx_hval_rev (l : List Int) : hx l.reverse = wrap32 (hval l.reverse) := by
  induction l with
  | nil => simp [hx, hval, wrap32]
  | cons c t ih => rw [List.reverse_cons, hx_snoc, hval_snoc, ih, wrap32_mul]

theorem hx_hval (l : List Int) : hx l = wrap32 (hval l) := by
  have := hx_hval_rev l.reverse
  rwa [List.reverse_reverse] at this

theorem or_i32 (x y : Int) (hx : x % 16 = 0) (h0 : 0 ≤ y) (h1 : y < 16) : bits .or .i32 x y = wrap32 (x + y) := by
  have e1 : (BitVec.ofInt 32 x).toNat = (x % 4294967296).toNat := by simp [BitVec.toNat_ofInt]
  have e2 : (BitVec.ofInt 32 y).toNat = (y % 4294967296).toNat := by simp [BitVec.toNat_ofInt]
  show IntKind.i32.wrap ((BitVec.ofInt 32 x ||| BitVec.ofInt 32 y).toNat : Int) = _
  rw [BitVec.toNat_or, e1, e2, nat_join 4 _ _ (by omega) (by omega), IntKind.wrap_i32]
  unfold wrap32
  omega

theorem or_round (r c d : Int) (h : isHex c) (hd : d = hv c) : bits .or .i32 (wrap32 (r * 16)) d = wrap32 (16 * r + hv c) := by
  have hb := hv_bd h
  subst hd
  rw [or_i32 _ _ (by unfold wrap32; omega) hb.1 hb.2]
  unfold wrap32; omega

theorem take_snoc' (l : List Int) (k : Nat) (h : k < l.length) : l.take (k + 1) = l.take k ++ [l.getD k 0] := by
  rw [List.take_succ_eq_append_getElem h]; simp [h]

set_option maxHeartbeats 400000 in
theorem hexRune_any (b off n cap : Nat) (zs : List Int) (w : World) (hn : n ≤ 1048576) (hz : n ≤ zs.length)
    (hc : ∀ k, k < n → w.cell? ⟨b, off + k, none⟩ = some (.int .u8 (zs.getD k 0)))
    (hh : ∀ k, k < n → isHex (zs.getD k 0)) :
    Calls Try.prog 17 #[.slice (some ⟨b, off, none⟩) n cap] w fun e w' => e = .returned (.int .i32 (hx (zs.take n))) ∧ w' = w := by
  have HC : Hid (∀ k, k < n → w.cell? ⟨b, off + k, none⟩ = some (.int .u8 (zs.getD k 0))) := hc
  clear hc
  go_enter Try.func17, Try.ntmps17
  go_wp2
  go_loop [3, 8] (fun r i => ∃ k : Nat, k ≤ n ∧ i = .int .i64 k ∧ r = .int .i32 (hx (zs.take k))) (fun _ i => n - (intOf i).toNat)
  case atStart => exact ⟨0, Nat.zero_le _, rfl, rfl⟩
  case round =>
    obtain ⟨k, hk, rfl, rfl⟩ := hrel
    by_cases hlt : k < n
    · have hcell := HC.out k hlt
      have hhk := hh k hlt
      have HS : Hid (hx (zs.take (k + 1)) = wrap32 (16 * hx (zs.take k) + hv (zs.getD k 0))) := by
        show _ = _
        rw [take_snoc' _ _ (by omega), hx_snoc]
      generalize hx (zs.take k) = r at HS
      generalize zs.getD k 0 = c at hcell hhk HS
      rcases (show (48 ≤ c ∧ c ≤ 57) ∨ (65 ≤ c ∧ c ≤ 70) ∨ (97 ≤ c ∧ c ≤ 102) from hhk) with h | h | h
      all_goals
        obtain ⟨h1, h2⟩ := h
        go_wp2
        go_round
        case rel => exact ⟨k + 1, by omega, by go_num, by rw [HS.out, or_round _ c _ hhk (by unfold hv; split <;> (try split) <;> omega)]⟩
        case measure => simp [intOf]; omega
    · obtain rfl : k = n := by omega
      go_wp2
      go_ret
      exact ⟨rfl, rfl⟩

set_option maxHeartbeats 400000 in
theorem zzHexRune_any (b off n cap : Nat) (zs : List Int) (w : World) (hn : n ≤ 1048576) (hz : n ≤ zs.length)
    (hc : ∀ k, k < n → w.cell? ⟨b, off + k, none⟩ = some (.int .u8 (zs.getD k 0)))
    (hh : ∀ k, k < n → isHex (zs.getD k 0)) :
    Calls Try.prog 14 #[.slice (some ⟨b, off, none⟩) n cap] w fun e w' => e = .returned (.int .i32 (hx (zs.take n))) ∧ w' = w := by
  have H := hexRune_any b off n cap zs w hn hz hc hh
  clear hc hh
  have HH : Hid (Calls Try.prog 17 #[.slice (some ⟨b, off, none⟩) n cap] w fun e w' => e = .returned (.int .i32 (hx (zs.take n))) ∧ w' = w) := H
  clear H
  go_enter Try.func14, Try.ntmps14
  go_wp2_with (go_at_call 17; refine (HH.out).mono ?_; rintro e w' ⟨rfl, rfl⟩)
  go_ret
  exact ⟨rfl, rfl⟩

end Go.Proofs.Qxb6601605a
