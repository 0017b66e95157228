/-
  zzB1numStep and zzB1scanModel, walked.
-/
import Derived.Test.Qxb6601605aScanPlain
import Derived.Test.Qxb6601605aCopyW
namespace Go.Proofs.Qxb6601605a
open Go.RowKit

set_option maxRecDepth 100000 in
set_option maxHeartbeats 4000000 in
theorem numStep_any (s c : Int) (hs : 0 ≤ s ∧ s ≤ 8) (w : World) :
    Calls Try.prog 16 #[.int .i64 s, .int .u8 c] w fun e w' => e = .returned (.int .i64 (Pl.step s c)) ∧ w' = w := by
  rcases (show s = 0 ∨ s = 1 ∨ s = 2 ∨ s = 3 ∨ s = 4 ∨ s = 5 ∨ s = 6 ∨ s = 7 ∨ s = 8 from by omega) with e | e | e | e | e | e | e | e | e
  all_goals
    subst e
    clear hs
    go_enter Try.func16, Try.ntmps16
    go_wp2
  all_goals
    go_ret
  all_goals
    refine ⟨ret_int ?_, rfl⟩
    (try simp only [beq_iff_eq, beq_eq_false_iff_ne, ne_eq] at *)
    simp [Pl.step, Pl.dig]
    try (first | omega | ((repeat' split) <;> omega))

theorem step_range (s c : Int) : Pl.step s c = -1 ∨ (1 ≤ Pl.step s c ∧ Pl.step s c ≤ 8) := by
  unfold Pl.step
  repeat' split
  all_goals omega

theorem drop_cons' (zs : List Int) (k : Nat) (h : k < zs.length) : zs.drop k = zs.getD k 0 :: zs.drop (k + 1) := by
  rw [List.drop_eq_getElem_cons h]; simp [h]

theorem run_here (zs : List Int) (k : Nat) (h : k < zs.length) (st : Int) (ng : Bool) (d p : Nat) :
    Pl.run (zs.drop k) st ng d p = if Pl.step st (zs.getD k 0) < 0 then (st, ng, d, p) else
      Pl.run (zs.drop (k + 1)) (Pl.step st (zs.getD k 0)) (if Pl.step st (zs.getD k 0) = 1 then true else ng) (if Pl.step st (zs.getD k 0) = 2 ∨ Pl.step st (zs.getD k 0) = 3 then d + 1 else d) (p + 1) := by
  rw [drop_cons' zs k h, Pl.run]
theorem run_over (zs : List Int) (k : Nat) (h : zs.length ≤ k) (st : Int) (ng : Bool) (d p : Nat) : Pl.run (zs.drop k) st ng d p = (st, ng, d, p) := by
  rw [List.drop_eq_nil_of_le h, Pl.run]

/-- What the model hands back. -/
def modelVal (i : Nat) : Option (Nat × Bool) → Value
  | none => .tuple #[.int .i64 (-1), .bool false]
  | some (e, c) => .tuple #[.int .i64 ((i + e : Nat) : Int), .bool c]

theorem ret_pair' {a b : Int} {c d : Bool} (h : a = b) (h' : c = d) : Ending.returned (.tuple #[.int .i64 a, .bool c]) = .returned (.tuple #[.int .i64 b, .bool d]) := by rw [h, h']

/-- The verdicts, one by one. -/
theorem mv2 {i k d : Nat} {ng : Bool} (h : i ≤ k) : modelVal i (Pl.verdict (2, ng, d, k - i)) = .tuple #[.int .i64 (k : Int), .bool !ng] := by
  simp only [Pl.verdict, if_true, modelVal]; rw [show i + (k - i) = k from by omega]
theorem mv3 {i k d : Nat} {ng : Bool} (h : i ≤ k) : modelVal i (Pl.verdict (3, ng, d, k - i)) = .tuple #[.int .i64 (k : Int), .bool (decide ((d : Int) ≤ 15))] := by
  have e : ¬ ((3 : Int) = 2) := by omega
  simp only [Pl.verdict, if_neg e, if_true, modelVal]; rw [show i + (k - i) = k from by omega, show decide (d ≤ 15) = decide ((d : Int) ≤ 15) from by apply decide_eq_decide.2; omega]
theorem mv58 {i k d : Nat} {ng : Bool} {st : Int} (h : i ≤ k) (hst : st = 5 ∨ st = 8) : modelVal i (Pl.verdict (st, ng, d, k - i)) = .tuple #[.int .i64 (k : Int), .bool false] := by
  have e2 : ¬ st = 2 := by omega
  have e3 : ¬ st = 3 := by omega
  simp only [Pl.verdict, if_neg e2, if_neg e3, if_pos hst, modelVal]; rw [show i + (k - i) = k from by omega]
theorem mvno {i k d : Nat} {ng : Bool} {st : Int} (hst : st = 0 ∨ st = 1 ∨ st = 4 ∨ st = 6 ∨ st = 7) : modelVal i (Pl.verdict (st, ng, d, k - i)) = .tuple #[.int .i64 (-1), .bool false] := by
  have e2 : ¬ st = 2 := by omega
  have e3 : ¬ st = 3 := by omega
  have e5 : ¬ (st = 5 ∨ st = 8) := by omega
  simp only [Pl.verdict, if_neg e2, if_neg e3, if_neg e5, modelVal]

set_option maxRecDepth 100000 in
set_option maxHeartbeats 4000000 in
theorem model_any (b off n cap : Nat) (zs : List Int) (i : Nat) (hi : i < n) (w : World) (hn : n ≤ 1048576) (hz : zs.length = n)
    (HC : Hid (∀ k, k < n → w.cell? ⟨b, off + k, none⟩ = some (.int .u8 (zs.getD k 0)))) :
    Calls Try.prog 10 #[.slice (some ⟨b, off, none⟩) n cap, .int .i64 i] w fun e w' => e = .returned (modelVal i (Pl.verdict (Pl.run (zs.drop i) 0 false 0 0))) ∧ w' = w := by
  have HZ : Hid (zs.length = n) := hz
  clear hz
  obtain ⟨R, hR⟩ : ∃ R, R = Pl.run (zs.drop i) 0 false 0 0 := ⟨_, rfl⟩
  rw [← hR]
  have HR : Hid (R = Pl.run (zs.drop i) 0 false 0 0) := hR
  clear hR
  go_enter Try.func10, Try.ntmps10
  go_wp2
  go_loop [6, 7, 8, 9] (fun s g t q => ∃ (k d : Nat) (st : Int) (ng : Bool), i ≤ k ∧ k ≤ n ∧ d ≤ k - i ∧ (0 ≤ st ∧ st ≤ 8) ∧ s = .int .i64 st ∧ g = .bool ng ∧ t = .int .i64 d ∧ q = .int .i64 k ∧ R = Pl.run (zs.drop k) st ng d (k - i)) (fun _ _ _ q => n - (intOf q).toNat)
  case atStart => exact ⟨i, 0, 0, false, by omega, by omega, by omega, by omega, rfl, rfl, rfl, rfl, by rw [HR.out, Nat.sub_self]⟩
  case round =>
    obtain ⟨k, d, st, ng, h1, h2, h3, h4, rfl, rfl, rfl, rfl, h5⟩ := hrel
    clear HR
    by_cases hlt : k < n
    · have hcell := HC.out k hlt
      rw [run_here zs k (by rw [HZ.out]; exact hlt)] at h5
      generalize zs.getD k 0 = c at hcell h5
      have HST : Hid (Calls Try.prog 16 #[.int .i64 st, .int .u8 c] w fun e w' => e = .returned (.int .i64 (Pl.step st c)) ∧ w' = w) := numStep_any st c h4 w
      have hsr := step_range st c
      generalize Pl.step st c = nx at hsr h5 HST
      rcases hsr with hsr | ⟨hsr, hsr'⟩
      · subst hsr
        rw [if_pos (by omega)] at h5
        subst h5
        rcases (show st = 2 ∨ st = 3 ∨ st = 5 ∨ st = 8 ∨ st = 0 ∨ st = 1 ∨ st = 4 ∨ st = 6 ∨ st = 7 from by omega) with e | e | e | e | e | e | e | e | e <;> subst e <;> clear h4
        all_goals
          go_wp2_with (go_at_call 16; refine HST.out.mono ?_; rintro e w' ⟨rfl, rfl⟩)
          go_ret2
          first
            | exact ⟨by rw [mv2 h1]; rfl, rfl⟩
            | exact ⟨by rw [mv3 h1]; rfl, rfl⟩
            | exact ⟨by rw [mv58 h1 (by omega)]; rfl, rfl⟩
            | exact ⟨by rw [mvno (by omega)]; rfl, rfl⟩
      · rw [if_neg (by omega)] at h5
        rcases (show nx = 1 ∨ nx = 2 ∨ nx = 3 ∨ 4 ≤ nx from by omega) with e | e | e | e
        · subst e
          rw [if_pos rfl, if_neg (by omega)] at h5
          have H5 : Hid (R = _) := h5
          clear h5
          go_wp2_with (go_at_call 16; refine HST.out.mono ?_; rintro e w' ⟨rfl, rfl⟩)
          go_round
          case rel => exact ⟨k + 1, d, 1, true, by omega, by omega, by omega, by omega, rfl, rfl, rfl, by go_num, by rw [H5.out, show k + 1 - i = k - i + 1 from by omega]⟩
          case measure => simp [intOf]; omega
        · subst e
          rw [if_neg (by omega), if_pos (by omega)] at h5
          have H5 : Hid (R = _) := h5
          clear h5
          go_wp2_with (go_at_call 16; refine HST.out.mono ?_; rintro e w' ⟨rfl, rfl⟩)
          go_round
          case rel => exact ⟨k + 1, d + 1, 2, ng, by omega, by omega, by omega, by omega, rfl, rfl, by go_num, by go_num, by rw [H5.out, show k + 1 - i = k - i + 1 from by omega]⟩
          case measure => simp [intOf]; omega
        · subst e
          rw [if_neg (by omega), if_pos (by omega)] at h5
          have H5 : Hid (R = _) := h5
          clear h5
          go_wp2_with (go_at_call 16; refine HST.out.mono ?_; rintro e w' ⟨rfl, rfl⟩)
          go_round
          case rel => exact ⟨k + 1, d + 1, 3, ng, by omega, by omega, by omega, by omega, rfl, rfl, by go_num, by go_num, by rw [H5.out, show k + 1 - i = k - i + 1 from by omega]⟩
          case measure => simp [intOf]; omega
        · rw [if_neg (by omega), if_neg (by omega)] at h5
          have H5 : Hid (R = _) := h5
          clear h5
          have e1 : (nx == 1) = false := by simp; omega
          have e2 : (nx == 2) = false := by simp; omega
          have e3 : (nx == 3) = false := by simp; omega
          go_wp2_with (go_at_call 16; refine HST.out.mono ?_; rintro e w' ⟨rfl, rfl⟩)
          go_round
          case rel => exact ⟨k + 1, d, nx, ng, by omega, by omega, by omega, by omega, rfl, rfl, rfl, by go_num, by rw [H5.out, show k + 1 - i = k - i + 1 from by omega]⟩
          case measure => simp [intOf]; omega
    · rw [run_over zs k (by rw [HZ.out]; omega)] at h5
      subst h5
      rcases (show st = 2 ∨ st = 3 ∨ st = 5 ∨ st = 8 ∨ st = 0 ∨ st = 1 ∨ st = 4 ∨ st = 6 ∨ st = 7 from by omega) with e | e | e | e | e | e | e | e | e <;> subst e <;> clear h4
      all_goals
        go_wp2
        go_ret2
        first
          | exact ⟨by rw [mv2 h1]; rfl, rfl⟩
          | exact ⟨by rw [mv3 h1]; rfl, rfl⟩
          | exact ⟨by rw [mv58 h1 (by omega)]; rfl, rfl⟩
          | exact ⟨by rw [mvno (by omega)]; rfl, rfl⟩
end Go.Proofs.Qxb6601605a
