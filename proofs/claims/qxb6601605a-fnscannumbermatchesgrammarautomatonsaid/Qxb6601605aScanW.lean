/-
  skipDigits and scanNumber, walked.
-/
import Derived.Test.Qxb6601605aScanPlain
import Derived.Test.Qxb6601605aCopyW
import Derived.Deep.DeepCutAuto
import Derived.Deep.CutBlock
namespace Go.Proofs.Qxb6601605a
open Go.RowKit

theorem drop_cons (zs : List Int) (k : Nat) (h : k < zs.length) : zs.drop k = zs.getD k 0 :: zs.drop (k + 1) := by
  rw [List.drop_eq_getElem_cons h]; simp [h]

theorem nd_step (zs : List Int) (k : Nat) (h : k < zs.length) (h1 : 48 ≤ zs.getD k 0) (h2 : zs.getD k 0 ≤ 57) : Pl.nd (zs.drop k) = Pl.nd (zs.drop (k + 1)) + 1 := by
  rw [drop_cons zs k h]; simp only [Pl.nd]; rw [if_pos (by rw [Pl.dig_iff]; exact ⟨h1, h2⟩)]
theorem nd_stop (zs : List Int) (k : Nat) (h : k < zs.length) (h1 : ¬ (48 ≤ zs.getD k 0 ∧ zs.getD k 0 ≤ 57)) : Pl.nd (zs.drop k) = 0 := by
  rw [drop_cons zs k h]; simp only [Pl.nd]; rw [if_neg (by rw [Pl.dig_iff]; exact h1)]
theorem nd_end (zs : List Int) (k : Nat) (h : zs.length ≤ k) : Pl.nd (zs.drop k) = 0 := by
  rw [List.drop_eq_nil_of_le h]; rfl
theorem nd_bd (zs : List Int) (k : Nat) : Pl.nd (zs.drop k) ≤ zs.length - k := by
  have := Pl.nd_le (zs.drop k); simpa using this

set_option maxHeartbeats 400000 in
theorem skip_any (b off n cap : Nat) (zs : List Int) (j : Int) (h0 : 0 ≤ j) (h1 : j ≤ n) (w : World) (hn : n ≤ 1048576) (hz : zs.length = n)
    (HC : Hid (∀ k, k < n → w.cell? ⟨b, off + k, none⟩ = some (.int .u8 (zs.getD k 0)))) :
    Calls Try.prog 18 #[.slice (some ⟨b, off, none⟩) n cap, .int .i64 j] w fun e w' => e = .returned (.int .i64 (j + (Pl.nd (zs.drop j.toNat) : Nat))) ∧ w' = w := by
  obtain ⟨i, rfl⟩ := Int.eq_ofNat_of_zero_le h0
  rw [Int.toNat_natCast]
  have HZ : Hid (zs.length = n) := hz
  clear hz
  go_enter Try.func18, Try.ntmps18
  go_wp2
  go_loop [1] (fun t => ∃ k : Nat, k ≤ n ∧ t = .int .i64 k ∧ k + Pl.nd (zs.drop k) = i + Pl.nd (zs.drop i)) (fun t => n - (intOf t).toNat)
  case atStart => exact ⟨i, by omega, rfl, rfl⟩
  case round =>
    obtain ⟨k, hk, rfl, hs⟩ := hrel
    have HS : Hid (k + Pl.nd (zs.drop k) = i + Pl.nd (zs.drop i)) := hs
    clear hs
    by_cases hlt : k < n
    · have hcell := HC.out k hlt
      by_cases hd : 48 ≤ zs.getD k 0 ∧ zs.getD k 0 ≤ 57
      · have hst := nd_step zs k (by rw [HZ.out]; exact hlt) hd.1 hd.2
        have HS2 : Hid ((k + 1) + Pl.nd (zs.drop (k + 1)) = i + Pl.nd (zs.drop i)) := by have := HS.out; show _ = _; omega
        clear hst
        generalize zs.getD k 0 = c at hcell hd
        obtain ⟨hd1, hd2⟩ := hd
        go_wp2
        go_round
        case rel => exact ⟨k + 1, by omega, by go_num, HS2.out⟩
        case measure => simp [intOf]; omega
      · have hst := nd_stop zs k (by rw [HZ.out]; exact hlt) hd
        have HS2 : Hid ((k : Int) = i + (Pl.nd (zs.drop i) : Nat)) := by have := HS.out; show _ = _; omega
        clear hst
        generalize zs.getD k 0 = c at hcell hd
        rcases (show c < 48 ∨ (48 ≤ c ∧ 57 < c) from by omega) with h | ⟨h, h'⟩
        all_goals
          clear hd
          go_wp2
          go_ret
          exact ⟨ret_int HS2.out, rfl⟩
    · have hst := nd_end zs k (by rw [HZ.out]; omega)
      have HS2 : Hid ((k : Int) = i + (Pl.nd (zs.drop i) : Nat)) := by have := HS.out; show _ = _; omega
      clear hst
      go_wp2
      go_ret
      exact ⟨ret_int HS2.out, rfl⟩

theorem neg_cases (zs : List Int) (i : Nat) (h : i < zs.length) : (zs.getD i 0 = 45 ∧ Pl.isNeg (zs.drop i) = true ∧ Pl.negLen (zs.drop i) = 1) ∨ (zs.getD i 0 ≠ 45 ∧ Pl.isNeg (zs.drop i) = false ∧ Pl.negLen (zs.drop i) = 0) := by
  rw [drop_cons zs i h]
  by_cases e : zs.getD i 0 = 45
  · left
    have h1 : Pl.isNeg (zs.getD i 0 :: zs.drop (i + 1)) = true := by simpa [Pl.isNeg] using e
    exact ⟨e, h1, by unfold Pl.negLen; rw [h1]; rfl⟩
  · right
    have h1 : Pl.isNeg (zs.getD i 0 :: zs.drop (i + 1)) = false := by simpa [Pl.isNeg] using e
    exact ⟨e, h1, by unfold Pl.negLen; rw [h1]; rfl⟩

theorem int_cases (zs : List Int) (j : Nat) : (j < zs.length ∧ zs.getD j 0 = 48 ∧ Pl.intPart (zs.drop j) = some 1) ∨
    (j < zs.length ∧ (49 ≤ zs.getD j 0 ∧ zs.getD j 0 ≤ 57) ∧ Pl.intPart (zs.drop j) = some (Pl.nd (zs.drop (j + 1)) + 1)) ∨
    (zs.length ≤ j ∧ Pl.intPart (zs.drop j) = none) ∨
    (j < zs.length ∧ (zs.getD j 0 < 48 ∨ 57 < zs.getD j 0) ∧ Pl.intPart (zs.drop j) = none) := by
  by_cases h : j < zs.length
  · rw [drop_cons zs j h]
    simp only [Pl.intPart]
    by_cases h1 : zs.getD j 0 = 48
    · left; exact ⟨h, h1, if_pos h1⟩
    · by_cases h2 : 49 ≤ zs.getD j 0 ∧ zs.getD j 0 ≤ 57
      · right; left; exact ⟨h, h2, by rw [if_neg h1, if_pos h2]⟩
      · right; right; right; exact ⟨h, by omega, by rw [if_neg h1, if_neg h2]⟩
  · right; right; left
    exact ⟨by omega, by rw [List.drop_eq_nil_of_le (by omega)]; rfl⟩

/-- What the scanner hands back. -/
def scanVal (i : Nat) : Option (Nat × Bool) → Value
  | none => .tuple #[.int .i64 (-1), .bool false]
  | some (e, c) => .tuple #[.int .i64 ((i + e : Nat) : Int), .bool c]

theorem frac_cases (zs : List Int) (j : Nat) : (j < zs.length ∧ zs.getD j 0 = 46 ∧ 1 ≤ Pl.nd (zs.drop (j + 1)) ∧ Pl.frac (zs.drop j) = some (Pl.nd (zs.drop (j + 1)) + 1)) ∨
    (j < zs.length ∧ zs.getD j 0 = 46 ∧ Pl.nd (zs.drop (j + 1)) = 0 ∧ Pl.frac (zs.drop j) = none) ∨
    (¬ (j < zs.length ∧ zs.getD j 0 = 46) ∧ Pl.frac (zs.drop j) = some 0) := by
  by_cases h : j < zs.length
  · rw [drop_cons zs j h]
    simp only [Pl.frac]
    by_cases h1 : zs.getD j 0 = 46
    · by_cases h2 : Pl.nd (zs.drop (j + 1)) = 0
      · right; left; exact ⟨h, h1, h2, by rw [if_pos h1, if_pos h2]⟩
      · left; exact ⟨h, h1, by omega, by rw [if_pos h1, if_neg h2]⟩
    · right; right; exact ⟨by omega, by rw [if_neg h1]⟩
  · right; right
    exact ⟨by omega, by rw [List.drop_eq_nil_of_le (by omega)]; rfl⟩

theorem nd_digit (zs : List Int) (j t : Nat) (h : t < Pl.nd (zs.drop j)) : 48 ≤ zs.getD (j + t) 0 ∧ zs.getD (j + t) 0 ≤ 57 := by
  induction t generalizing j with
  | zero =>
    rcases Nat.lt_or_ge j zs.length with hl | hl
    · rcases Classical.em (48 ≤ zs.getD j 0 ∧ zs.getD j 0 ≤ 57) with hd | hd
      · exact hd
      · rw [nd_stop zs j hl hd] at h; omega
    · rw [nd_end zs j hl] at h; omega
  | succ t ih =>
    rcases Nat.lt_or_ge j zs.length with hl | hl
    · rcases Classical.em (48 ≤ zs.getD j 0 ∧ zs.getD j 0 ≤ 57) with hd | hd
      · rw [nd_step zs j hl hd.1 hd.2] at h
        have := ih (j + 1) (by omega)
        rwa [show j + 1 + t = j + (t + 1) from by omega] at this
      · rw [nd_stop zs j hl hd] at h; omega
    · rw [nd_end zs j hl] at h; omega

theorem scan_none2 {zs : List Int} {i m k : Nat} (hm : Pl.negLen (zs.drop i) = m) (hk : Pl.intPart (zs.drop (i + m)) = some k) (h : Pl.frac (zs.drop (i + m + k)) = none) :
    scanVal i (Pl.scan (zs.drop i)) = .tuple #[.int .i64 (-1), .bool false] := by
  have : Pl.scan (zs.drop i) = none := by
    simp only [Pl.scan, hm, List.drop_drop, hk]
    rw [show i + (m + k) = i + m + k from by omega, h]
  rw [this]; rfl

theorem ret_pair {a b : Int} {c d : Bool} (h : a = b) (h' : c = d) : Ending.returned (.tuple #[.int .i64 a, .bool c]) = .returned (.tuple #[.int .i64 b, .bool d]) := by rw [h, h']

/-- How the number ends, once its integer and its fraction are known. -/
def expEnd (p : Nat) (cf : Bool) : Option Nat → Value
  | none => .tuple #[.int .i64 (-1), .bool false]
  | some e => .tuple #[.int .i64 ((p + e : Nat) : Int), .bool (cf && decide (e = 0))]

theorem frac_done {zs : List Int} {i m k j f p : Nat} {ng cn : Bool} (hg : Pl.isNeg (zs.drop i) = ng) (hm : Pl.negLen (zs.drop i) = m) (hk : Pl.intPart (zs.drop (i + m)) = some k)
    (hc : cn = (decide (k ≤ 15) && !(ng && Pl.isZero (zs.drop (i + m))))) (hj : j = i + m + k) (hf : Pl.frac (zs.drop j) = some f) (hp : p = j + f) :
    Hid (scanVal i (Pl.scan (zs.drop i)) = expEnd p (cn && decide (f = 0)) (Pl.expo (zs.drop p))) := by
  subst hc; subst hj; subst hp
  show _ = _
  simp only [Pl.scan, hm, hg, List.drop_drop, hk]
  rw [show i + (m + k) = i + m + k from by omega, hf]
  simp only
  rw [show i + (m + k + f) = i + m + k + f from by omega]
  cases Pl.expo (zs.drop (i + m + k + f)) with
  | none => rfl
  | some e =>
    simp only [scanVal, expEnd]
    rw [show i + (m + k + f + e) = i + m + k + f + e from by omega]

theorem expo_cases (zs : List Int) (j : Nat) :
    (j < zs.length ∧ (zs.getD j 0 = 101 ∨ zs.getD j 0 = 69) ∧ Pl.expo (zs.drop j) = if Pl.nd (zs.drop (j + 1 + Pl.sgn (zs.drop (j + 1)))) = 0 then none else some (Pl.nd (zs.drop (j + 1 + Pl.sgn (zs.drop (j + 1)))) + Pl.sgn (zs.drop (j + 1)) + 1)) ∨
    (j < zs.length ∧ ¬ (zs.getD j 0 = 101 ∨ zs.getD j 0 = 69) ∧ Pl.expo (zs.drop j) = some 0) ∨
    (zs.length ≤ j ∧ Pl.expo (zs.drop j) = some 0) := by
  by_cases h : j < zs.length
  · rw [drop_cons zs j h]
    simp only [Pl.expo, List.drop_drop]
    by_cases h1 : zs.getD j 0 = 101 ∨ zs.getD j 0 = 69
    · left; exact ⟨h, h1, by rw [if_pos h1]⟩
    · right; left; exact ⟨h, h1, by rw [if_neg h1]⟩
  · right; right
    exact ⟨by omega, by rw [List.drop_eq_nil_of_le (by omega)]; rfl⟩

theorem sgn_cases (zs : List Int) (j : Nat) :
    (j < zs.length ∧ (zs.getD j 0 = 43 ∨ zs.getD j 0 = 45) ∧ Pl.sgn (zs.drop j) = 1) ∨
    (j < zs.length ∧ ¬ (zs.getD j 0 = 43 ∨ zs.getD j 0 = 45) ∧ Pl.sgn (zs.drop j) = 0) ∨
    (zs.length ≤ j ∧ Pl.sgn (zs.drop j) = 0) := by
  by_cases h : j < zs.length
  · rw [drop_cons zs j h]
    simp only [Pl.sgn]
    by_cases h1 : zs.getD j 0 = 43 ∨ zs.getD j 0 = 45
    · left; exact ⟨h, h1, if_pos h1⟩
    · right; left; exact ⟨h, h1, if_neg h1⟩
  · right; right
    exact ⟨by omega, by rw [List.drop_eq_nil_of_le (by omega)]; rfl⟩

theorem nd_cases (zs : List Int) (j : Nat) :
    (j < zs.length ∧ (48 ≤ zs.getD j 0 ∧ zs.getD j 0 ≤ 57) ∧ ¬ Pl.nd (zs.drop j) = 0) ∨
    (j < zs.length ∧ (zs.getD j 0 < 48 ∨ 57 < zs.getD j 0) ∧ Pl.nd (zs.drop j) = 0) ∨
    (zs.length ≤ j ∧ Pl.nd (zs.drop j) = 0) := by
  by_cases h : j < zs.length
  · by_cases h1 : 48 ≤ zs.getD j 0 ∧ zs.getD j 0 ≤ 57
    · left; exact ⟨h, h1, by rw [nd_step zs j h h1.1 h1.2]; omega⟩
    · right; left; exact ⟨h, by omega, nd_stop zs j h h1⟩
  · right; right; exact ⟨by omega, nd_end zs j (by omega)⟩

theorem scan_none1 {zs : List Int} {i m : Nat} (hm : Pl.negLen (zs.drop i) = m) (h : Pl.intPart (zs.drop (i + m)) = none) : scanVal i (Pl.scan (zs.drop i)) = .tuple #[.int .i64 (-1), .bool false] := by
  have : Pl.scan (zs.drop i) = none := by simp only [Pl.scan, hm, List.drop_drop, h]
  rw [this]; rfl

set_option maxRecDepth 100000 in
set_option maxHeartbeats 4000000 in
theorem scan_any (b off n cap : Nat) (zs : List Int) (i : Nat) (hi : i < n) (w : World) (hn : n ≤ 1048576) (hz : zs.length = n)
    (HC : Hid (∀ k, k < n → w.cell? ⟨b, off + k, none⟩ = some (.int .u8 (zs.getD k 0)))) :
    Calls Try.prog 15 #[.slice (some ⟨b, off, none⟩) n cap, .int .i64 i] w fun e w' => e = .returned (scanVal i (Pl.scan (zs.drop i))) ∧ w' = w := by
  have HZ : Hid (zs.length = n) := hz
  clear hz
  have hcell := HC.out i hi
  have hm := Pl.negLen_le (zs.drop i)
  generalize hng : Pl.isNeg (zs.drop i) = ng
  generalize hml : Pl.negLen (zs.drop i) = m at hm
  have hA := neg_cases zs i (by rw [HZ.out]; exact hi)
  rw [hng, hml] at hA
  have HNG := (show Hid (Pl.isNeg (zs.drop i) = ng) from hng)
  have HML := (show Hid (Pl.negLen (zs.drop i) = m) from hml)
  clear hng hml
  generalize zs.getD i 0 = c at hcell hA
  have HA : Hid ((c = 45 ∧ ng = true ∧ m = 1) ∨ (c ≠ 45 ∧ ng = false ∧ m = 0)) := hA
  clear hA
  go_enter Try.func15, Try.ntmps15
  go_upto_if 13 with fail
  go_cut [1, 6] (fun t g wc => t = .int .i64 ((i + m : Nat) : Int) ∧ g = .bool ng ∧ w = wc)
  case first =>
    clear hm
    rcases HA.out with ⟨h1, rfl, rfl⟩ | ⟨h1, rfl, rfl⟩
    · have hb : (c == 45) = true := by simpa using h1
      clear h1 HA
      go_wp2
      go_meet
      case rel => exact ⟨by go_num, by rw [hb], rfl⟩
    · have hb : (c == 45) = false := by simpa using h1
      clear h1 HA
      go_wp2
      go_meet
      case rel => exact ⟨by go_num, by rw [hb], rfl⟩
  case rest =>
    obtain ⟨rfl, rfl, rfl⟩ := hcut
    clear HA hcell hi
    go_upto_block 0 with fail
    go_cut [1] (fun t wc => ∃ k : Nat, Pl.intPart (zs.drop (i + m)) = some k ∧ t = .int .i64 ((i + m + k : Nat) : Int) ∧ w = wc)
    case first =>
      have hs := HC.out (i + m)
      have hcs := int_cases zs (i + m)
      rw [HZ.out] at hcs
      generalize zs.getD (i + m) 0 = c at hs hcs
      rcases hcs with ⟨h1, h2, h3⟩ | ⟨h1, ⟨h2, h2'⟩, h3⟩ | ⟨h1, h3⟩ | ⟨h1, h2, h3⟩
      · have H3 : Hid (Pl.intPart (zs.drop (i + m)) = some 1) := h3
        replace hs := hs h1
        subst h2
        clear h3
        go_wp2
        go_meet
        case rel => exact ⟨1, H3.out, by go_num, rfl⟩
      · have H3 : Hid (Pl.intPart (zs.drop (i + m)) = some (Pl.nd (zs.drop (i + m + 1)) + 1)) := h3
        replace hs := hs h1
        have hb : (c == 48) = false := by simp; omega
        clear h3
        go_wp2_with (go_at_call 18; refine (skip_any _ _ _ _ zs _ (by omega) (by omega) _ (by omega) HZ.out HC).mono ?_; rintro e w' ⟨rfl, rfl⟩)
        go_meet
        case rel =>
          refine ⟨_, H3.out, ?_, rfl⟩
          rw [show ((i : Int) + (m : Int) + 1).toNat = i + m + 1 from by omega]
          go_num
      · have HN : Hid (scanVal i (Pl.scan (zs.drop i)) = .tuple #[.int .i64 (-1), .bool false]) := scan_none1 HML.out h3
        clear h3 hs
        go_wp2
        go_ret2
        exact ⟨by rw [HN.out]; rfl, rfl⟩
      · have HN : Hid (scanVal i (Pl.scan (zs.drop i)) = .tuple #[.int .i64 (-1), .bool false]) := scan_none1 HML.out h3
        replace hs := hs h1
        clear h3
        rcases h2 with h2 | h2
        · have hb : (c == 48) = false := by simp; omega
          go_wp2
          go_ret2
          exact ⟨by rw [HN.out]; rfl, rfl⟩
        · have hb : (c == 48) = false := by simp; omega
          go_wp2
          go_ret2
          exact ⟨by rw [HN.out]; rfl, rfl⟩
    case rest =>
      obtain ⟨k, hk, rfl, rfl⟩ := hcut
      have HK : Hid (Pl.intPart (zs.drop (i + m)) = some k) := hk
      have hkl := Pl.intPart_le _ _ hk
      have hkn : i + m + k ≤ n := by have := HZ.out; simp only [List.length_drop] at hkl; omega
      have hk1 : 1 ≤ k := hkl.1
      have hs := HC.out (i + m) (by omega)
      obtain ⟨cn, hcn⟩ : ∃ cn, cn = (decide (k ≤ 15) && !(ng && Pl.isZero (zs.drop (i + m)))) := ⟨_, rfl⟩
      have HCN : Hid (cn = (decide (k ≤ 15) && !(ng && Pl.isZero (zs.drop (i + m))))) := hcn
      have HI : Hid (cn = (decide (k ≤ 15) && !(ng && (zs.getD (i + m) 0 == 48)))) := by
        show _ = _
        rw [hcn, drop_cons zs (i + m) (by rw [HZ.out]; omega)]; rfl
      obtain ⟨j, hj⟩ : ∃ j, j = i + m + k := ⟨_, rfl⟩
      have HJ : Hid (j = i + m + k) := hj
      have hjn : j ≤ n := by omega
      clear hk hkl hcn hj
      generalize zs.getD (i + m) 0 = c at hs HI
      go_upto_region 10 with fail
      go_cut [1, 5, 6] (fun t1 t _ wc => t1 = .int .i64 (j : Int) ∧ t = .bool cn ∧ w = wc)
      case first =>
        go_wp2
        · have h15 : k ≤ 15 := by omega
          have hg : ng = true := by assumption
          go_meet
          case rel => exact ⟨by rw [HJ.out]; go_num, congrArg Value.bool (by rw [HI.out]; simp [h15, hg]), rfl⟩
        · have h15 : k ≤ 15 := by omega
          have hg : ¬ ng = true := by assumption
          go_meet
          case rel => exact ⟨by rw [HJ.out]; go_num, congrArg Value.bool (by rw [HI.out]; simp [h15, hg]), rfl⟩
        · have h15 : ¬ k ≤ 15 := by omega
          go_meet
          case rel => exact ⟨by rw [HJ.out]; go_num, congrArg Value.bool (by rw [HI.out]; simp [h15]), rfl⟩
      case rest =>
        obtain ⟨rfl, rfl, rfl⟩ := hcut
        clear hs HI
        have hs := HC.out j
        have hcs := frac_cases zs j
        rw [HZ.out] at hcs
        go_upto_region 11 with fail
        go_cut [79] (fun t wc => t = .bool (decide (j < n) && (zs.getD j 0 == 46)) ∧ w = wc)
        case first =>
          clear hcs
          by_cases h1 : j < n
          · replace hs := hs h1
            generalize hcj : zs.getD j 0 = c at hs
            have HCJ : Hid (zs.getD j 0 = c) := hcj
            clear hcj
            go_wp2
            go_meet
            case rel => exact ⟨congrArg Value.bool (by rw [HCJ.out]; simp [h1]), rfl⟩
          · clear hs
            go_wp2
            go_meet
            case rel => exact ⟨congrArg Value.bool (by simp [h1]), rfl⟩
        case rest =>
          obtain ⟨rfl, rfl⟩ := hcut
          go_upto_if 79 with fail
          go_cut [1, 5] (fun t1 t wc => ∃ f : Nat, Pl.frac (zs.drop j) = some f ∧ t1 = .int .i64 ((j + f : Nat) : Int) ∧ t = .bool (cn && decide (f = 0)) ∧ w = wc)
          case first =>
            rcases hcs with ⟨h1, h2, h3, h4⟩ | ⟨h1, h2, h3, h4⟩ | ⟨h1, h4⟩
            · replace hs := hs h1
              have hs2 := HC.out (j + Pl.nd (zs.drop (j + 1))) (by have := nd_bd zs (j + 1); rw [HZ.out] at this; omega)
              have hd2 := nd_digit zs (j + 1) (Pl.nd (zs.drop (j + 1)) - 1) (by omega)
              rw [show j + 1 + (Pl.nd (zs.drop (j + 1)) - 1) = j + Pl.nd (zs.drop (j + 1)) from by omega] at hd2
              have H4 : Hid (Pl.frac (zs.drop j) = some (Pl.nd (zs.drop (j + 1)) + 1)) := h4
              have hq : j + Pl.nd (zs.drop (j + 1)) < n := by have := nd_bd zs (j + 1); rw [HZ.out] at this; omega
              have hb : (decide (j < n) && (zs.getD j 0 == 46)) = true := by simp only [h1, h2]; rfl
              have HSK : Hid (Calls Try.prog 18 #[.slice (some ⟨b, off, none⟩) n cap, .int .i64 ((j : Int) + 1)] w fun e w' => e = .returned (.int .i64 ((j : Int) + 1 + (Pl.nd (zs.drop (j + 1)) : Nat))) ∧ w' = w) := by
                have := skip_any b off n cap zs ((j : Int) + 1) (by omega) (by omega) w hn HZ.out HC
                rwa [show ((j : Int) + 1).toNat = j + 1 from by omega] at this
              rw [hb]
              clear h4 hs h2 hb
              generalize zs.getD (j + Pl.nd (zs.drop (j + 1))) 0 = d at hs2 hd2
              generalize Pl.nd (zs.drop (j + 1)) = q at hs2 H4 hq HSK h3
              obtain ⟨hd2, hd3⟩ := hd2
              have hb2 : (d == 46) = false := by simp; omega
              have ei : ((j : Int) + 1 + (q : Int) - 1).toNat = j + q := by omega
              go_wp2_with (go_at_call 18; refine HSK.out.mono ?_; rintro e w' ⟨rfl, rfl⟩)
              go_meet
              case rel => exact ⟨_, H4.out, by go_num, congrArg Value.bool (by simp), rfl⟩
            · replace hs := hs h1
              have hb : (decide (j < n) && (zs.getD j 0 == 46)) = true := by simp only [h1, h2]; rfl
              have HSK : Hid (Calls Try.prog 18 #[.slice (some ⟨b, off, none⟩) n cap, .int .i64 ((j : Int) + 1)] w fun e w' => e = .returned (.int .i64 ((j : Int) + 1)) ∧ w' = w) := by
                have := skip_any b off n cap zs ((j : Int) + 1) (by omega) (by omega) w hn HZ.out HC
                rw [show ((j : Int) + 1).toNat = j + 1 from by omega, h3] at this
                show Calls _ _ _ _ _
                simpa using this
              have HN : Hid (scanVal i (Pl.scan (zs.drop i)) = .tuple #[.int .i64 (-1), .bool false]) := scan_none2 HML.out HK.out (by rw [← HJ.out]; exact h4)
              rw [hb]
              rw [h2] at hs
              clear h4 h2 hb h3
              have ei : ((j : Int) + 1 - 1).toNat = j := by omega
              go_wp2_with (go_at_call 18; refine HSK.out.mono ?_; rintro e w' ⟨rfl, rfl⟩)
              go_ret2
              exact ⟨by rw [HN.out]; rfl, rfl⟩
            · have hb : (decide (j < n) && (zs.getD j 0 == 46)) = false := by
                by_cases e : j < n
                · simp only [e, decide_true, Bool.true_and]; simpa using fun e2 => h1 ⟨e, e2⟩
                · simp [e]
              have H4 : Hid (Pl.frac (zs.drop j) = some 0) := h4
              rw [hb]
              clear h4 hs h1 hb
              go_wp2
              go_meet
              case rel => exact ⟨0, H4.out, by go_num, congrArg Value.bool (by simp), rfl⟩
          case rest =>
            obtain ⟨f, hf, rfl, rfl, rfl⟩ := hcut
            have hfl := Pl.frac_le _ _ hf
            simp only [List.length_drop, HZ.out] at hfl
            obtain ⟨p, hp⟩ : ∃ p, p = j + f := ⟨_, rfl⟩
            have hpn : p ≤ n := by omega
            rw [← hp]
            have HF := frac_done HNG.out HML.out HK.out HCN.out HJ.out hf hp
            clear hcs hs hfl hf hp
            generalize (cn && decide (f = 0)) = cf at HF
            have hcs := expo_cases zs p
            rw [HZ.out] at hcs
            rcases hcs with ⟨h1, h2, h3⟩ | ⟨h1, h2, h3⟩ | ⟨h1, h3⟩
            · have hs := HC.out p h1
              have hsg := sgn_cases zs (p + 1)
              rw [HZ.out] at hsg
              rw [h3] at HF
              clear h3
              rcases hsg with ⟨g1, g2, g3⟩ | ⟨g1, g2, g3⟩ | ⟨g1, g3⟩
              · -- a sign
                rw [g3] at HF
                have hs1 := HC.out (p + 1) g1
                have hnd := nd_cases zs (p + 1 + 1)
                rw [HZ.out] at hnd
                rcases hnd with ⟨d1, d2, d3⟩ | ⟨d1, d2, d3⟩ | ⟨d1, d3⟩
                · rw [if_neg d3] at HF
                  have hs2 := HC.out (p + 1 + 1) d1
                  have HSK : Hid (Calls Try.prog 18 #[.slice (some ⟨b, off, none⟩) n cap, .int .i64 ((p : Int) + 1 + 1)] w fun e w' => e = .returned (.int .i64 ((p : Int) + 1 + 1 + (Pl.nd (zs.drop (p + 1 + 1)) : Nat))) ∧ w' = w) := by
                    have := skip_any b off n cap zs ((p : Int) + 1 + 1) (by omega) (by omega) w hn HZ.out HC
                    rwa [show ((p : Int) + 1 + 1).toNat = p + 1 + 1 from by omega] at this
                  generalize zs.getD (p + 1 + 1) 0 = d at hs2 d2
                  generalize Pl.nd (zs.drop (p + 1 + 1)) = q at HF HSK d3
                  obtain ⟨d2, d2'⟩ := d2
                  have hpn1 : ((p : Int) + 1 + 1 == (n : Int)) = false := by simp; omega
                  clear d3
                  rcases h2 with h2 | h2 <;> rcases g2 with g2 | g2 <;> rw [h2] at hs <;> rw [g2] at hs1 <;> clear h2 g2
                  all_goals
                    go_wp2_with (go_at_call 18; refine HSK.out.mono ?_; rintro e w' ⟨rfl, rfl⟩)
                    go_ret2
                    exact ⟨by rw [HF.out]; exact ret_pair (by omega) (by simp), rfl⟩
                · rw [if_pos d3] at HF
                  have hs2 := HC.out (p + 1 + 1) d1
                  generalize zs.getD (p + 1 + 1) 0 = d at hs2 d2
                  have hpn1 : ((p : Int) + 1 + 1 == (n : Int)) = false := by simp; omega
                  clear d3
                  rcases h2 with h2 | h2 <;> rcases g2 with g2 | g2 <;> rcases d2 with d2 | d2 <;> rw [h2] at hs <;> rw [g2] at hs1 <;> clear h2 g2
                  all_goals
                    go_wp2
                    go_ret2
                    exact ⟨by rw [HF.out]; rfl, rfl⟩
                · rw [if_pos d3] at HF
                  have hpn1 : ((p : Int) + 1 + 1 == (n : Int)) = true := by simp; omega
                  clear d3
                  rcases h2 with h2 | h2 <;> rcases g2 with g2 | g2 <;> rw [h2] at hs <;> rw [g2] at hs1 <;> clear h2 g2
                  all_goals
                    go_wp2
                    go_ret2
                    exact ⟨by rw [HF.out]; rfl, rfl⟩
              · -- no sign
                rw [g3] at HF
                have hs1 := HC.out (p + 1) g1
                have hnd := nd_cases zs (p + 1)
                rw [HZ.out] at hnd
                have hpn1 : ((p : Int) + 1 == (n : Int)) = false := by simp; omega
                simp only [Nat.add_zero] at HF
                have HSK : Hid (Calls Try.prog 18 #[.slice (some ⟨b, off, none⟩) n cap, .int .i64 ((p : Int) + 1)] w fun e w' => e = .returned (.int .i64 ((p : Int) + 1 + (Pl.nd (zs.drop (p + 1)) : Nat))) ∧ w' = w) := by
                  have := skip_any b off n cap zs ((p : Int) + 1) (by omega) (by omega) w hn HZ.out HC
                  rwa [show ((p : Int) + 1).toNat = p + 1 from by omega] at this
                generalize zs.getD (p + 1) 0 = d at hs1 hnd g2
                have g4 : (d == 43) = false := by simp; omega
                have g5 : (d == 45) = false := by simp; omega
                clear g2
                rcases hnd with ⟨d1, d2, d3⟩ | ⟨d1, d2, d3⟩ | ⟨d1, d3⟩
                · rw [if_neg d3] at HF
                  generalize Pl.nd (zs.drop (p + 1)) = q at HF HSK d3
                  obtain ⟨d2, d2'⟩ := d2
                  clear d3
                  rcases h2 with h2 | h2 <;> rw [h2] at hs <;> clear h2
                  all_goals
                    go_wp2_with (go_at_call 18; refine HSK.out.mono ?_; rintro e w' ⟨rfl, rfl⟩)
                    go_ret2
                    exact ⟨by rw [HF.out]; exact ret_pair (by omega) (by simp), rfl⟩
                · rw [if_pos d3] at HF
                  clear d3 HSK
                  rcases h2 with h2 | h2 <;> rcases d2 with d2 | d2 <;> rw [h2] at hs <;> clear h2
                  all_goals
                    go_wp2
                    go_ret2
                    exact ⟨by rw [HF.out]; rfl, rfl⟩
                · omega
              · -- the text ends behind the e
                rw [g3] at HF
                have hnd : Pl.nd (zs.drop (p + 1)) = 0 := nd_end zs (p + 1) (by rw [HZ.out]; exact g1)
                simp only [Nat.add_zero, hnd, if_true] at HF
                have hpn1 : ((p : Int) + 1 == (n : Int)) = true := by simp; omega
                clear hnd g3
                rcases h2 with h2 | h2 <;> rw [h2] at hs <;> clear h2
                all_goals
                  go_wp2
                  go_ret2
                  exact ⟨by rw [HF.out]; rfl, rfl⟩
            · have hs := HC.out p h1
              rw [h3] at HF
              generalize zs.getD p 0 = d at hs h2
              have g4 : (d == 101) = false := by simp; omega
              have g5 : (d == 69) = false := by simp; omega
              clear h3 h2
              go_wp2
              go_ret2
              exact ⟨by rw [HF.out]; exact ret_pair (by omega) (by simp), rfl⟩
            · rw [h3] at HF
              clear h3
              go_wp2
              go_ret2
              exact ⟨by rw [HF.out]; exact ret_pair (by omega) (by simp), rfl⟩

end Go.Proofs.Qxb6601605a
