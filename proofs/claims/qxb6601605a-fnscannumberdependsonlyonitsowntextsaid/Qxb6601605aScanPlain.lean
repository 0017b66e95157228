/-
  Plain mathematics of JSON numbers over lists of integers: no Go here.
-/
namespace Go.Proofs.Qxb6601605a.Pl

def dig (c : Int) : Bool := decide (48 ≤ c) && decide (c ≤ 57)

/-- How many digits stand at the head. -/
def nd : List Int → Nat
  | [] => 0
  | c :: t => if dig c = true then nd t + 1 else 0

theorem nd_le (l : List Int) : nd l ≤ l.length := by
  induction l with
  | nil => simp [nd]
  | cons c t ih => simp only [nd]; split <;> simp <;> omega

/-- The integer part: how many digits, or none. -/
def intPart : List Int → Option Nat
  | [] => none
  | c :: t => if c = 48 then some 1 else if 49 ≤ c ∧ c ≤ 57 then some (nd t + 1) else none

/-- The fraction: how many bytes (none written: 0), or none where it is broken. -/
def frac : List Int → Option Nat
  | [] => some 0
  | c :: t => if c = 46 then (if nd t = 0 then none else some (nd t + 1)) else some 0

def sgn : List Int → Nat
  | [] => 0
  | c :: _ => if c = 43 ∨ c = 45 then 1 else 0

/-- The exponent: how many bytes (none written: 0), or none where it is broken. -/
def expo : List Int → Option Nat
  | [] => some 0
  | c :: t => if c = 101 ∨ c = 69 then (if nd (t.drop (sgn t)) = 0 then none else some (nd (t.drop (sgn t)) + sgn t + 1)) else some 0

def isNeg : List Int → Bool
  | [] => false
  | c :: _ => c == 45

def negLen (l : List Int) : Nat := if isNeg l = true then 1 else 0

def isZero : List Int → Bool
  | [] => false
  | c :: _ => c == 48

/-- The number at the head of the text: its length, and whether it is canonical. -/
def scan (l : List Int) : Option (Nat × Bool) :=
  match intPart (l.drop (negLen l)) with
  | none => none
  | some k =>
    match frac (l.drop (negLen l + k)) with
    | none => none
    | some f =>
      match expo (l.drop (negLen l + k + f)) with
      | none => none
      | some e => some (negLen l + k + f + e, decide (k ≤ 15) && !(isNeg l && isZero (l.drop (negLen l))) && decide (f = 0) && decide (e = 0))

/-- One move of the automaton. -/
def step (s c : Int) : Int :=
  if s = 0 then (if c = 45 then 1 else if c = 48 then 2 else if dig c = true then 3 else -1)
  else if s = 1 then (if c = 48 then 2 else if dig c = true then 3 else -1)
  else if s = 2 then (if c = 46 then 4 else if c = 101 ∨ c = 69 then 6 else -1)
  else if s = 3 then (if dig c = true then 3 else if c = 46 then 4 else if c = 101 ∨ c = 69 then 6 else -1)
  else if s = 4 then (if dig c = true then 5 else -1)
  else if s = 5 then (if dig c = true then 5 else if c = 101 ∨ c = 69 then 6 else -1)
  else if s = 6 then (if c = 43 ∨ c = 45 then 7 else if dig c = true then 8 else -1)
  else if s = 7 ∨ s = 8 then (if dig c = true then 8 else -1)
  else -1

/-- The greedy run: state, sign, digits of the integer, bytes taken. -/
def run : List Int → Int → Bool → Nat → Nat → Int × Bool × Nat × Nat
  | [], s, ng, d, p => (s, ng, d, p)
  | c :: t, s, ng, d, p =>
    if step s c < 0 then (s, ng, d, p)
    else run t (step s c) (if step s c = 1 then true else ng) (if step s c = 2 ∨ step s c = 3 then d + 1 else d) (p + 1)

/-- What the model answers of an end. -/
def verdict (r : Int × Bool × Nat × Nat) : Option (Nat × Bool) :=
  if r.1 = 2 then some (r.2.2.2, !r.2.1)
  else if r.1 = 3 then some (r.2.2.2, decide (r.2.2.1 ≤ 15))
  else if r.1 = 5 ∨ r.1 = 8 then some (r.2.2.2, false)
  else none

theorem dig_iff (c : Int) : dig c = true ↔ 48 ≤ c ∧ c ≤ 57 := by simp [dig]

theorem run_stop (c : Int) (t : List Int) (s : Int) (ng : Bool) (d p : Nat) (h : step s c < 0) : run (c :: t) s ng d p = (s, ng, d, p) := by
  simp only [run, if_pos h]

theorem run_go {s c s' : Int} (t : List Int) (ng : Bool) (d p : Nat) (h : step s c = s') (h0 : 0 ≤ s') (h1 : ¬ s' = 1) (h2 : ¬ (s' = 2 ∨ s' = 3)) :
    run (c :: t) s ng d p = run t s' ng d (p + 1) := by
  simp only [run, h, if_neg h1, if_neg h2]
  rw [if_neg (by omega)]
theorem run_int {s c s' : Int} (t : List Int) (ng : Bool) (d p : Nat) (h : step s c = s') (h2 : s' = 2 ∨ s' = 3) :
    run (c :: t) s ng d p = run t s' ng (d + 1) (p + 1) := by
  have h1 : ¬ s' = 1 := by omega
  simp only [run, h, if_neg h1, if_pos h2]
  rw [if_neg (by omega)]
theorem run_minus {s c : Int} (t : List Int) (ng : Bool) (d p : Nat) (h : step s c = 1) :
    run (c :: t) s ng d p = run t 1 true d (p + 1) := by
  have h2 : ¬ ((1 : Int) = 2 ∨ (1 : Int) = 3) := by omega
  simp only [run, h, if_neg h2, if_true]
  rw [if_neg (by omega)]

/-- state 8: digits to the end. -/
theorem run8 (l : List Int) (ng : Bool) (d p : Nat) : run l 8 ng d p = (8, ng, d, p + nd l) := by
  induction l generalizing p with
  | nil => simp [run, nd]
  | cons c t ih =>
    by_cases h : dig c = true
    · have e : step 8 c = 8 := by simp [step, h]
      rw [run_go _ _ _ _ e (by omega) (by omega) (by omega), ih]
      simp only [nd, h, if_true]
      simp; omega
    · have e : step 8 c = -1 := by simp [step, h]
      rw [run_stop _ _ _ _ _ _ (by omega)]
      simp [nd, h]

theorem run7 (l : List Int) (ng : Bool) (d p : Nat) : run l 7 ng d p = if nd l = 0 then (7, ng, d, p) else (8, ng, d, p + nd l) := by
  cases l with
  | nil => simp [run, nd]
  | cons c t =>
    by_cases h : dig c = true
    · have e : step 7 c = 8 := by simp [step, h]
      rw [run_go _ _ _ _ e (by omega) (by omega) (by omega), run8]
      simp only [nd, h, if_true]
      rw [if_neg (by omega)]
      simp; omega
    · have e : step 7 c = -1 := by simp [step, h]
      rw [run_stop _ _ _ _ _ _ (by omega)]
      simp [nd, h]

theorem verdict_run6 (l : List Int) (ng : Bool) (d p : Nat) :
    verdict (run l 6 ng d p) = if nd (l.drop (sgn l)) = 0 then none else some (p + (nd (l.drop (sgn l)) + sgn l), false) := by
  cases l with
  | nil => simp [run, nd, verdict, sgn]
  | cons c t =>
    by_cases h : c = 43 ∨ c = 45
    · have e : step 6 c = 7 := by simp [step, h]
      rw [run_go _ _ _ _ e (by omega) (by omega) (by omega), run7]
      simp only [sgn, if_pos h, List.drop_succ_cons, List.drop_zero]
      by_cases hz : nd t = 0
      · simp [hz, verdict]
      · simp [hz, verdict]; omega
    · simp only [sgn, if_neg h, List.drop_zero]
      by_cases hd : dig c = true
      · have e : step 6 c = 8 := by simp [step, h, hd]
        rw [run_go _ _ _ _ e (by omega) (by omega) (by omega), run8]
        simp only [nd, hd, if_true]
        simp [verdict]; omega
      · have e : step 6 c = -1 := by simp [step, h, hd]
        rw [run_stop _ _ _ _ _ _ (by omega)]
        simp [nd, hd, verdict]

theorem verdict_run5 (l : List Int) (ng : Bool) (d p : Nat) :
    verdict (run l 5 ng d p) = match expo (l.drop (nd l)) with | none => none | some e => some (p + nd l + e, false) := by
  induction l generalizing p with
  | nil => simp [run, nd, verdict, expo]
  | cons c t ih =>
    by_cases h : dig c = true
    · have e : step 5 c = 5 := by simp [step, h]
      rw [run_go _ _ _ _ e (by omega) (by omega) (by omega), ih]
      simp only [nd, h, if_true]
      simp only [List.drop_succ_cons]
      cases expo (t.drop (nd t)) with
      | none => rfl
      | some e => simp; omega
    · simp only [nd, h]
      by_cases he : c = 101 ∨ c = 69
      · have e : step 5 c = 6 := by simp [step, h, he]
        rw [run_go _ _ _ _ e (by omega) (by omega) (by omega), verdict_run6]
        simp only [expo, if_pos he, Bool.false_eq_true, if_false, List.drop_zero]
        by_cases hz : nd (t.drop (sgn t)) = 0
        · simp [hz]
        · simp [hz]; omega
      · have e : step 5 c = -1 := by simp [step, h, he]
        rw [run_stop _ _ _ _ _ _ (by omega)]
        simp [verdict, expo, he]

theorem verdict_run4 (l : List Int) (ng : Bool) (d p : Nat) :
    verdict (run l 4 ng d p) = if nd l = 0 then none else match expo (l.drop (nd l)) with | none => none | some e => some (p + nd l + e, false) := by
  cases l with
  | nil => simp [run, nd, verdict]
  | cons c t =>
    by_cases h : dig c = true
    · have e : step 4 c = 5 := by simp [step, h]
      rw [run_go _ _ _ _ e (by omega) (by omega) (by omega), verdict_run5]
      simp only [nd, h, if_true]
      rw [if_neg (by omega)]
      simp only [List.drop_succ_cons]
      cases expo (t.drop (nd t)) with
      | none => rfl
      | some e => simp; omega
    · have e : step 4 c = -1 := by simp [step, h]
      rw [run_stop _ _ _ _ _ _ (by omega)]
      simp [nd, h, verdict]

/-- What stands behind the integer, given the verdict on the integer alone. -/
def rest (l : List Int) (p : Nat) (b : Bool) : Option (Nat × Bool) :=
  match frac l with
  | none => none
  | some f =>
    match expo (l.drop f) with
    | none => none
    | some e => some (p + f + e, b && decide (f = 0) && decide (e = 0))

theorem rest_dot (c : Int) (t : List Int) (p : Nat) (b : Bool) (h : c = 46) :
    rest (c :: t) p b = if nd t = 0 then none else match expo (t.drop (nd t)) with | none => none | some e => some (p + 1 + nd t + e, false) := by
  simp only [rest, frac, if_pos h]
  by_cases hz : nd t = 0
  · simp [hz]
  · simp only [if_neg hz, List.drop_succ_cons]
    cases expo (t.drop (nd t)) with
    | none => rfl
    | some e => simp; omega

theorem rest_exp (c : Int) (t : List Int) (p : Nat) (b : Bool) (h : c = 101 ∨ c = 69) :
    rest (c :: t) p b = if nd (t.drop (sgn t)) = 0 then none else some (p + 1 + (nd (t.drop (sgn t)) + sgn t), false) := by
  have hn : ¬ c = 46 := by omega
  simp only [rest, frac, if_neg hn, List.drop_zero, expo, if_pos h]
  by_cases hz : nd (t.drop (sgn t)) = 0
  · simp [hz]
  · simp [hz]; omega

theorem rest_end (c : Int) (t : List Int) (p : Nat) (b : Bool) (h : ¬ c = 46) (h2 : ¬ (c = 101 ∨ c = 69)) :
    rest (c :: t) p b = some (p, b) := by
  simp [rest, frac, if_neg h, expo, if_neg h2]

theorem verdict_run2 (l : List Int) (ng : Bool) (d p : Nat) : verdict (run l 2 ng d p) = rest l p (!ng) := by
  cases l with
  | nil => simp [run, verdict, rest, frac, expo]
  | cons c t =>
    by_cases h : c = 46
    · have e : step 2 c = 4 := by simp [step, h]
      rw [rest_dot _ _ _ _ h]
      rw [run_go _ _ _ _ e (by omega) (by omega) (by omega), verdict_run4]
    · by_cases h2 : c = 101 ∨ c = 69
      · have e : step 2 c = 6 := by simp [step, h, h2]
        rw [rest_exp _ _ _ _ h2]
        rw [run_go _ _ _ _ e (by omega) (by omega) (by omega), verdict_run6]
      · have e : step 2 c = -1 := by simp [step, h, h2]
        rw [run_stop _ _ _ _ _ _ (by omega), rest_end _ _ _ _ h h2]
        simp [verdict]

theorem verdict_run3 (l : List Int) (ng : Bool) (d p : Nat) : verdict (run l 3 ng d p) = rest (l.drop (nd l)) (p + nd l) (decide (d + nd l ≤ 15)) := by
  induction l generalizing p d with
  | nil => simp [run, verdict, rest, frac, expo, nd]; rfl
  | cons c t ih =>
    by_cases h : dig c = true
    · have e : step 3 c = 3 := by simp [step, h]
      rw [run_int _ _ _ _ e (by omega), ih]
      simp only [nd, h, if_true]
      simp only [List.drop_succ_cons]
      rw [show p + 1 + nd t = p + (nd t + 1) from by omega, show d + 1 + nd t = d + (nd t + 1) from by omega]
    · have hk : nd (c :: t) = 0 := by simp [nd, h]
      rw [hk]
      simp only [List.drop_zero, Nat.add_zero]
      by_cases hp : c = 46
      · have e : step 3 c = 4 := by simp [step, hp, dig]
        rw [rest_dot _ _ _ _ hp]
        rw [run_go _ _ _ _ e (by omega) (by omega) (by omega), verdict_run4]
      · by_cases h2 : c = 101 ∨ c = 69
        · have e : step 3 c = 6 := by simp [step, h, hp, h2]
          rw [rest_exp _ _ _ _ h2]
          rw [run_go _ _ _ _ e (by omega) (by omega) (by omega), verdict_run6]
        · have e : step 3 c = -1 := by simp [step, h, hp, h2]
          rw [run_stop _ _ _ _ _ _ (by omega), rest_end _ _ _ _ hp h2]
          simp [verdict]

/-- The integer and what stands behind it, the sign known. -/
def body (l : List Int) (ng : Bool) (p : Nat) : Option (Nat × Bool) :=
  match intPart l with
  | none => none
  | some k => rest (l.drop k) (p + k) (decide (k ≤ 15) && !(ng && isZero l))

theorem scan_body (l : List Int) : scan l = body (l.drop (negLen l)) (isNeg l) (negLen l) := by
  simp only [scan, body, rest, List.drop_drop]

theorem body_cons (c : Int) (t : List Int) (ng : Bool) (p : Nat) :
    body (c :: t) ng p = if c = 48 then rest t (p + 1) (!ng) else if dig c = true then rest (t.drop (nd t)) (p + 1 + nd t) (decide (nd t + 1 ≤ 15)) else none := by
  by_cases h : c = 48
  · simp [body, intPart, h, isZero]
  · by_cases h2 : dig c = true
    · have h3 : 49 ≤ c ∧ c ≤ 57 := by rw [dig_iff] at h2; omega
      simp only [body, intPart, if_neg h, if_pos h3, List.drop_succ_cons, isZero, if_pos h2]
      rw [show (c == 48) = false from by simpa using h]
      simp only [Bool.and_false, Bool.not_false, Bool.and_true]
      rw [show p + (nd t + 1) = p + 1 + nd t from by omega]
    · have h3 : ¬ (49 ≤ c ∧ c ≤ 57) := by rw [dig_iff] at h2; omega
      simp [body, intPart, h, h2, h3]

theorem verdict_run1 (l : List Int) (p : Nat) : verdict (run l 1 true 0 p) = body l true p := by
  cases l with
  | nil => simp [run, verdict, body, intPart]
  | cons c t =>
    rw [body_cons]
    by_cases h : c = 48
    · have e : step 1 c = 2 := by simp [step, h]
      rw [run_int _ _ _ _ e (by omega), verdict_run2, if_pos h]
    · by_cases h2 : dig c = true
      · have e : step 1 c = 3 := by simp [step, h, h2]
        rw [run_int _ _ _ _ e (by omega), verdict_run3, if_neg h, if_pos h2]
        rw [show 0 + 1 + nd t = nd t + 1 from by omega]
      · have e : step 1 c = -1 := by simp [step, h, h2]
        rw [run_stop _ _ _ _ _ _ (by omega)]
        simp [verdict, h, h2]

/-- THE LAW: the greedy run of the automaton answers what the scanner answers. -/
theorem verdict_run0 (l : List Int) : verdict (run l 0 false 0 0) = scan l := by
  rw [scan_body]
  cases l with
  | nil => simp [run, verdict, body, intPart, negLen, isNeg]
  | cons c t =>
    by_cases hn : c = 45
    · have e : step 0 c = 1 := by simp [step, hn]
      have e1 : isNeg (c :: t) = true := by simp [isNeg, hn]
      rw [run_minus _ _ _ _ e, verdict_run1]
      simp only [negLen, e1, if_true, List.drop_succ_cons, List.drop_zero]
    · have e1 : isNeg (c :: t) = false := by simpa [isNeg] using hn
      simp only [negLen, e1, Bool.false_eq_true, if_false, List.drop_zero]
      rw [body_cons]
      by_cases h : c = 48
      · have e : step 0 c = 2 := by simp [step, h]
        rw [run_int _ _ _ _ e (by omega), verdict_run2, if_pos h]
      · by_cases h2 : dig c = true
        · have e : step 0 c = 3 := by simp [step, h, h2, hn]
          rw [run_int _ _ _ _ e (by omega), verdict_run3, if_neg h, if_pos h2]
          rw [show 0 + 1 + nd t = nd t + 1 from by omega]
        · have e : step 0 c = -1 := by simp [step, h, h2, hn]
          rw [run_stop _ _ _ _ _ _ (by omega)]
          simp [verdict, h, h2]


/-! ### A number cut out alone -/
theorem nd_take (l : List Int) (n : Nat) (h : nd l ≤ n) : nd (l.take n) = nd l := by
  induction l generalizing n with
  | nil => simp
  | cons c t ih =>
    by_cases hd : dig c = true
    · simp only [nd, hd, if_true] at h ⊢
      obtain ⟨m, rfl⟩ : ∃ m, n = m + 1 := ⟨n - 1, by omega⟩
      simp only [List.take_succ_cons, nd, hd, if_true]
      rw [ih m (by omega)]
    · cases n with
      | zero => simp [nd, hd]
      | succ m => simp [nd, hd]

theorem intPart_le (l : List Int) (k : Nat) (h : intPart l = some k) : 1 ≤ k ∧ k ≤ l.length := by
  cases l with
  | nil => simp [intPart] at h
  | cons c t =>
    have := nd_le t
    simp only [intPart] at h
    split at h
    · simp at h; simp; omega
    · split at h
      · simp at h; simp; omega
      · simp at h

theorem frac_le (l : List Int) (k : Nat) (h : frac l = some k) : k ≤ l.length := by
  cases l with
  | nil => simp [frac] at h; simp [← h]
  | cons c t =>
    have := nd_le t
    simp only [frac] at h
    split at h
    · split at h
      · simp at h
      · simp at h; simp; omega
    · simp at h; simp; omega

theorem sgn_le (l : List Int) : sgn l ≤ l.length := by
  cases l with
  | nil => simp [sgn]
  | cons c t => simp only [sgn]; split <;> simp

theorem expo_le (l : List Int) (k : Nat) (h : expo l = some k) : k ≤ l.length := by
  cases l with
  | nil => simp [expo] at h; simp [← h]
  | cons c t =>
    have h1 := nd_le (t.drop (sgn t))
    have h2 := sgn_le t
    simp only [List.length_drop] at h1
    simp only [expo] at h
    split at h
    · split at h
      · simp at h
      · simp at h; simp; omega
    · simp at h; simp; omega

theorem intPart_take (l : List Int) (k n : Nat) (h : intPart l = some k) (hn : k ≤ n) : intPart (l.take n) = some k := by
  have hk := intPart_le l k h
  cases l with
  | nil => simp [intPart] at h
  | cons c t =>
    obtain ⟨m, rfl⟩ : ∃ m, n = m + 1 := ⟨n - 1, by omega⟩
    simp only [List.take_succ_cons, intPart] at h ⊢
    by_cases h1 : c = 48
    · simpa [h1] using h
    · by_cases h2 : 49 ≤ c ∧ c ≤ 57
      · simp only [if_neg h1, if_pos h2, Option.some.injEq] at h ⊢
        rw [nd_take t m (by omega)]; exact h
      · simp [h1, h2] at h

theorem frac_take (l : List Int) (k n : Nat) (h : frac l = some k) (hn : k ≤ n) : frac (l.take n) = some k := by
  cases l with
  | nil => simpa using h
  | cons c t =>
    by_cases h1 : c = 46
    · simp only [frac, if_pos h1] at h
      by_cases h2 : nd t = 0
      · simp [h2] at h
      · simp only [if_neg h2, Option.some.injEq] at h
        obtain ⟨m, rfl⟩ : ∃ m, n = m + 1 := ⟨n - 1, by omega⟩
        simp only [List.take_succ_cons, frac, if_pos h1]
        rw [nd_take t m (by omega), if_neg h2, h]
    · simp only [frac, if_neg h1, Option.some.injEq] at h
      subst h
      cases n with
      | zero => simp [frac]
      | succ m => simp [frac, h1]

theorem expo_take (l : List Int) (k n : Nat) (h : expo l = some k) (hn : k ≤ n) : expo (l.take n) = some k := by
  cases l with
  | nil => simpa using h
  | cons c t =>
    by_cases h1 : c = 101 ∨ c = 69
    · simp only [expo, if_pos h1] at h
      by_cases h2 : nd (t.drop (sgn t)) = 0
      · simp [h2] at h
      · simp only [if_neg h2, Option.some.injEq] at h
        obtain ⟨m, rfl⟩ : ∃ m, n = m + 1 := ⟨n - 1, by omega⟩
        have hs : sgn (t.take m) = sgn t := by
          cases t with
          | nil => simp
          | cons c' t' =>
            obtain ⟨m', rfl⟩ : ∃ m', m = m' + 1 := ⟨m - 1, by omega⟩
            simp [sgn]
        simp only [List.take_succ_cons, expo, if_pos h1]
        rw [hs, List.drop_take, nd_take _ _ (by omega), if_neg h2, h]
    · simp only [expo, if_neg h1, Option.some.injEq] at h
      subst h
      cases n with
      | zero => simp [expo]
      | succ m => simp [expo, h1]

theorem isNeg_take (l : List Int) (n : Nat) (h : 1 ≤ n) : isNeg (l.take n) = isNeg l := by
  cases l with
  | nil => simp
  | cons c t =>
    obtain ⟨m, rfl⟩ : ∃ m, n = m + 1 := ⟨n - 1, by omega⟩
    simp [isNeg]

theorem isZero_take (l : List Int) (n : Nat) (h : 1 ≤ n) : isZero (l.take n) = isZero l := by
  cases l with
  | nil => simp
  | cons c t =>
    obtain ⟨m, rfl⟩ : ∃ m, n = m + 1 := ⟨n - 1, by omega⟩
    simp [isZero]

/-- The three parts of a number that was found. -/
theorem scan_parts (l : List Int) (E : Nat) (b : Bool) (h : scan l = some (E, b)) :
    ∃ k f e, intPart (l.drop (negLen l)) = some k ∧ frac (l.drop (negLen l + k)) = some f ∧ expo (l.drop (negLen l + k + f)) = some e ∧
      E = negLen l + k + f + e ∧ b = (decide (k ≤ 15) && !(isNeg l && isZero (l.drop (negLen l))) && decide (f = 0) && decide (e = 0)) := by
  simp only [scan] at h
  split at h
  · simp at h
  · rename_i k hk
    split at h
    · simp at h
    · rename_i f hf
      split at h
      · simp at h
      · rename_i e he
        simp only [Option.some.injEq, Prod.mk.injEq] at h
        exact ⟨k, f, e, hk, hf, he, h.1.symm, h.2.symm⟩

theorem negLen_le (l : List Int) : negLen l ≤ 1 := by unfold negLen; split <;> omega

theorem scan_bounds (l : List Int) (E : Nat) (b : Bool) (h : scan l = some (E, b)) : 1 ≤ E ∧ E ≤ l.length ∧ (b = true → E ≤ 16) := by
  obtain ⟨k, f, e, hk, hf, he, rfl, rfl⟩ := scan_parts l E b h
  have h1 := intPart_le _ _ hk
  have h2 := frac_le _ _ hf
  have h3 := expo_le _ _ he
  have h4 := negLen_le l
  simp only [List.length_drop] at h1 h2 h3
  refine ⟨by omega, by omega, fun hb => ?_⟩
  simp only [Bool.and_eq_true, decide_eq_true_eq] at hb
  omega

theorem scan_take (l : List Int) (E : Nat) (b : Bool) (h : scan l = some (E, b)) : scan (l.take E) = some (E, b) := by
  obtain ⟨k, f, e, hk, hf, he, rfl, rfl⟩ := scan_parts l E b h
  have h1 := intPart_le _ _ hk
  have hng : isNeg (l.take (negLen l + k + f + e)) = isNeg l := isNeg_take _ _ (by omega)
  have hnl : negLen (l.take (negLen l + k + f + e)) = negLen l := by
    show (if isNeg (l.take (negLen l + k + f + e)) = true then 1 else 0) = _
    rw [hng]; rfl
  simp only [scan, hnl, hng, List.drop_take]
  rw [intPart_take _ k _ hk (by omega)]
  simp only
  rw [frac_take _ f _ hf (by omega)]
  simp only
  rw [expo_take _ e _ he (by omega)]
  simp only
  rw [isZero_take _ _ (by omega)]

end Go.Proofs.Qxb6601605a.Pl
