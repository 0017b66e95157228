/-
  Plain mathematics of insertion and of the merge walk. No Go here.
-/
namespace Go.Proofs.Qxb6601741a.Vw

/-- x laid in at place j. -/
def ins (l : List Int) (j : Nat) (x : Int) : List Int := l.take j ++ x :: l.drop j

theorem ins_length (l : List Int) (j : Nat) (x : Int) (h : j ≤ l.length) : (ins l j x).length = l.length + 1 := by simp [ins]; omega

theorem ins_perm (l : List Int) (j : Nat) (x : Int) : (ins l j x).Perm (l ++ [x]) := by
  have h1 : (ins l j x).Perm (x :: (l.take j ++ l.drop j)) := List.perm_middle
  rw [List.take_append_drop] at h1
  exact h1.trans (List.perm_append_singleton x l).symm

/-- The row while place j is free: y lies there. -/
def inn (l zs : List Int) (k j : Nat) (y : Int) (t : Nat) : Int := if t < j then l.getD t 0 else if t = j then y else if t ≤ k then l.getD (t - 1) 0 else zs.getD t 0

/-- The row behind k rounds. -/
def outr (l zs : List Int) (k t : Nat) : Int := if t < k then l.getD t 0 else zs.getD t 0

theorem inn_start (l zs : List Int) (k t : Nat) : inn l zs k k (zs.getD k 0) t = outr l zs k t := by
  unfold inn outr
  by_cases h : t < k
  · simp [h]
  · by_cases e : t = k
    · subst e; simp
    · have : ¬ t ≤ k := by omega
      simp [h, e, this]

theorem inn_step (l zs : List Int) (k j : Nat) (y : Int) (hj : 1 ≤ j) (hjk : j ≤ k) (t : Nat) :
    (if t = j then l.getD (j - 1) 0 else inn l zs k j y t) = inn l zs k (j - 1) (l.getD (j - 1) 0) t := by
  unfold inn
  by_cases e : t = j
  · subst e
    have h1 : ¬ t < t - 1 := by omega
    have h2 : ¬ t = t - 1 := by omega
    simp [h1, h2, hjk]
  · by_cases h : t < j
    · by_cases e2 : t = j - 1
      · subst e2; simp [e, h]
      · have h3 : t < j - 1 := by omega
        simp [e, h, h3]
    · have h3 : ¬ t < j - 1 := by omega
      have h4 : ¬ t = j - 1 := by omega
      simp [e, h, h3, h4]

theorem inn_end (l zs : List Int) (k j : Nat) (x y : Int) (hl : l.length = k) (hjk : j ≤ k) (t : Nat) :
    (if t = j then x else inn l zs k j y t) = outr (ins l j x) zs (k + 1) t := by
  unfold inn outr ins
  have hlt : (l.take j).length = j := by simp; omega
  by_cases e : t = j
  · subst e
    have : t < k + 1 := by omega
    simp [this, hlt]
  · by_cases h : t < j
    · have h1 : t < k + 1 := by omega
      have h2 : t < l.length := by omega
      simp [e, h, h1, h2, List.getElem?_append, hlt]
    · by_cases h2 : t ≤ k
      · have h1 : t < k + 1 := by omega
        have h3 : t - j ≠ 0 := by omega
        obtain ⟨d, hd⟩ : ∃ d, t - j = d + 1 := ⟨t - j - 1, by omega⟩
        have h5 : j + d = t - 1 := by omega
        simp [e, h, h1, h2, List.getElem?_append, hlt, hd, h5]
      · have h1 : ¬ t < k + 1 := by omega
        simp [e, h, h1, h2]

theorem ins_sorted (l : List Int) (j : Nat) (x : Int) (hs : l.Pairwise (· ≤ ·)) (h1 : ∀ t, t < j → t < l.length → l.getD t 0 ≤ x) (h2 : ∀ t, j ≤ t → t < l.length → x ≤ l.getD t 0) : (ins l j x).Pairwise (· ≤ ·) := by
  unfold ins
  rw [List.pairwise_append]
  have h1' : ∀ a ∈ l.take j, a ≤ x := fun a ha => by
    obtain ⟨i, hi, rfl⟩ := List.getElem_of_mem ha
    simp only [List.length_take] at hi
    have := h1 i (by omega) (by omega)
    have hl : i < l.length := by omega
    simpa [hl] using this
  have h2' : ∀ a ∈ l.drop j, x ≤ a := fun a ha => by
    obtain ⟨i, hi, rfl⟩ := List.getElem_of_mem ha
    simp only [List.length_drop] at hi
    have := h2 (j + i) (by omega) (by omega)
    have hl : j + i < l.length := by omega
    simpa [hl] using this
  refine ⟨List.Pairwise.sublist (List.take_sublist _ _) hs, ?_, ?_⟩
  · rw [List.pairwise_cons]
    exact ⟨h2', List.Pairwise.sublist (List.drop_sublist _ _) hs⟩
  · intro a ha b hb
    rcases List.mem_cons.1 hb with rfl | hb
    · exact h1' a ha
    · exact Int.le_trans (h1' a ha) (h2' b hb)

/-- In a rising list, by the places. -/
theorem sorted_le {l : List Int} (h : l.Pairwise (· ≤ ·)) {i j : Nat} (hij : i ≤ j) (hj : j < l.length) : l.getD i 0 ≤ l.getD j 0 := by
  rcases Nat.lt_or_ge i j with h' | h'
  · have := List.pairwise_iff_getElem.1 h i j (by omega) hj h'
    have hi : i < l.length := by omega
    simpa [hi, hj] using this
  · obtain rfl : i = j := by omega
    exact Int.le_refl _

/-- Strictly rising, by neighbours. -/
def Up (l : List Int) : Prop := ∀ i, i + 1 < l.length → l.getD i 0 < l.getD (i + 1) 0

theorem Up.lt {l : List Int} (h : Up l) : ∀ (d i : Nat), i + d + 1 < l.length → l.getD i 0 < l.getD (i + d + 1) 0
  | 0, i, hi => h i hi
  | d + 1, i, hi => Int.lt_trans (h.lt d i (by omega)) (h (i + d + 1) hi)

theorem Up.lt' {l : List Int} (h : Up l) {i j : Nat} (hij : i < j) (hj : j < l.length) : l.getD i 0 < l.getD j 0 := by
  have := h.lt (j - i - 1) i (by omega)
  rwa [show i + (j - i - 1) + 1 = j from by omega] at this

theorem getD_mem {l : List Int} {i : Nat} (h : i < l.length) : l.getD i 0 ∈ l := by simp [h]

theorem mem_getD {l : List Int} {x : Int} (h : x ∈ l) : ∃ i, i < l.length ∧ l.getD i 0 = x := by
  obtain ⟨i, hi, rfl⟩ := List.getElem_of_mem h
  exact ⟨i, hi, by simp [hi]⟩

/-- A number that lies between two neighbours is not there. -/
theorem not_mem_gap {l : List Int} (hu : Up l) {x : Int} {j : Nat} (h1 : ∀ t, t < j → l.getD t 0 < x) (h2 : j < l.length → x < l.getD j 0) : x ∉ l := fun hm => by
  obtain ⟨i, hi, e⟩ := mem_getD hm
  rcases Nat.lt_or_ge i j with h | h
  · have := h1 i h; omega
  · have h3 := h2 (by omega)
    rcases Nat.lt_or_ge j i with h' | h'
    · have := hu.lt' h' hi; omega
    · obtain rfl : i = j := by omega
      omega

end Go.Proofs.Qxb6601741a.Vw
