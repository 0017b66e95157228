/-
  Plain mathematics of the laws on 'arrange'. No Go here.
-/
import Derived.Test.Qxb6601741aArrPlain
namespace Go.Proofs.Qxb6601741a.Ar
/-- All groups named by the first k metagroups. -/
def flat {β : Type} (gr : Nat → List β) : Nat → List β
  | 0 => []
  | k + 1 => flat gr k ++ gr k

theorem mem_flat {β : Type} {gr : Nat → List β} {n k : Nat} (hk : k < n) {g : β} (hg : g ∈ gr k) : g ∈ flat gr n := by
  induction n with
  | zero => omega
  | succ n ih =>
    rw [flat, List.mem_append]
    rcases Nat.lt_or_ge k n with h | h
    · exact .inl (ih h)
    · obtain rfl : k = n := by omega
      exact .inr hg

theorem flat_len {β : Type} {gr : Nat → List β} (n : Nat) (h : ∀ k, k < n → (gr k).length ≤ 4096) : (flat gr n).length ≤ n * 4096 := by
  induction n with
  | zero => simp [flat]
  | succ n ih =>
    have h1 := ih (fun k hk => h k (by omega))
    have h2 := h n (by omega)
    simp only [flat, List.length_append]
    omega

variable {α : Type} [DecidableEq α]

/-- Each of a list once, in the order in which they come. -/
def dd (l : List α) : List α := l.foldl (fun acc g => if g ∈ acc then acc else acc ++ [g]) []

theorem dd_snoc (l : List α) (g : α) : dd (l ++ [g]) = if g ∈ dd l then dd l else dd l ++ [g] := by
  simp only [dd, List.foldl_append, List.foldl_cons, List.foldl_nil]
  rfl

theorem dd_rev (l : List α) : (∀ g, g ∈ dd l.reverse ↔ g ∈ l.reverse) ∧ (dd l.reverse).length ≤ l.reverse.length := by
  induction l with
  | nil => simp [dd]
  | cons c t ih =>
    rw [List.reverse_cons, dd_snoc]
    by_cases h : c ∈ dd t.reverse
    · rw [if_pos h]
      refine ⟨fun g => ?_, by have := ih.2; simp at this ⊢; omega⟩
      rw [ih.1 g, List.mem_append]
      constructor
      · exact fun h => .inl h
      · rintro (h' | h')
        · exact h'
        · simp at h'; subst h'; exact (ih.1 g).1 h
    · rw [if_neg h]
      refine ⟨fun g => ?_, by have := ih.2; simp at this ⊢; omega⟩
      rw [List.mem_append, List.mem_append, ih.1 g]

theorem mem_dd (l : List α) (g : α) : g ∈ dd l ↔ g ∈ l := by
  have := (dd_rev l.reverse).1 g
  rwa [List.reverse_reverse] at this
theorem dd_len (l : List α) : (dd l).length ≤ l.length := by
  have := (dd_rev l.reverse).2
  rwa [List.reverse_reverse] at this

theorem nodup_sub : ∀ (l l' : List α), l.Nodup → (∀ g ∈ l, g ∈ l') → l.length ≤ l'.length := by
  intro l
  induction l with
  | nil => intro l' _ _; simp
  | cons a t ih =>
    intro l' hd hs
    rw [List.nodup_cons] at hd
    have ha := hs a List.mem_cons_self
    have h1 := ih (l'.erase a) hd.2 (fun g hg => (List.mem_erase_of_ne (show g ≠ a from fun e => hd.1 (by rw [← e]; exact hg))).2 (hs g (List.mem_cons_of_mem _ hg)))
    rw [List.length_erase_of_mem ha] at h1
    have := List.length_pos_of_mem ha
    simp; omega

variable {gr : Nat → List α} {n : Nat} {sp : List Nat} {dp : Nat → Nat} {par : Nat → Int}

theorem cov_mem {sp : List Nat} {g : α} (h : cov gr sp g = true) : ∃ k ∈ sp, g ∈ gr k := by
  simpa [cov] using h

/-- So many different groups there are as the spine is long. -/
theorem Arr.fresh_list (h : Arr gr n sp dp par) (i : Nat) (hi : i ≤ sp.length) : ∃ l : List α, l.Nodup ∧ l.length = i ∧ ∀ g ∈ l, cov gr (sp.take i) g = true := by
  induction i with
  | zero => exact ⟨[], List.nodup_nil, rfl, by simp⟩
  | succ i ih =>
    obtain ⟨l, h1, h2, h3⟩ := ih (by omega)
    obtain ⟨g, hg, hf⟩ := h.fresh i (by omega)
    refine ⟨l ++ [g], ?_, by simp [h2], fun x hx => ?_⟩
    · rw [List.nodup_append]
      exact ⟨h1, by simp, fun a ha b hb => by
        simp at hb; subst hb
        intro e; subst e
        rw [h3 a ha] at hf; simp at hf⟩
    · rw [List.take_succ_eq_append_getElem (by omega)]
      rcases List.mem_append.1 hx with hx | hx
      · have := h3 x hx
        simp only [cov, List.any_append] at this ⊢
        rw [this]; rfl
      · simp at hx; subst hx
        unfold cov
        rw [List.any_append]
        simp [hg]

theorem Arr.len_le (h : Arr gr n sp dp par) : sp.length ≤ (dd (flat gr n)).length := by
  obtain ⟨l, h1, h2, h3⟩ := h.fresh_list sp.length (Nat.le_refl _)
  rw [← h2]
  refine nodup_sub l _ h1 (fun g hg => ?_)
  obtain ⟨k, hk, hgk⟩ := cov_mem (h3 g hg)
  rw [mem_dd]
  exact mem_flat (h.lt k (List.mem_of_mem_take hk)) hgk

theorem Arr.len_n (h : Arr gr n sp dp par) : sp.length ≤ n := nodup_len n sp h.nodup h.lt

/-- One step up. -/
theorem Arr.up (h : Arr gr n sp dp par) {a : Nat} (ha : a < n) : (dp a = 0 ∧ par a = -1) ∨ ∃ b, b < n ∧ par a = (b : Int) ∧ dp a = dp b + 1 ∧ ∃ hd : dp b < sp.length, sp[dp b] = b := by
  cases hd : dp a with
  | zero => exact .inl ⟨rfl, (h.par0 a ha hd).1⟩
  | succ d =>
    obtain ⟨hl, hp⟩ := h.parS a ha d hd
    have e := h.dpsp d hl
    exact .inr ⟨sp[d], h.lt _ (List.getElem_mem hl), hp, by rw [e], by rw [e]; exact hl, by simp only [e]⟩

end Go.Proofs.Qxb6601741a.Ar
