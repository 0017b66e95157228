/-
  Plain mathematics of the law 'a rooted tree'.
-/
import Derived.Test.Qxb6601741aOrdPlain
import GoSem.Claim
namespace Go.Proofs.Qxb6601741a.Ar
variable {α : Type} [DecidableEq α]
variable {gr : Nat → List α} {n : Nat} {sp : List Nat} {dp : Nat → Nat} {par : Nat → Int}

theorem Arr.root (h : Arr gr n sp dp par) (hn : 1 ≤ n) : ∃ k0, k0 < n ∧ sp.head? = some k0 ∧ dp k0 = 0 ∧ ∀ t, t < n → dp t = 0 → t = k0 := by
  cases hs : sp with
  | nil =>
    have h0 : dp 0 = 0 := by have := h.dple 0 (by omega); rw [hs] at this; simpa using this
    have := (h.par0 0 (by omega) h0).2
    rw [hs] at this; simp at this
  | cons a l =>
    have ha : a ∈ sp := by rw [hs]; exact List.mem_cons_self
    have h0 := h.dpsp 0 (by rw [hs]; simp)
    have e : sp[0]'(by rw [hs]; simp) = a := by simp [hs]
    rw [e] at h0
    refine ⟨a, h.lt a ha, rfl, h0, fun t ht hd => ?_⟩
    have := (h.par0 t ht hd).2
    rw [hs] at this
    simpa using this.symm

theorem Arr.first_zero (h : Arr gr n sp dp par) {k0 : Nat} (hk : sp.head? = some k0) (hk0 : k0 < n) (hl : ∀ k, k < n → (gr k).length ≤ (gr 0).length) : k0 = 0 := by
  rcases Nat.eq_zero_or_pos k0 with h0 | h0
  · exact h0
  · have := (h.first k0 hk).2 0 h0
    have := hl k0 hk0
    omega

theorem Arr.all_under (h : Arr gr n sp dp par) (hk : sp.head? = some 0) (hc : ∀ k, k < n → ∀ g ∈ gr k, g ∈ gr 0) : ∀ t, t < n → t ≠ 0 → par t = 0 := by
  have hlen : sp.length = 1 := by
    cases hs : sp with
    | nil => rw [hs] at hk; simp at hk
    | cons a l =>
      rw [hs] at hk
      simp at hk
      subst hk
      cases l with
      | nil => rfl
      | cons b l' =>
        obtain ⟨g, hg, hf⟩ := h.fresh 1 (by rw [hs]; simp)
        have hb : sp[1]'(by rw [hs]; simp) = b := by simp [hs]
        rw [hb] at hg
        have hg0 := hc b (h.lt b (by rw [hs]; simp)) g hg
        rw [hs] at hf
        simp [cov, hg0] at hf
  intro t ht ht0
  have hm : t ∉ sp := by
    cases hs : sp with
    | nil => simp
    | cons a l =>
      have : l = [] := by rw [hs] at hlen; simpa using hlen
      subst this
      rw [hs] at hk
      simp at hk
      subst hk
      simpa using ht0
  have h1 := h.off t ht hm
  have h2 := h.dple t ht
  obtain ⟨hl, hp⟩ := h.parS t ht 0 (by omega)
  rw [hp]
  have e : sp[0] = 0 := by
    rw [List.head?_eq_getElem?, List.getElem?_eq_getElem hl] at hk
    simpa using hk
  rw [e]; rfl

theorem less_irrefl (a : List UInt8) : Op.bytesLess a a = false := by
  induction a with
  | nil => rfl
  | cons x t ih => simp [Op.bytesLess, ih]

theorem less_trans : ∀ (a b c : List UInt8), Op.bytesLess a b = true → Op.bytesLess b c = true → Op.bytesLess a c = true
  | _, [], _, h, _ => by simp [Op.bytesLess] at h
  | _, _ :: _, [], _, h => by simp [Op.bytesLess] at h
  | [], _ :: _, _ :: _, _, _ => by simp [Op.bytesLess]
  | x :: a, y :: b, z :: c, h1, h2 => by
    simp only [Op.bytesLess, Bool.or_eq_true, decide_eq_true_eq, Bool.and_eq_true, beq_iff_eq] at h1 h2 ⊢
    rcases h1 with h1 | ⟨rfl, h1⟩
    · rcases h2 with h2 | ⟨rfl, h2⟩
      · exact .inl (UInt8.lt_trans h1 h2)
      · exact .inl h1
    · rcases h2 with h2 | ⟨rfl, h2⟩
      · exact .inl h2
      · exact .inr ⟨rfl, less_trans a b c h1 h2⟩

theorem less_chain (f : Nat → List UInt8) (m : Nat) (h : ∀ j, j + 1 < m → Op.bytesLess (f j) (f (j + 1)) = true) : ∀ d i, i + d + 1 < m → Op.bytesLess (f i) (f (i + d + 1)) = true
  | 0, i, hi => h i hi
  | d + 1, i, hi => less_trans _ _ _ (less_chain f m h d i (by omega)) (h (i + d + 1) (by omega))

theorem nodup_of_less (f : Nat → List UInt8) (m : Nat) (h : ∀ j, j + 1 < m → Op.bytesLess (f j) (f (j + 1)) = true) : ((List.range m).map f).Nodup := by
  rw [List.nodup_iff_pairwise_ne, List.pairwise_iff_getElem]
  intro a b ha hb hab
  simp only [List.length_map, List.length_range] at ha hb
  simp only [List.getElem_map, List.getElem_range]
  have := less_chain f m h (b - a - 1) a (by omega)
  rw [show a + (b - a - 1) + 1 = b from by omega] at this
  intro e
  rw [e, less_irrefl] at this
  simp at this

end Go.Proofs.Qxb6601741a.Ar
