/-
  Plain mathematics of 'arrange': the spine, the primaries, the parents. No Go here.
-/
namespace Go.Proofs.Qxb6601741a.Ar
variable {α : Type} [DecidableEq α]

/-- Does a metagroup of the list follow g? -/
def cov (gr : Nat → List α) (sp : List Nat) (g : α) : Bool := sp.any (fun k => decide (g ∈ gr k))

/-- How many of k's groups (as often as they are named) no metagroup of the list follows. -/
def cntL (gr : Nat → List α) (sp : List Nat) (l : List α) : Nat := (l.filter (fun g => !cov gr sp g)).length

def cnt (gr : Nat → List α) (sp : List Nat) (k : Nat) : Nat := cntL gr sp (gr k)

/-- The best next metagroup among the first K: her place (or -1) and her count. -/
def best (gr : Nat → List α) (sp : List Nat) : Nat → Int × Nat
  | 0 => (-1, 0)
  | K + 1 => if K ∈ sp then best gr sp K else if (best gr sp K).2 < cnt gr sp K then ((K : Int), cnt gr sp K) else best gr sp K

theorem cntL_le (gr : Nat → List α) (sp : List Nat) (l : List α) : cntL gr sp l ≤ l.length := List.length_filter_le _ _

theorem cntL_snoc (gr : Nat → List α) (sp : List Nat) (l : List α) (g : α) : cntL gr sp (l ++ [g]) = cntL gr sp l + if cov gr sp g = true then 0 else 1 := by
  unfold cntL
  rw [List.filter_append]
  by_cases h : cov gr sp g = true <;> simp [h]

/-- What the search comes to. -/
theorem best_spec (gr : Nat → List α) (sp : List Nat) (K : Nat) :
    (best gr sp K = (-1, 0) ∧ ∀ k, k < K → k ∈ sp ∨ cnt gr sp k = 0) ∨
    (∃ k0, k0 < K ∧ best gr sp K = ((k0 : Int), cnt gr sp k0) ∧ k0 ∉ sp ∧ 0 < cnt gr sp k0 ∧ (∀ k, k < K → k ∉ sp → cnt gr sp k ≤ cnt gr sp k0) ∧ ∀ k, k < k0 → k ∉ sp → cnt gr sp k < cnt gr sp k0) := by
  induction K with
  | zero => left; exact ⟨rfl, fun k hk => by omega⟩
  | succ K ih =>
    by_cases hm : K ∈ sp
    · simp only [best, if_pos hm]
      rcases ih with ⟨h1, h2⟩ | ⟨k0, h1, h2, h3, h4, h5, h6⟩
      · left
        refine ⟨h1, fun k hk => ?_⟩
        rcases Nat.lt_or_ge k K with h | h
        · exact h2 k h
        · obtain rfl : k = K := by omega
          exact .inl hm
      · right
        refine ⟨k0, by omega, h2, h3, h4, fun k hk hn => ?_, h6⟩
        rcases Nat.lt_or_ge k K with h | h
        · exact h5 k h hn
        · obtain rfl : k = K := by omega
          exact absurd hm hn
    · simp only [best, if_neg hm]
      by_cases hlt : (best gr sp K).2 < cnt gr sp K
      · rw [if_pos hlt]
        right
        refine ⟨K, by omega, rfl, hm, by omega, fun k hk hn => ?_, fun k hk hn => ?_⟩
        · rcases Nat.lt_or_ge k K with h | h
          · rcases ih with ⟨h1, h2⟩ | ⟨k0, h1, h2, h3, h4, h5, h6⟩
            · rcases h2 k h with h' | h'
              · exact absurd h' hn
              · omega
            · have := h5 k h hn
              rw [h2] at hlt
              simp only at hlt
              omega
          · obtain rfl : k = K := by omega
            exact Nat.le_refl _
        · rcases ih with ⟨h1, h2⟩ | ⟨k0, h1, h2, h3, h4, h5, h6⟩
          · rcases h2 k hk with h' | h'
            · exact absurd h' hn
            · rw [h1] at hlt; simp only at hlt; omega
          · have := h5 k hk hn
            rw [h2] at hlt
            simp only at hlt
            omega
      · rw [if_neg hlt]
        rcases ih with ⟨h1, h2⟩ | ⟨k0, h1, h2, h3, h4, h5, h6⟩
        · left
          refine ⟨h1, fun k hk => ?_⟩
          rcases Nat.lt_or_ge k K with h | h
          · exact h2 k h
          · obtain rfl : k = K := by omega
            rw [h1] at hlt
            exact .inr (by simp only at hlt; omega)
        · right
          refine ⟨k0, by omega, h2, h3, h4, fun k hk hn => ?_, h6⟩
          rcases Nat.lt_or_ge k K with h | h
          · exact h5 k h hn
          · obtain rfl : k = K := by omega
            rw [h2] at hlt
            simp only at hlt
            omega

/-- What holds of the spine as it grows. -/
structure Good (gr : Nat → List α) (n : Nat) (sp : List Nat) : Prop where
  nodup : sp.Nodup
  lt : ∀ k ∈ sp, k < n
  fresh : ∀ i (h : i < sp.length), ∃ g ∈ gr sp[i], cov gr (sp.take i) g = false
  first : ∀ k0, sp.head? = some k0 → (∀ k, k < n → (gr k).length ≤ (gr k0).length) ∧ ∀ k, k < k0 → (gr k).length < (gr k0).length

theorem Good.nil (gr : Nat → List α) (n : Nat) : Good gr n [] := ⟨List.nodup_nil, by simp, by simp, by simp⟩

theorem nodup_len (n : Nat) : ∀ l : List Nat, l.Nodup → (∀ k ∈ l, k < n) → l.length ≤ n := by
  induction n with
  | zero =>
    intro l _ h
    cases l with
    | nil => simp
    | cons a t => exact absurd (h a List.mem_cons_self) (by omega)
  | succ n ih =>
    intro l hd h
    by_cases hm : n ∈ l
    · have h1 := ih (l.erase n) (hd.erase n) (fun k hk => by
        have h2 := h k (List.mem_of_mem_erase hk)
        have h3 : k ≠ n := fun e => by subst e; exact (List.Nodup.mem_erase_iff hd).1 hk |>.1 rfl
        omega)
      rw [List.length_erase_of_mem hm] at h1
      omega
    · have h1 := ih l hd (fun k hk => by
        have h2 := h k hk
        have h3 : k ≠ n := fun e => hm (e ▸ hk)
        omega)
      omega

theorem Good.len {gr : Nat → List α} {n : Nat} {sp : List Nat} (h : Good gr n sp) : sp.length ≤ n := nodup_len n sp h.nodup h.lt

theorem cnt_nil (gr : Nat → List α) (k : Nat) : cnt gr [] k = (gr k).length := by
  have : (gr k).filter (fun g => !cov gr [] g) = gr k := List.filter_eq_self.2 (fun g _ => by simp [cov])
  simp only [cnt, cntL, this]

theorem exists_of_cnt {gr : Nat → List α} {sp : List Nat} {k : Nat} (h : 0 < cnt gr sp k) : ∃ g ∈ gr k, cov gr sp g = false := by
  obtain ⟨g, hg⟩ := List.exists_mem_of_length_pos h
  rw [List.mem_filter] at hg
  exact ⟨g, hg.1, by simpa using hg.2⟩

theorem Good.snoc {gr : Nat → List α} {n : Nat} {sp : List Nat} (h : Good gr n sp) {k0 : Nat} (hb : (best gr sp n) = ((k0 : Int), cnt gr sp k0)) (hlt : k0 < n) : Good gr n (sp ++ [k0]) := by
  rcases best_spec gr sp n with ⟨h1, _⟩ | ⟨k1, h1, h2, h3, h4, h5, h6⟩
  · rw [hb] at h1; simp only [Prod.mk.injEq] at h1; omega
  · have e : k1 = k0 := by rw [hb] at h2; simp only [Prod.mk.injEq] at h2; omega
    subst e
    refine ⟨?_, ?_, ?_, ?_⟩
    · rw [List.nodup_append]
      exact ⟨h.nodup, by simp, fun a ha b hb => by simp at hb; subst hb; exact fun e => h3 (e ▸ ha)⟩
    · intro k hk
      rcases List.mem_append.1 hk with h' | h'
      · exact h.lt k h'
      · simp at h'; omega
    · intro i hi
      by_cases hil : i < sp.length
      · rw [List.getElem_append_left hil, List.take_append_of_le_length (by omega)]
        exact h.fresh i hil
      · obtain rfl : i = sp.length := by simp at hi; omega
        simp only [List.getElem_concat_length, List.take_left']
        exact exists_of_cnt h4
    · intro k2 hk2
      cases sp with
      | nil =>
        simp at hk2
        subst hk2
        simp only [cnt_nil] at h5 h6
        exact ⟨fun k hk => h5 k hk (by simp), fun k hk => h6 k hk (by simp)⟩
      | cons a t => exact h.first k2 (by simpa using hk2)

/-- The places on the spine, the parents and the primaries, all read off the spine. -/
def spineOf (sp : List Nat) (k : Nat) : Int := if k ∈ sp then (sp.idxOf k : Int) else -1
def lastOf (sp : List Nat) : Int := match sp.getLast? with | none => -1 | some k => (k : Int)
def parentOf (sp : List Nat) (k : Nat) : Int := if k ∈ sp then lastOf (sp.take (sp.idxOf k)) else 0
def ordOf (gr : Nat → List α) (sp : List Nat) (g : α) : Option Nat := sp.find? (fun k => decide (g ∈ gr k))

theorem idxOf_snoc_of_mem {sp : List Nat} {k j : Nat} (h : j ∈ sp) : (sp ++ [k]).idxOf j = sp.idxOf j := by
  rw [List.idxOf_append, if_pos h]
theorem idxOf_snoc_self {sp : List Nat} {k : Nat} (h : k ∉ sp) : (sp ++ [k]).idxOf k = sp.length := by
  rw [List.idxOf_append, if_neg h]; simp

theorem spineOf_snoc {sp : List Nat} {k : Nat} (h : k ∉ sp) (j : Nat) : spineOf (sp ++ [k]) j = if j = k then (sp.length : Int) else spineOf sp j := by
  unfold spineOf
  by_cases e : j = k
  · subst e; simp [idxOf_snoc_self h]
  · by_cases hj : j ∈ sp
    · simp [hj, e, idxOf_snoc_of_mem hj]
    · simp [hj, e]

theorem parentOf_snoc {sp : List Nat} {k : Nat} (h : k ∉ sp) (j : Nat) : parentOf (sp ++ [k]) j = if j = k then lastOf sp else parentOf sp j := by
  unfold parentOf
  by_cases e : j = k
  · subst e; simp [idxOf_snoc_self h]
  · by_cases hj : j ∈ sp
    · have := List.idxOf_lt_length_of_mem hj
      simp only [List.mem_append, hj, true_or, if_true, e, if_false, idxOf_snoc_of_mem hj]
      rw [List.take_append_of_le_length (by omega)]
    · simp [hj, e]

theorem ordOf_snoc (gr : Nat → List α) (sp : List Nat) (k : Nat) (g : α) : ordOf gr (sp ++ [k]) g = (ordOf gr sp g).or (if g ∈ gr k then some k else none) := by
  unfold ordOf
  rw [List.find?_append]
  congr 1
  by_cases h : g ∈ gr k <;> simp [h]

theorem lastOf_snoc (sp : List Nat) (k : Nat) : lastOf (sp ++ [k]) = (k : Int) := by simp [lastOf]

theorem ordOf_isSome (gr : Nat → List α) (sp : List Nat) (g : α) : (ordOf gr sp g).isSome = cov gr sp g := by
  unfold ordOf cov
  rw [Bool.eq_iff_iff]
  simp [List.find?_isSome]

/-- 'ordered' while the next metagroup's groups are laid in. -/
def ordTo (gr : Nat → List α) (sp : List Nat) (k : Nat) (l : List α) (g : α) : Option Nat := (ordOf gr sp g).or (if g ∈ l then some k else none)

theorem ordTo_hit {gr : Nat → List α} {sp : List Nat} {k : Nat} {l : List α} {g : α} (h : (ordTo gr sp k l g).isSome = true) (t : α) : ordTo gr sp k (l ++ [g]) t = ordTo gr sp k l t := by
  unfold ordTo at h ⊢
  by_cases e : t = g
  · subst e
    cases ho : ordOf gr sp t with
    | some x => simp
    | none =>
      rw [ho] at h
      by_cases hm : t ∈ l
      · simp [hm]
      · simp [hm] at h
  · by_cases hm : t ∈ l <;> simp [hm, e]

theorem ordTo_miss {gr : Nat → List α} {sp : List Nat} {k : Nat} {l : List α} {g : α} (h : ordTo gr sp k l g = none) (t : α) : ordTo gr sp k (l ++ [g]) t = if t = g then some k else ordTo gr sp k l t := by
  unfold ordTo at h ⊢
  by_cases e : t = g
  · subst e
    cases ho : ordOf gr sp t with
    | some x => rw [ho] at h; simp at h
    | none => simp
  · by_cases hm : t ∈ l <;> simp [hm, e]

theorem ordTo_nil (gr : Nat → List α) (sp : List Nat) (k : Nat) (g : α) : ordTo gr sp k [] g = ordOf gr sp g := by simp [ordTo]
theorem ordTo_all (gr : Nat → List α) (sp : List Nat) (k : Nat) (g : α) : ordTo gr sp k (gr k) g = ordOf gr (sp ++ [k]) g := by rw [ordOf_snoc]; rfl

/-- The primary of a group, as Go's map gives it (0 where it has none). -/
def ordN (gr : Nat → List α) (sp : List Nat) (g : α) : Nat := (ordOf gr sp g).getD 0

/-- The lowest of the primaries. -/
def pickL (gr : Nat → List α) (sp : List Nat) (cur : Nat) (l : List α) : Nat := l.foldl (fun c g => if spineOf sp c < spineOf sp (ordN gr sp g) then ordN gr sp g else c) cur

def pick (gr : Nat → List α) (sp : List Nat) : List α → Nat
  | [] => 0
  | g :: l => pickL gr sp (ordN gr sp g) l

theorem pickL_snoc (gr : Nat → List α) (sp : List Nat) (cur : Nat) (l : List α) (g : α) :
    pickL gr sp cur (l ++ [g]) = if spineOf sp (pickL gr sp cur l) < spineOf sp (ordN gr sp g) then ordN gr sp g else pickL gr sp cur l := by
  simp only [pickL, List.foldl_append, List.foldl_cons, List.foldl_nil]
  rfl

theorem ordN_mem {gr : Nat → List α} {sp : List Nat} {g : α} (h : cov gr sp g = true) : ordN gr sp g ∈ sp ∧ g ∈ gr (ordN gr sp g) := by
  rw [← ordOf_isSome] at h
  obtain ⟨k, hk⟩ := Option.isSome_iff_exists.1 h
  have e : ordN gr sp g = k := by simp [ordN, hk]
  rw [e]
  exact ⟨List.mem_of_find?_eq_some hk, by simpa using List.find?_some hk⟩

theorem spineOf_mem {sp : List Nat} {k : Nat} (h : k ∈ sp) : spineOf sp k = (sp.idxOf k : Int) := by simp [spineOf, h]

theorem pickL_spec {gr : Nat → List α} {sp : List Nat} (l : List α) (cur : Nat) (hc : cur ∈ sp) (hl : ∀ g ∈ l, cov gr sp g = true) :
    pickL gr sp cur l ∈ sp ∧ sp.idxOf cur ≤ sp.idxOf (pickL gr sp cur l) ∧ ∀ g ∈ l, sp.idxOf (ordN gr sp g) ≤ sp.idxOf (pickL gr sp cur l) := by
  induction l generalizing cur with
  | nil => exact ⟨hc, Nat.le_refl _, by simp⟩
  | cons g t ih =>
    have hg := ordN_mem (hl g List.mem_cons_self)
    have ht : ∀ g ∈ t, cov gr sp g = true := fun x hx => hl x (List.mem_cons_of_mem _ hx)
    show pickL gr sp (if spineOf sp cur < spineOf sp (ordN gr sp g) then ordN gr sp g else cur) t ∈ sp ∧ _
    rw [show pickL gr sp cur (g :: t) = pickL gr sp (if spineOf sp cur < spineOf sp (ordN gr sp g) then ordN gr sp g else cur) t from rfl]
    rw [spineOf_mem hc, spineOf_mem hg.1]
    by_cases h : (sp.idxOf cur : Int) < (sp.idxOf (ordN gr sp g) : Int)
    · rw [if_pos h]
      obtain ⟨a, b, c⟩ := ih (ordN gr sp g) hg.1 ht
      refine ⟨a, by omega, fun x hx => ?_⟩
      rcases List.mem_cons.1 hx with rfl | hx
      · exact b
      · exact c x hx
    · rw [if_neg h]
      obtain ⟨a, b, c⟩ := ih cur hc ht
      refine ⟨a, b, fun x hx => ?_⟩
      rcases List.mem_cons.1 hx with rfl | hx
      · omega
      · exact c x hx

/-- What arrange answers. -/
def parFin (gr : Nat → List α) (sp : List Nat) (k : Nat) : Int := if k ∈ sp then parentOf sp k else (pick gr sp (gr k) : Int)

/-- The parents while metagroup q's is sought. -/
def pf7 (gr : Nat → List α) (sp : List Nat) (q : Nat) (v : Int) (k : Nat) : Int := if k = q then v else if k < q then parFin gr sp k else parentOf sp k

theorem pf7_set {gr : Nat → List α} {sp : List Nat} {q : Nat} {v u : Int} {t : Nat} : pf7 gr sp q v t = if t = q then v else pf7 gr sp q u t := by
  unfold pf7; split <;> rfl

theorem pf7_upto {gr : Nat → List α} {sp : List Nat} {q : Nat} {v : Int} {t : Nat} : pf7 gr sp q v t = (if t < q + 1 then parFin gr sp t else parentOf sp t) ↔ (t = q → v = parFin gr sp q) := by
  unfold pf7
  by_cases e : t = q
  · subst e; simp
  · have : (t < q + 1) = (t < q) := by apply propext; omega
    simp [this, e]

theorem upto_skip {q t : Nat} {f g : Nat → Int} (h : f q = g q) : (if t < q + 1 then f t else g t) = if t < q then f t else g t := by
  by_cases e : t = q
  · subst e; simp [h]
  · have : (t < q + 1) = (t < q) := by apply propext; omega
    simp [this]

/-- How deep a metagroup lies. -/
def depth (gr : Nat → List α) (sp : List Nat) (k : Nat) : Nat := if k ∈ sp then sp.idxOf k else sp.idxOf (pick gr sp (gr k)) + 1

structure Arr (gr : Nat → List α) (n : Nat) (sp : List Nat) (dp : Nat → Nat) (par : Nat → Int) : Prop where
  nodup : sp.Nodup
  lt : ∀ k ∈ sp, k < n
  dpsp : ∀ i (h : i < sp.length), dp sp[i] = i
  dple : ∀ k, k < n → dp k ≤ sp.length
  off : ∀ k, k < n → k ∉ sp → 1 ≤ dp k
  par0 : ∀ k, k < n → dp k = 0 → par k = -1 ∧ sp.head? = some k
  parS : ∀ k, k < n → ∀ d, dp k = d + 1 → ∃ h : d < sp.length, par k = (sp[d] : Int)
  prim : ∀ k, k < n → ∀ g ∈ gr k, k ∈ sp ∨ ∃ i, i < dp k ∧ ∃ h : i < sp.length, g ∈ gr sp[i]
  fresh : ∀ i (h : i < sp.length), ∃ g ∈ gr sp[i], cov gr (sp.take i) g = false
  first : ∀ k0, sp.head? = some k0 → (∀ k, k < n → (gr k).length ≤ (gr k0).length) ∧ ∀ k, k < k0 → (gr k).length < (gr k0).length

theorem lastOf_take {sp : List Nat} {d : Nat} (h : d < sp.length) : lastOf (sp.take (d + 1)) = (sp[d] : Int) := by
  rw [List.take_succ_eq_append_getElem h, lastOf_snoc]

theorem arr_of_good {gr : Nat → List α} {n : Nat} {sp : List Nat} (h : Good gr n sp) (hne : ∀ k, k < n → gr k ≠ []) (hend : ∀ k, k < n → k ∈ sp ∨ cnt gr sp k = 0) :
    Arr gr n sp (depth gr sp) (parFin gr sp) := by
  have hcov : ∀ k, k < n → k ∉ sp → ∀ g ∈ gr k, cov gr sp g = true := by
    intro k hk hn g hg
    rcases hend k hk with h' | h'
    · exact absurd h' hn
    · have h1 : (gr k).filter (fun g => !cov gr sp g) = [] := List.eq_nil_of_length_eq_zero h'
      have := List.filter_eq_nil_iff.1 h1 g hg
      simpa using this
  have hpick : ∀ k, k < n → k ∉ sp → pick gr sp (gr k) ∈ sp ∧ ∀ g ∈ gr k, sp.idxOf (ordN gr sp g) ≤ sp.idxOf (pick gr sp (gr k)) := by
    intro k hk hn
    have hc := hcov k hk hn
    cases hgr : gr k with
    | nil => exact absurd hgr (hne k hk)
    | cons g0 l =>
      rw [hgr] at hc
      have h0 := ordN_mem (hc g0 List.mem_cons_self)
      obtain ⟨a, b, c⟩ := pickL_spec l (ordN gr sp g0) h0.1 (fun g hg => hc g (List.mem_cons_of_mem _ hg))
      refine ⟨a, fun g hg => ?_⟩
      rcases List.mem_cons.1 hg with rfl | hg
      · exact b
      · exact c g hg
  refine ⟨h.nodup, h.lt, ?_, ?_, ?_, ?_, ?_, ?_, h.fresh, h.first⟩
  · intro i hi
    rw [depth, if_pos (List.getElem_mem hi)]
    exact List.Nodup.idxOf_getElem h.nodup i hi
  · intro k hk
    unfold depth
    split
    · rename_i hm; exact Nat.le_of_lt (List.idxOf_lt_length_of_mem hm)
    · rename_i hm
      have := List.idxOf_lt_length_of_mem (hpick k hk hm).1
      omega
  · intro k hk hn
    rw [depth, if_neg hn]; omega
  · intro k hk h0
    by_cases hm : k ∈ sp
    · rw [depth, if_pos hm] at h0
      rw [parFin, if_pos hm, parentOf, if_pos hm, h0]
      refine ⟨rfl, ?_⟩
      cases sp with
      | nil => simp at hm
      | cons a t =>
        by_cases e : a = k
        · simp [e]
        · have e' : (a == k) = false := by simpa using e
          rw [List.idxOf_cons, e'] at h0
          simp at h0
    · rw [depth, if_neg hm] at h0; omega
  · intro k hk d hd
    by_cases hm : k ∈ sp
    · rw [depth, if_pos hm] at hd
      have hl := List.idxOf_lt_length_of_mem hm
      refine ⟨by omega, ?_⟩
      rw [parFin, if_pos hm, parentOf, if_pos hm, hd, lastOf_take (by omega)]
    · rw [depth, if_neg hm] at hd
      have hp := (hpick k hk hm).1
      have hl := List.idxOf_lt_length_of_mem hp
      have e : d = sp.idxOf (pick gr sp (gr k)) := by omega
      subst e
      refine ⟨hl, ?_⟩
      rw [parFin, if_neg hm, List.getElem_idxOf]
  · intro k hk g hg
    by_cases hm : k ∈ sp
    · exact .inl hm
    · right
      have h1 := ordN_mem (hcov k hk hm g hg)
      have h2 := (hpick k hk hm).2 g hg
      have hl := List.idxOf_lt_length_of_mem h1.1
      refine ⟨sp.idxOf (ordN gr sp g), by rw [depth, if_neg hm]; omega, hl, ?_⟩
      rw [List.getElem_idxOf]
      exact h1.2

end Go.Proofs.Qxb6601741a.Ar
