/-
  Plain mathematics of the law 'one orderer a group'. No Go here.
-/
import Derived.Test.Qxb6601741aArrLaw
namespace Go.Proofs.Qxb6601741a.Ar
variable {α : Type} [DecidableEq α]
variable {gr : Nat → List α} {n : Nat} {sp : List Nat} {dp : Nat → Nat} {par : Nat → Int}

/-- The highest metagroup above depth d that follows g; t where none does. -/
def topAt (gr : Nat → List α) (sp : List Nat) (d t : Nat) (g : α) : Nat := ((sp.take d).find? (fun k => decide (g ∈ gr k))).getD t

theorem topAt_zero (gr : Nat → List α) (sp : List Nat) (t : Nat) (g : α) : topAt gr sp 0 t g = t := by simp [topAt]

theorem topAt_step {d b t : Nat} (hd : d < sp.length) (hb : sp[d] = b) (g : α) : topAt gr sp (d + 1) t g = topAt gr sp d (if g ∈ gr b then b else t) g := by
  unfold topAt
  rw [List.take_succ_eq_append_getElem hd, List.find?_append, hb]
  cases (sp.take d).find? (fun k => decide (g ∈ gr k)) with
  | some x => simp
  | none => by_cases h : g ∈ gr b <;> simp [h]

theorem Arr.dp_lt (h : Arr gr n sp dp par) {k : Nat} (hk : k < n) : dp k < n := by
  by_cases hm : k ∈ sp
  · obtain ⟨i, hi, rfl⟩ := List.getElem_of_mem hm
    rw [h.dpsp i hi]
    have := h.len_n
    omega
  · have h1 := nodup_len n (k :: sp) (List.nodup_cons.2 ⟨hm, h.nodup⟩) (fun x hx => by
      rcases List.mem_cons.1 hx with rfl | hx
      · exact hk
      · exact h.lt x hx)
    have h2 := h.dple k hk
    simp at h1
    omega

theorem find_take (p : Nat → Bool) (l : List Nat) (d : Nat) {x : Nat} (h : (l.take d).find? p = some x) : l.find? p = some x := by
  have e : l.find? p = ((l.take d).find? p).or ((l.drop d).find? p) := by rw [← List.find?_append, List.take_append_drop]
  rw [e, h]; rfl

/-- From wherever one sets out, the highest follower of g is g's primary. -/
theorem Arr.top_start (h : Arr gr n sp dp par) {k : Nat} (hk : k < n) {g : α} (hg : g ∈ gr k) : topAt gr sp (dp k) k g = ordN gr sp g := by
  unfold topAt ordN ordOf
  cases hf : (sp.take (dp k)).find? (fun k => decide (g ∈ gr k)) with
  | some x => rw [find_take _ _ _ hf]; rfl
  | none =>
    rcases h.prim k hk g hg with hm | ⟨i, hi, hl, hgi⟩
    · obtain ⟨i, hi, rfl⟩ := List.getElem_of_mem hm
      rw [h.dpsp i hi] at hf
      have e : sp.find? (fun k => decide (g ∈ gr k)) = some sp[i] := by
        apply find_take _ sp (i + 1)
        rw [List.take_succ_eq_append_getElem hi, List.find?_append, hf]
        simp [hg]
      rw [e]; rfl
    · have := List.find?_eq_none.1 hf sp[i] (List.mem_take_iff_getElem.2 ⟨i, by omega, rfl⟩)
      simp [hgi] at this

end Go.Proofs.Qxb6601741a.Ar
