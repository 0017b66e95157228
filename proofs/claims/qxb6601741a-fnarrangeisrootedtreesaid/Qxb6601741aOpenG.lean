/-
  A '[][]string' that came in, opened.
-/
import Derived.Test.Qxb6601741aGuardW
import Derived.Deep.Strs
import Derived.WideShapes
namespace Go.Proofs.Qxb6601741a
open Go.RowKit Go.Deep

theorem Try.cells32 : Try.prog.cellsOf 32 = 1 := by kernel_rfl
theorem Try.cells9 : Try.prog.cellsOf 9 = 1 := by kernel_rfl

theorem plain_addr {w : World} {x : Addr} {v : Value} (h : w.cell? (x.add 0) = some v) : ∃ b o, x = ⟨b, o, none⟩ := by
  obtain ⟨b, off, spot⟩ := x
  have hs : spot = none := by simpa [Addr.add] using World.cell?_spot h
  subst hs
  exact ⟨b, off, rfl⟩

theorem open_groups {H : Type} {enc : TypeId × Value → H} {W : World} {fuel : Nat} {a : Option Addr} {n cap : Nat} {x : DataW H × List MemPlace}
    (h : DataW.trod enc Try.prog W 0 (fun _ => true) true fuel 29 [.slice a n cap] = some x) :
    n ≤ maxLen ∧ (n = 0 ∨ ∃ gb go A L C S, a = some ⟨gb, go, none⟩ ∧ Grps W gb go n A L C S) := by
  rcases open_slice1 Try.underlying29 Try.cells32 h with ⟨hcs, _⟩ | ⟨a', len, cap', m, f, V, D, Pl, hcs, _, hl, hm, hmm, _, hx⟩
  · simp at hcs
    obtain ⟨_, rfl, _⟩ := hcs
    exact ⟨Nat.zero_le _, .inl rfl⟩
  · simp at hcs
    obtain ⟨rfl, rfl, rfl⟩ := hcs
    simp only [if_true] at hmm
    subst hmm
    refine ⟨by omega, ?_⟩
    by_cases h0 : n = 0
    · exact .inl h0
    right
    obtain ⟨gb, go, rfl⟩ := plain_addr (hx 0 (by omega)).1
    have each : ∀ r, r < m → ∃ y : Option Addr × Nat × Nat × (Nat → ByteArray), V r = .slice y.1 y.2.1 y.2.2.1 ∧ y.2.1 ≤ y.2.2.1 ∧ y.2.2.1 ≤ maxLen ∧
        ∀ j, j < y.2.1 → ∃ b o, y.1 = some ⟨b, o, none⟩ ∧ W.cell? ⟨b, o + j, none⟩ = some (.string (y.2.2.2 j)) ∧ (y.2.2.2 j).size ≤ maxLen := by
      intro r hr
      rcases open_strs Try.underlying32 Try.underlying9 Try.cells9 (hx r hr).2 with ⟨hcs, _⟩ | ⟨a2, len2, cap2, m2, Sx, hcs, _, hl2, hm2, hmm2, _, hS⟩
      · exact ⟨(none, 0, 0, fun _ => ByteArray.empty), by simpa using hcs, Nat.le_refl _, Nat.zero_le _, fun j hj => absurd hj (Nat.not_lt_zero _)⟩
      · simp only [if_true] at hmm2
        subst hmm2
        refine ⟨(some a2, len2, m2, Sx), by simpa using hcs, hl2, hm2, fun j hj => ?_⟩
        have hj' : j < len2 := hj
        obtain ⟨b, o, rfl⟩ := plain_addr (hS 0 (by omega)).1
        have hc := hS j (by omega)
        rw [Go.WideShapes.add_plain] at hc
        exact ⟨b, o, rfl, hc.1, hc.2⟩
    obtain ⟨y, hy⟩ := choose_lt each
    refine ⟨gb, go, fun r => (y r).1, fun r => (y r).2.1, fun r => (y r).2.2.1, fun r => (y r).2.2.2, rfl, fun k hk => ?_, fun k hk => (hy k (by omega)).2.2.2, fun k hk => ⟨(hy k (by omega)).2.1, (hy k (by omega)).2.2.1⟩⟩
    have := (hx k (by omega)).1
    rw [Go.WideShapes.add_plain] at this
    rw [this, (hy k (by omega)).1]
end Go.Proofs.Qxb6601741a
