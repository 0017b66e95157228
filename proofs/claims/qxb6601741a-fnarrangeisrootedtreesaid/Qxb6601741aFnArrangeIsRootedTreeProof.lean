/-
  'Rows.FnArrangeIsRootedTreeSaid' proved: the guide's frame at this function's number and type, its walk filled.
-/
import Derived.Test.Qxb6601741aRows
import Derived.Test.Qxb6601741aRootedW
import Derived.Test.Qxb6601741aOpenG
import Derived.WalkKit
import Derived.ProofKit
import Derived.OpenShut
import Derived.ShutString
import Derived.ChangeOld
import Derived.Below
namespace Go.Proofs.Qxb6601741a.fnArrangeIsRootedTree
open Go.ChangeShapes Go.WideShapes Go.ChangeAt Go.RowKit
set_option linter.unusedVariables false

theorem own : ownKnob Try.prog.godebug = none := by kernel_rfl
theorem laidOut : laidOutB Try.prog = true := by kernel_rfl

/-- The walk, whatever came in. -/
theorem walk (a : Option Addr) (n cap : Nat) (W : World) (hn : n ≤ maxLen) (h : n = 0 ∨ ∃ gb go A L C S, a = some ⟨gb, go, none⟩ ∧ Grps W gb go n A L C S) :
    Calls Try.prog 6 #[.slice a n cap] W fun e w' => e = .returned (.bool true) ∧ Below W.heap.size W w' := by
  rcases h with rfl | ⟨gb, go, A, L, C, S, rfl, hg⟩
  · exact rooted_empty a cap W
  · rcases Nat.eq_zero_or_pos n with rfl | hp
    · exact rooted_empty _ cap W
    · exact rooted_in gb go n cap A L C S W hp hn hg

set_option maxRecDepth 100000 in
theorem lifted (os : Os) (started : os.Started) (H : Type) (enc : TypeId × Value → H) :
    ReturnsInHanded {} Try.checked os 6 .any (Rows.fnArrangeIsRootedTreeSpec.pre6 enc Try.prog Try.f6 Rows.fnArrangeIsRootedTreeRow.domain false) (Rows.fnArrangeIsRootedTreeSpec.post enc Try.prog Try.f6 false true false false) := by
  refine returnsInHanded_of_change (C := Try.checked) own started (by kernel_rfl) Try.func6
    (ChangeSpec.witness6 (enc := enc) (C := Try.checked) false ⟨#[], #[.slice none 0 0], []⟩ 8 (by kernel_rfl) (by kernel_rfl) (by kernel_rfl) (by kernel_rfl)) ?_
  intro W base args ds gs before hval0 hW hcnd _
  have hval : ∀ (j : Nat) t v, Try.f6.params[j]? = some t → args[j]? = some v → Value.okWide Try.prog W .any base t v := hval0
  have hW' := hW
  obtain ⟨p, q, hA0, hV, rfl, hfz, hnd⟩ := hW
  have hA : DataW.TrodAll enc Try.prog W 0 (fun _ => true) true Try.f6.params.toList args.toList ds p := hA0
  rw [Try.params6] at hA hval
  obtain ⟨v0, vs0, d0, ds0, p0, q0, hargs, rfl, rfl, h0, r0⟩ := trodAll_cons hA
  obtain ⟨rfl, rfl, rfl⟩ := trodAll_nil r0
  obtain rfl : args = #[v0] := by cases args; simp_all
  obtain ⟨rfl, rfl⟩ := trodVars_none hV
  obtain ⟨a0, len0, cap0, rfl⟩ := okWide_slice Try.underlying29 (hval 0 29 v0 rfl rfl)
  have k0 := h0
  have lt0 : ∀ x ∈ p0, x.block < W.heap.size := by obtain ⟨m, hm⟩ := k0; exact DataW.trod_lt m _ _ _ hm
  obtain ⟨hn, hg⟩ : len0 ≤ maxLen ∧ (len0 = 0 ∨ ∃ gb go A L C S, a0 = some ⟨gb, go, none⟩ ∧ Grps W gb go len0 A L C S) := by
    obtain ⟨fuel, hf⟩ := h0
    exact open_groups (by simpa [Value.cells] using hf)
  clear hA0 hval0
  refine (walk a0 len0 cap0 W hn hg).mono fun e W' ⟨he, bel⟩ => ?_
  subst he
  exact ⟨_, rfl, _, _, _, [], _, [], hW', trodAll_mk1 (shut_bool Try.underlying4 _), (trodAll_cons_mk (Below.trod laidOut (by kernel_rfl) (of_decide_eq_true (by kernel_rfl)) k0 bel lt0) trodAll_mk0), rfl, bel.frame _, fun h => by cases h⟩

theorem over : Rows.fnArrangeIsRootedTreeRow.holds Try.pinned (OpenSpec.ofChange Rows.fnArrangeIsRootedTreeSpec) :=
  OpenClaim.holds_of_wide 6 Try.f6 rfl rfl rfl rfl rfl rfl rfl ⟨rfl, rfl, rfl, rfl, rfl⟩ rfl rfl rfl rfl rfl (by kernel_rfl) Try.func6 (by kernel_rfl)
    (of_decide_eq_true (by kernel_rfl)) (by unfold Func.isWrapper; first | (rw [if_pos (by decide +kernel)]; kernel_rfl) | (rw [if_neg (by decide +kernel)]; exact ⟨rfl, rfl⟩))
    (fun os started H enc _ => lifted os started H enc)

/-- The statement. -/
theorem proved : Rows.FnArrangeIsRootedTreeSaid := over
end Go.Proofs.Qxb6601741a.fnArrangeIsRootedTree
