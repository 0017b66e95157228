/-
  No cell of these rows narrows 'for every input' (looked for: loops, veiled, ifaces, maps, wideKeys, modest, calm, conditions, laid).
  DERIVED. THE GIVEN ROWS OF THIS SEAT. 6 by the template 'for every input the law returns true; each argument reads behind the call as it read before'; 0 by the template 'total and deterministic' (their statements: Qxb6601741aTotals.lean).
  GIVEN WITH THE SEED: the statements are not yours to turn. If you find one false, say at which input.
  Laid BY PROGRAM, IN A SANDBOX (cutbox-rows.mjs): the forced cells as the released guide's own fill.sh prints them over the translation 9ab89c48bbd093e1… (all of the seat's roots in one cut). By AI agents, Wed Nov 11 2026. No macro, syntax, notation, axiom, sorry.
-/
import Derived.Test.Qxb6601741aChecked
import GoSem.Claim
import GoSem.ClaimJoined
import GoSem.ClaimMapViews
import Derived.JoinedTies
import Derived.KernelRfl
namespace Go.Proofs.Qxb6601741a
/- THE CELL 'sum', in the pinned program and in every row, IS THE sha256 OF THE DUMP (.gsa) THAT Qxb6601741aProg.lean LOADS. Nothing in Lean hashes anything: it is a label: what it is worth is what the hold of that sum in a sandbox is worth. -/
noncomputable def Try.pinned : Pinned := { name := "qxb6601741a", sum := "9ab89c48bbd093e11a426e5e1f6d7e8f79e490933b0c9da7ea4ef6b82c7bbf44", checked := Try.checked }
namespace Rows
def none {H : Type} : Left H := { results := [], args := [] }

/-- 'zzlaws_root_b1.FnViewFollowsIsElectionOrLaterGen': WHATEVER THE INPUT: true; the input reads as it did. -/
def fnViewFollowsIsElectionOrLaterGenSpec : ChangeSpec := { name := "fnViewFollowsIsElectionOrLaterGen", fn := fun _ => fun
  | [d1, d2, d3, d4, d5, d6] => { results := [.lit (.bool true)], args := [d1, d2, d3, d4, d5, d6] }
  | _ => none }
def fnViewFollowsIsElectionOrLaterGenRow : OpenClaim := { program := "qxb6601741a", sum := "9ab89c48bbd093e11a426e5e1f6d7e8f79e490933b0c9da7ea4ef6b82c7bbf44", func := "example.com/quillcast/quillcast/zzlaws_root_b1.FnViewFollowsIsElectionOrLaterGen", spec := "fnViewFollowsIsElectionOrLaterGen", apart := false }
def FnViewFollowsIsElectionOrLaterGenSaid : Prop := fnViewFollowsIsElectionOrLaterGenRow.holds Try.pinned (OpenSpec.ofChange fnViewFollowsIsElectionOrLaterGenSpec)

/-- ITS FALSE NEIGHBOUR: 'it returns false'. Refute it at one input. -/
def fnViewFollowsIsElectionOrLaterGenWrong : ChangeSpec := { name := "fnViewFollowsIsElectionOrLaterGen", fn := fun _ => fun
  | [d1, d2, d3, d4, d5, d6] => { results := [.lit (.bool false)], args := [d1, d2, d3, d4, d5, d6] }
  | _ => none }
def FnViewFollowsIsElectionOrLaterGenWrongFalsely : Prop := fnViewFollowsIsElectionOrLaterGenRow.holds Try.pinned (OpenSpec.ofChange fnViewFollowsIsElectionOrLaterGenWrong)

/-- 'zzlaws_root_b1.FnViewFollowsIsIrreflexiveAndAsymmetric': WHATEVER THE INPUT: true; the input reads as it did. -/
def fnViewFollowsIsIrreflexiveAndAsymmetricSpec : ChangeSpec := { name := "fnViewFollowsIsIrreflexiveAndAsymmetric", fn := fun _ => fun
  | [d1, d2, d3, d4, d5, d6] => { results := [.lit (.bool true)], args := [d1, d2, d3, d4, d5, d6] }
  | _ => none }
def fnViewFollowsIsIrreflexiveAndAsymmetricRow : OpenClaim := { program := "qxb6601741a", sum := "9ab89c48bbd093e11a426e5e1f6d7e8f79e490933b0c9da7ea4ef6b82c7bbf44", func := "example.com/quillcast/quillcast/zzlaws_root_b1.FnViewFollowsIsIrreflexiveAndAsymmetric", spec := "fnViewFollowsIsIrreflexiveAndAsymmetric", apart := false }
def FnViewFollowsIsIrreflexiveAndAsymmetricSaid : Prop := fnViewFollowsIsIrreflexiveAndAsymmetricRow.holds Try.pinned (OpenSpec.ofChange fnViewFollowsIsIrreflexiveAndAsymmetricSpec)

/-- ITS FALSE NEIGHBOUR: 'it returns false'. Refute it at one input. -/
def fnViewFollowsIsIrreflexiveAndAsymmetricWrong : ChangeSpec := { name := "fnViewFollowsIsIrreflexiveAndAsymmetric", fn := fun _ => fun
  | [d1, d2, d3, d4, d5, d6] => { results := [.lit (.bool false)], args := [d1, d2, d3, d4, d5, d6] }
  | _ => none }
def FnViewFollowsIsIrreflexiveAndAsymmetricWrongFalsely : Prop := fnViewFollowsIsIrreflexiveAndAsymmetricRow.holds Try.pinned (OpenSpec.ofChange fnViewFollowsIsIrreflexiveAndAsymmetricWrong)

/-- 'zzlaws_root_b1.FnViewFollowsIsTransitive': WHATEVER THE INPUT: true; the input reads as it did. -/
def fnViewFollowsIsTransitiveSpec : ChangeSpec := { name := "fnViewFollowsIsTransitive", fn := fun _ => fun
  | [d1, d2, d3, d4, d5, d6, d7, d8, d9] => { results := [.lit (.bool true)], args := [d1, d2, d3, d4, d5, d6, d7, d8, d9] }
  | _ => none }
def fnViewFollowsIsTransitiveRow : OpenClaim := { program := "qxb6601741a", sum := "9ab89c48bbd093e11a426e5e1f6d7e8f79e490933b0c9da7ea4ef6b82c7bbf44", func := "example.com/quillcast/quillcast/zzlaws_root_b1.FnViewFollowsIsTransitive", spec := "fnViewFollowsIsTransitive", apart := false }
def FnViewFollowsIsTransitiveSaid : Prop := fnViewFollowsIsTransitiveRow.holds Try.pinned (OpenSpec.ofChange fnViewFollowsIsTransitiveSpec)

/-- ITS FALSE NEIGHBOUR: 'it returns false'. Refute it at one input. -/
def fnViewFollowsIsTransitiveWrong : ChangeSpec := { name := "fnViewFollowsIsTransitive", fn := fun _ => fun
  | [d1, d2, d3, d4, d5, d6, d7, d8, d9] => { results := [.lit (.bool false)], args := [d1, d2, d3, d4, d5, d6, d7, d8, d9] }
  | _ => none }
def FnViewFollowsIsTransitiveWrongFalsely : Prop := fnViewFollowsIsTransitiveRow.holds Try.pinned (OpenSpec.ofChange fnViewFollowsIsTransitiveWrong)

/-- 'zzlaws_root_b1.FnArrangeIsRootedTree': WHATEVER THE INPUT: true; the input reads as it did. -/
def fnArrangeIsRootedTreeSpec : ChangeSpec := { name := "fnArrangeIsRootedTree", fn := fun _ => fun
  | [d] => { results := [.lit (.bool true)], args := [d] }
  | _ => none }
def fnArrangeIsRootedTreeRow : OpenClaim := { program := "qxb6601741a", sum := "9ab89c48bbd093e11a426e5e1f6d7e8f79e490933b0c9da7ea4ef6b82c7bbf44", func := "example.com/quillcast/quillcast/zzlaws_root_b1.FnArrangeIsRootedTree", spec := "fnArrangeIsRootedTree", apart := false }
def FnArrangeIsRootedTreeSaid : Prop := fnArrangeIsRootedTreeRow.holds Try.pinned (OpenSpec.ofChange fnArrangeIsRootedTreeSpec)

/-- ITS FALSE NEIGHBOUR: 'it returns false'. Refute it at one input. -/
def fnArrangeIsRootedTreeWrong : ChangeSpec := { name := "fnArrangeIsRootedTree", fn := fun _ => fun
  | [d] => { results := [.lit (.bool false)], args := [d] }
  | _ => none }
def FnArrangeIsRootedTreeWrongFalsely : Prop := fnArrangeIsRootedTreeRow.holds Try.pinned (OpenSpec.ofChange fnArrangeIsRootedTreeWrong)

/-- 'zzlaws_root_b1.FnArrangeOneOrdererPerGroup': WHATEVER THE INPUT: true; the input reads as it did. -/
def fnArrangeOneOrdererPerGroupSpec : ChangeSpec := { name := "fnArrangeOneOrdererPerGroup", fn := fun _ => fun
  | [d] => { results := [.lit (.bool true)], args := [d] }
  | _ => none }
def fnArrangeOneOrdererPerGroupRow : OpenClaim := { program := "qxb6601741a", sum := "9ab89c48bbd093e11a426e5e1f6d7e8f79e490933b0c9da7ea4ef6b82c7bbf44", func := "example.com/quillcast/quillcast/zzlaws_root_b1.FnArrangeOneOrdererPerGroup", spec := "fnArrangeOneOrdererPerGroup", apart := false }
def FnArrangeOneOrdererPerGroupSaid : Prop := fnArrangeOneOrdererPerGroupRow.holds Try.pinned (OpenSpec.ofChange fnArrangeOneOrdererPerGroupSpec)

/-- ITS FALSE NEIGHBOUR: 'it returns false'. Refute it at one input. -/
def fnArrangeOneOrdererPerGroupWrong : ChangeSpec := { name := "fnArrangeOneOrdererPerGroup", fn := fun _ => fun
  | [d] => { results := [.lit (.bool false)], args := [d] }
  | _ => none }
def FnArrangeOneOrdererPerGroupWrongFalsely : Prop := fnArrangeOneOrdererPerGroupRow.holds Try.pinned (OpenSpec.ofChange fnArrangeOneOrdererPerGroupWrong)

/-- 'zzlaws_root_b1.FnArrangeHeightAtMostGroups': WHATEVER THE INPUT: true; the input reads as it did. -/
def fnArrangeHeightAtMostGroupsSpec : ChangeSpec := { name := "fnArrangeHeightAtMostGroups", fn := fun _ => fun
  | [d] => { results := [.lit (.bool true)], args := [d] }
  | _ => none }
def fnArrangeHeightAtMostGroupsRow : OpenClaim := { program := "qxb6601741a", sum := "9ab89c48bbd093e11a426e5e1f6d7e8f79e490933b0c9da7ea4ef6b82c7bbf44", func := "example.com/quillcast/quillcast/zzlaws_root_b1.FnArrangeHeightAtMostGroups", spec := "fnArrangeHeightAtMostGroups", apart := false }
def FnArrangeHeightAtMostGroupsSaid : Prop := fnArrangeHeightAtMostGroupsRow.holds Try.pinned (OpenSpec.ofChange fnArrangeHeightAtMostGroupsSpec)

/-- ITS FALSE NEIGHBOUR: 'it returns false'. Refute it at one input. -/
def fnArrangeHeightAtMostGroupsWrong : ChangeSpec := { name := "fnArrangeHeightAtMostGroups", fn := fun _ => fun
  | [d] => { results := [.lit (.bool false)], args := [d] }
  | _ => none }
def FnArrangeHeightAtMostGroupsWrongFalsely : Prop := fnArrangeHeightAtMostGroupsRow.holds Try.pinned (OpenSpec.ofChange fnArrangeHeightAtMostGroupsWrong)

end Rows
end Go.Proofs.Qxb6601741a
