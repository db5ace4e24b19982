/-
  No cell of these rows narrows 'for every input' (looked for: loops, veiled, ifaces, maps, wideKeys, modest, calm, conditions, laid).
  DERIVED. THE GIVEN ROWS OF THIS SEAT. 4 by the template 'for every input the law returns true; each argument reads behind the call as it read before'; 0 by the template 'total and deterministic' (their statements: Qxb6617339aTotals.lean).
  GIVEN WITH THE SEED: the statements are not yours to turn. If you find one false, say at which input.
  Laid BY PROGRAM, IN A SANDBOX (cutbox-rows.mjs): the forced cells as the released guide's own fill.sh prints them over the translation debc1a0125ca4a7f… (all of the seat's roots in one cut). By AI agents, Wed Nov 11 2026. No macro, syntax, notation, axiom, sorry.
-/
import Derived.Test.Qxb6617339aChecked
import GoSem.Claim
import GoSem.ClaimJoined
import GoSem.ClaimMapViews
import Derived.JoinedTies
import Derived.KernelRfl
namespace Go.Proofs.Qxb6617339a
/- THE CELL 'sum', in the pinned program and in every row, IS THE sha256 OF THE DUMP (.gsa) THAT Qxb6617339aProg.lean LOADS. Nothing in Lean hashes anything: it is a label: what it is worth is what the hold of that sum in a sandbox is worth. -/
noncomputable def Try.pinned : Pinned := { name := "qxb6617339a", sum := "debc1a0125ca4a7f6af9b43f6c9fa23873c5b3a8b88b9c762fc51b5f6ef79b49", checked := Try.checked }
namespace Rows
def none {H : Type} : Left H := { results := [], args := [] }

/-- 'zzlaws_internal_ere_b1.FnComplementMembershipAndInvolution': WHATEVER THE INPUT: true; the input reads as it did. -/
def fnComplementMembershipAndInvolutionSpec : ChangeSpec := { name := "fnComplementMembershipAndInvolution", fn := fun _ => fun
  | [d] => { results := [.lit (.bool true)], args := [d] }
  | _ => none }
def fnComplementMembershipAndInvolutionRow : OpenClaim := { program := "qxb6617339a", sum := "debc1a0125ca4a7f6af9b43f6c9fa23873c5b3a8b88b9c762fc51b5f6ef79b49", func := "example.com/exact-expander/exact-expander/zzlaws_internal_ere_b1.FnComplementMembershipAndInvolution", spec := "fnComplementMembershipAndInvolution", apart := false }
def FnComplementMembershipAndInvolutionSaid : Prop := fnComplementMembershipAndInvolutionRow.holds Try.pinned (OpenSpec.ofChange fnComplementMembershipAndInvolutionSpec)

/-- ITS FALSE NEIGHBOUR: 'it returns false'. Refute it at one input. -/
def fnComplementMembershipAndInvolutionWrong : ChangeSpec := { name := "fnComplementMembershipAndInvolution", fn := fun _ => fun
  | [d] => { results := [.lit (.bool false)], args := [d] }
  | _ => none }
def FnComplementMembershipAndInvolutionWrongFalsely : Prop := fnComplementMembershipAndInvolutionRow.holds Try.pinned (OpenSpec.ofChange fnComplementMembershipAndInvolutionWrong)

/-- 'zzlaws_internal_ere_b1.FnComplementDeMorganAndCount': WHATEVER THE INPUT: true; the input reads as it did. -/
def fnComplementDeMorganAndCountSpec : ChangeSpec := { name := "fnComplementDeMorganAndCount", fn := fun _ => fun
  | [d1, d2] => { results := [.lit (.bool true)], args := [d1, d2] }
  | _ => none }
def fnComplementDeMorganAndCountRow : OpenClaim := { program := "qxb6617339a", sum := "debc1a0125ca4a7f6af9b43f6c9fa23873c5b3a8b88b9c762fc51b5f6ef79b49", func := "example.com/exact-expander/exact-expander/zzlaws_internal_ere_b1.FnComplementDeMorganAndCount", spec := "fnComplementDeMorganAndCount", apart := false }
def FnComplementDeMorganAndCountSaid : Prop := fnComplementDeMorganAndCountRow.holds Try.pinned (OpenSpec.ofChange fnComplementDeMorganAndCountSpec)

/-- ITS FALSE NEIGHBOUR: 'it returns false'. Refute it at one input. -/
def fnComplementDeMorganAndCountWrong : ChangeSpec := { name := "fnComplementDeMorganAndCount", fn := fun _ => fun
  | [d1, d2] => { results := [.lit (.bool false)], args := [d1, d2] }
  | _ => none }
def FnComplementDeMorganAndCountWrongFalsely : Prop := fnComplementDeMorganAndCountRow.holds Try.pinned (OpenSpec.ofChange fnComplementDeMorganAndCountWrong)

/-- 'zzlaws_internal_ere_b1.FnChoiceCutAndNest': WHATEVER THE INPUT: true; the input reads as it did. -/
def fnChoiceCutAndNestSpec : ChangeSpec := { name := "fnChoiceCutAndNest", fn := fun _ => fun
  | [d1, d2] => { results := [.lit (.bool true)], args := [d1, d2] }
  | _ => none }
def fnChoiceCutAndNestRow : OpenClaim := { program := "qxb6617339a", sum := "debc1a0125ca4a7f6af9b43f6c9fa23873c5b3a8b88b9c762fc51b5f6ef79b49", func := "example.com/exact-expander/exact-expander/zzlaws_internal_ere_b1.FnChoiceCutAndNest", spec := "fnChoiceCutAndNest", apart := false }
def FnChoiceCutAndNestSaid : Prop := fnChoiceCutAndNestRow.holds Try.pinned (OpenSpec.ofChange fnChoiceCutAndNestSpec)

/-- ITS FALSE NEIGHBOUR: 'it returns false'. Refute it at one input. -/
def fnChoiceCutAndNestWrong : ChangeSpec := { name := "fnChoiceCutAndNest", fn := fun _ => fun
  | [d1, d2] => { results := [.lit (.bool false)], args := [d1, d2] }
  | _ => none }
def FnChoiceCutAndNestWrongFalsely : Prop := fnChoiceCutAndNestRow.holds Try.pinned (OpenSpec.ofChange fnChoiceCutAndNestWrong)

/-- 'zzlaws_internal_ere_b1.FnChoiceOrderFree': WHATEVER THE INPUT: true; the input reads as it did. -/
def fnChoiceOrderFreeSpec : ChangeSpec := { name := "fnChoiceOrderFree", fn := fun _ => fun
  | [d1, d2, d3] => { results := [.lit (.bool true)], args := [d1, d2, d3] }
  | _ => none }
def fnChoiceOrderFreeRow : OpenClaim := { program := "qxb6617339a", sum := "debc1a0125ca4a7f6af9b43f6c9fa23873c5b3a8b88b9c762fc51b5f6ef79b49", func := "example.com/exact-expander/exact-expander/zzlaws_internal_ere_b1.FnChoiceOrderFree", spec := "fnChoiceOrderFree", apart := false }
def FnChoiceOrderFreeSaid : Prop := fnChoiceOrderFreeRow.holds Try.pinned (OpenSpec.ofChange fnChoiceOrderFreeSpec)

/-- ITS FALSE NEIGHBOUR: 'it returns false'. Refute it at one input. -/
def fnChoiceOrderFreeWrong : ChangeSpec := { name := "fnChoiceOrderFree", fn := fun _ => fun
  | [d1, d2, d3] => { results := [.lit (.bool false)], args := [d1, d2, d3] }
  | _ => none }
def FnChoiceOrderFreeWrongFalsely : Prop := fnChoiceOrderFreeRow.holds Try.pinned (OpenSpec.ofChange fnChoiceOrderFreeWrong)

end Rows
end Go.Proofs.Qxb6617339a
