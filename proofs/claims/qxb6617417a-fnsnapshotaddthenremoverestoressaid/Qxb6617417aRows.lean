/-
  No cell of these rows narrows 'for every input' (looked for: loops, veiled, ifaces, maps, wideKeys, modest, calm, conditions, laid).
  DERIVED. THE GIVEN ROWS OF THIS SEAT. 5 by the template 'for every input the law returns true; each argument reads behind the call as it read before'; 0 by the template 'total and deterministic' (their statements: Qxb6617417aTotals.lean).
  GIVEN WITH THE SEED: the statements are not yours to turn. If you find one false, say at which input.
  Laid BY PROGRAM, IN A SANDBOX (cutbox-rows.mjs): the forced cells as the released guide's own fill.sh prints them over the translation 682bf64c70ca8e05… (all of the seat's roots in one cut). By AI agents, Wed Nov 11 2026. No macro, syntax, notation, axiom, sorry.
-/
import Derived.Test.Qxb6617417aChecked
import GoSem.Claim
import GoSem.ClaimJoined
import GoSem.ClaimMapViews
import Derived.JoinedTies
import Derived.KernelRfl
namespace Go.Proofs.Qxb6617417a
/- THE CELL 'sum', in the pinned program and in every row, IS THE sha256 OF THE DUMP (.gsa) THAT Qxb6617417aProg.lean LOADS. Nothing in Lean hashes anything: it is a label: what it is worth is what the hold of that sum in a sandbox is worth. -/
noncomputable def Try.pinned : Pinned := { name := "qxb6617417a", sum := "682bf64c70ca8e052fcdc672a1c2bb516869d883d892d6aa7bbbf23094131a5e", checked := Try.checked }
namespace Rows
def none {H : Type} : Left H := { results := [], args := [] }

/-- 'zzlaws_root_b1.FnSnapshotAddCountsOneReader': WHATEVER THE INPUT: true; the input reads as it did. -/
def fnSnapshotAddCountsOneReaderSpec : ChangeSpec := { name := "fnSnapshotAddCountsOneReader", fn := fun _ => fun
  | [d1, d2, d3, d4, d5, d6, d7] => { results := [.lit (.bool true)], args := [d1, d2, d3, d4, d5, d6, d7] }
  | _ => none }
def fnSnapshotAddCountsOneReaderRow : OpenClaim := { program := "qxb6617417a", sum := "682bf64c70ca8e052fcdc672a1c2bb516869d883d892d6aa7bbbf23094131a5e", func := "example.com/serialis/serialis/zzlaws_root_b1.FnSnapshotAddCountsOneReader", spec := "fnSnapshotAddCountsOneReader", apart := false }
def FnSnapshotAddCountsOneReaderSaid : Prop := fnSnapshotAddCountsOneReaderRow.holds Try.pinned (OpenSpec.ofChange fnSnapshotAddCountsOneReaderSpec)

/-- ITS FALSE NEIGHBOUR: 'it returns false'. Refute it at one input. -/
def fnSnapshotAddCountsOneReaderWrong : ChangeSpec := { name := "fnSnapshotAddCountsOneReader", fn := fun _ => fun
  | [d1, d2, d3, d4, d5, d6, d7] => { results := [.lit (.bool false)], args := [d1, d2, d3, d4, d5, d6, d7] }
  | _ => none }
def FnSnapshotAddCountsOneReaderWrongFalsely : Prop := fnSnapshotAddCountsOneReaderRow.holds Try.pinned (OpenSpec.ofChange fnSnapshotAddCountsOneReaderWrong)

/-- 'zzlaws_root_b1.FnSnapshotRemoveDropsOneReader': WHATEVER THE INPUT: true; the input reads as it did. -/
def fnSnapshotRemoveDropsOneReaderSpec : ChangeSpec := { name := "fnSnapshotRemoveDropsOneReader", fn := fun _ => fun
  | [d1, d2, d3, d4, d5, d6, d7] => { results := [.lit (.bool true)], args := [d1, d2, d3, d4, d5, d6, d7] }
  | _ => none }
def fnSnapshotRemoveDropsOneReaderRow : OpenClaim := { program := "qxb6617417a", sum := "682bf64c70ca8e052fcdc672a1c2bb516869d883d892d6aa7bbbf23094131a5e", func := "example.com/serialis/serialis/zzlaws_root_b1.FnSnapshotRemoveDropsOneReader", spec := "fnSnapshotRemoveDropsOneReader", apart := false }
def FnSnapshotRemoveDropsOneReaderSaid : Prop := fnSnapshotRemoveDropsOneReaderRow.holds Try.pinned (OpenSpec.ofChange fnSnapshotRemoveDropsOneReaderSpec)

/-- ITS FALSE NEIGHBOUR: 'it returns false'. Refute it at one input. -/
def fnSnapshotRemoveDropsOneReaderWrong : ChangeSpec := { name := "fnSnapshotRemoveDropsOneReader", fn := fun _ => fun
  | [d1, d2, d3, d4, d5, d6, d7] => { results := [.lit (.bool false)], args := [d1, d2, d3, d4, d5, d6, d7] }
  | _ => none }
def FnSnapshotRemoveDropsOneReaderWrongFalsely : Prop := fnSnapshotRemoveDropsOneReaderRow.holds Try.pinned (OpenSpec.ofChange fnSnapshotRemoveDropsOneReaderWrong)

/-- 'zzlaws_root_b1.FnSnapshotAddThenRemoveRestores': WHATEVER THE INPUT: true; the input reads as it did. -/
def fnSnapshotAddThenRemoveRestoresSpec : ChangeSpec := { name := "fnSnapshotAddThenRemoveRestores", fn := fun _ => fun
  | [d1, d2, d3, d4, d5, d6, d7] => { results := [.lit (.bool true)], args := [d1, d2, d3, d4, d5, d6, d7] }
  | _ => none }
def fnSnapshotAddThenRemoveRestoresRow : OpenClaim := { program := "qxb6617417a", sum := "682bf64c70ca8e052fcdc672a1c2bb516869d883d892d6aa7bbbf23094131a5e", func := "example.com/serialis/serialis/zzlaws_root_b1.FnSnapshotAddThenRemoveRestores", spec := "fnSnapshotAddThenRemoveRestores", apart := false }
def FnSnapshotAddThenRemoveRestoresSaid : Prop := fnSnapshotAddThenRemoveRestoresRow.holds Try.pinned (OpenSpec.ofChange fnSnapshotAddThenRemoveRestoresSpec)

/-- ITS FALSE NEIGHBOUR: 'it returns false'. Refute it at one input. -/
def fnSnapshotAddThenRemoveRestoresWrong : ChangeSpec := { name := "fnSnapshotAddThenRemoveRestores", fn := fun _ => fun
  | [d1, d2, d3, d4, d5, d6, d7] => { results := [.lit (.bool false)], args := [d1, d2, d3, d4, d5, d6, d7] }
  | _ => none }
def FnSnapshotAddThenRemoveRestoresWrongFalsely : Prop := fnSnapshotAddThenRemoveRestoresRow.holds Try.pinned (OpenSpec.ofChange fnSnapshotAddThenRemoveRestoresWrong)

/-- 'zzlaws_root_b1.FnJoinIsTheUnionOfTheKeys': WHATEVER THE INPUT: true; the input reads as it did. -/
def fnJoinIsTheUnionOfTheKeysSpec : ChangeSpec := { name := "fnJoinIsTheUnionOfTheKeys", fn := fun _ => fun
  | [d1, d2, d3, d4, d5] => { results := [.lit (.bool true)], args := [d1, d2, d3, d4, d5] }
  | _ => none }
def fnJoinIsTheUnionOfTheKeysRow : OpenClaim := { program := "qxb6617417a", sum := "682bf64c70ca8e052fcdc672a1c2bb516869d883d892d6aa7bbbf23094131a5e", func := "example.com/serialis/serialis/zzlaws_root_b1.FnJoinIsTheUnionOfTheKeys", spec := "fnJoinIsTheUnionOfTheKeys", apart := false }
def FnJoinIsTheUnionOfTheKeysSaid : Prop := fnJoinIsTheUnionOfTheKeysRow.holds Try.pinned (OpenSpec.ofChange fnJoinIsTheUnionOfTheKeysSpec)

/-- ITS FALSE NEIGHBOUR: 'it returns false'. Refute it at one input. -/
def fnJoinIsTheUnionOfTheKeysWrong : ChangeSpec := { name := "fnJoinIsTheUnionOfTheKeys", fn := fun _ => fun
  | [d1, d2, d3, d4, d5] => { results := [.lit (.bool false)], args := [d1, d2, d3, d4, d5] }
  | _ => none }
def FnJoinIsTheUnionOfTheKeysWrongFalsely : Prop := fnJoinIsTheUnionOfTheKeysRow.holds Try.pinned (OpenSpec.ofChange fnJoinIsTheUnionOfTheKeysWrong)

/-- 'zzlaws_root_b1.FnJoinIsOrderFreeAndAbsorbs': WHATEVER THE INPUT: true; the input reads as it did. -/
def fnJoinIsOrderFreeAndAbsorbsSpec : ChangeSpec := { name := "fnJoinIsOrderFreeAndAbsorbs", fn := fun _ => fun
  | [d1, d2, d3, d4] => { results := [.lit (.bool true)], args := [d1, d2, d3, d4] }
  | _ => none }
def fnJoinIsOrderFreeAndAbsorbsRow : OpenClaim := { program := "qxb6617417a", sum := "682bf64c70ca8e052fcdc672a1c2bb516869d883d892d6aa7bbbf23094131a5e", func := "example.com/serialis/serialis/zzlaws_root_b1.FnJoinIsOrderFreeAndAbsorbs", spec := "fnJoinIsOrderFreeAndAbsorbs", apart := false }
def FnJoinIsOrderFreeAndAbsorbsSaid : Prop := fnJoinIsOrderFreeAndAbsorbsRow.holds Try.pinned (OpenSpec.ofChange fnJoinIsOrderFreeAndAbsorbsSpec)

/-- ITS FALSE NEIGHBOUR: 'it returns false'. Refute it at one input. -/
def fnJoinIsOrderFreeAndAbsorbsWrong : ChangeSpec := { name := "fnJoinIsOrderFreeAndAbsorbs", fn := fun _ => fun
  | [d1, d2, d3, d4] => { results := [.lit (.bool false)], args := [d1, d2, d3, d4] }
  | _ => none }
def FnJoinIsOrderFreeAndAbsorbsWrongFalsely : Prop := fnJoinIsOrderFreeAndAbsorbsRow.holds Try.pinned (OpenSpec.ofChange fnJoinIsOrderFreeAndAbsorbsWrong)

end Rows
end Go.Proofs.Qxb6617417a
