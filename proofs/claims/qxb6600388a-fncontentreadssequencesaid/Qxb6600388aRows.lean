/-
  No cell of these rows narrows 'for every input' (looked for: loops, veiled, ifaces, maps, wideKeys, modest, calm, conditions, laid).
  DERIVED. THE GIVEN ROWS OF THIS SEAT. 5 by the template 'for every input the law returns true; each argument reads behind the call as it read before'; 0 by the template 'total and deterministic' (their statements: Qxb6600388aTotals.lean).
  GIVEN WITH THE SEED: the statements are not yours to turn. If you find one false, say at which input.
  Laid BY PROGRAM, IN A SANDBOX (cutbox-rows.mjs): the forced cells as the released guide's own fill.sh prints them over the translation 5517d0ef6c963ec1… (all of the seat's roots in one cut). By AI agents, Wed Nov 11 2026. No macro, syntax, notation, axiom, sorry.
-/
import Derived.Test.Qxb6600388aChecked
import GoSem.Claim
import GoSem.ClaimJoined
import GoSem.ClaimMapViews
import Derived.JoinedTies
import Derived.KernelRfl
namespace Go.Proofs.Qxb6600388a
/- THE CELL 'sum', in the pinned program and in every row, IS THE sha256 OF THE DUMP (.gsa) THAT Qxb6600388aProg.lean LOADS. Nothing in Lean hashes anything: it is a label: what it is worth is what the hold of that sum in a sandbox is worth. -/
noncomputable def Try.pinned : Pinned := { name := "qxb6600388a", sum := "5517d0ef6c963ec11c71b42abe3d914f85c55209c3f3b4d93ba41904c3cf1d5c", checked := Try.checked }
namespace Rows
def none {H : Type} : Left H := { results := [], args := [] }

/-- 'zzlaws_internal_ledger_b1.FnCborHeadDecodesEncodedHead': WHATEVER THE INPUT: true; the input reads as it did. -/
def fnCborHeadDecodesEncodedHeadSpec : ChangeSpec := { name := "fnCborHeadDecodesEncodedHead", fn := fun _ => fun
  | [d1, d2, d3, d4] => { results := [.lit (.bool true)], args := [d1, d2, d3, d4] }
  | _ => none }
def fnCborHeadDecodesEncodedHeadRow : OpenClaim := { program := "qxb6600388a", sum := "5517d0ef6c963ec11c71b42abe3d914f85c55209c3f3b4d93ba41904c3cf1d5c", func := "example.com/rootstamp/rootstamp/zzlaws_internal_ledger_b1.FnCborHeadDecodesEncodedHead", spec := "fnCborHeadDecodesEncodedHead", apart := false }
def FnCborHeadDecodesEncodedHeadSaid : Prop := fnCborHeadDecodesEncodedHeadRow.holds Try.pinned (OpenSpec.ofChange fnCborHeadDecodesEncodedHeadSpec)

/-- ITS FALSE NEIGHBOUR: 'it returns false'. Refute it at one input. -/
def fnCborHeadDecodesEncodedHeadWrong : ChangeSpec := { name := "fnCborHeadDecodesEncodedHead", fn := fun _ => fun
  | [d1, d2, d3, d4] => { results := [.lit (.bool false)], args := [d1, d2, d3, d4] }
  | _ => none }
def FnCborHeadDecodesEncodedHeadWrongFalsely : Prop := fnCborHeadDecodesEncodedHeadRow.holds Try.pinned (OpenSpec.ofChange fnCborHeadDecodesEncodedHeadWrong)

/-- 'zzlaws_internal_ledger_b1.FnCborHeadReadsOnlyItsHead': WHATEVER THE INPUT: true; the input reads as it did. -/
def fnCborHeadReadsOnlyItsHeadSpec : ChangeSpec := { name := "fnCborHeadReadsOnlyItsHead", fn := fun _ => fun
  | [d1, d2] => { results := [.lit (.bool true)], args := [d1, d2] }
  | _ => none }
def fnCborHeadReadsOnlyItsHeadRow : OpenClaim := { program := "qxb6600388a", sum := "5517d0ef6c963ec11c71b42abe3d914f85c55209c3f3b4d93ba41904c3cf1d5c", func := "example.com/rootstamp/rootstamp/zzlaws_internal_ledger_b1.FnCborHeadReadsOnlyItsHead", spec := "fnCborHeadReadsOnlyItsHead", apart := false }
def FnCborHeadReadsOnlyItsHeadSaid : Prop := fnCborHeadReadsOnlyItsHeadRow.holds Try.pinned (OpenSpec.ofChange fnCborHeadReadsOnlyItsHeadSpec)

/-- ITS FALSE NEIGHBOUR: 'it returns false'. Refute it at one input. -/
def fnCborHeadReadsOnlyItsHeadWrong : ChangeSpec := { name := "fnCborHeadReadsOnlyItsHead", fn := fun _ => fun
  | [d1, d2] => { results := [.lit (.bool false)], args := [d1, d2] }
  | _ => none }
def FnCborHeadReadsOnlyItsHeadWrongFalsely : Prop := fnCborHeadReadsOnlyItsHeadRow.holds Try.pinned (OpenSpec.ofChange fnCborHeadReadsOnlyItsHeadWrong)

/-- 'zzlaws_internal_ledger_b1.FnArgumentReadsEncodedHead': WHATEVER THE INPUT: true; the input reads as it did. -/
def fnArgumentReadsEncodedHeadSpec : ChangeSpec := { name := "fnArgumentReadsEncodedHead", fn := fun _ => fun
  | [d1, d2, d3, d4, d5] => { results := [.lit (.bool true)], args := [d1, d2, d3, d4, d5] }
  | _ => none }
def fnArgumentReadsEncodedHeadRow : OpenClaim := { program := "qxb6600388a", sum := "5517d0ef6c963ec11c71b42abe3d914f85c55209c3f3b4d93ba41904c3cf1d5c", func := "example.com/rootstamp/rootstamp/zzlaws_internal_ledger_b1.FnArgumentReadsEncodedHead", spec := "fnArgumentReadsEncodedHead", apart := false }
def FnArgumentReadsEncodedHeadSaid : Prop := fnArgumentReadsEncodedHeadRow.holds Try.pinned (OpenSpec.ofChange fnArgumentReadsEncodedHeadSpec)

/-- ITS FALSE NEIGHBOUR: 'it returns false'. Refute it at one input. -/
def fnArgumentReadsEncodedHeadWrong : ChangeSpec := { name := "fnArgumentReadsEncodedHead", fn := fun _ => fun
  | [d1, d2, d3, d4, d5] => { results := [.lit (.bool false)], args := [d1, d2, d3, d4, d5] }
  | _ => none }
def FnArgumentReadsEncodedHeadWrongFalsely : Prop := fnArgumentReadsEncodedHeadRow.holds Try.pinned (OpenSpec.ofChange fnArgumentReadsEncodedHeadWrong)

/-- 'zzlaws_internal_ledger_b1.FnContentReadsEncodedItem': WHATEVER THE INPUT: true; the input reads as it did. -/
def fnContentReadsEncodedItemSpec : ChangeSpec := { name := "fnContentReadsEncodedItem", fn := fun _ => fun
  | [d1, d2, d3, d4] => { results := [.lit (.bool true)], args := [d1, d2, d3, d4] }
  | _ => none }
def fnContentReadsEncodedItemRow : OpenClaim := { program := "qxb6600388a", sum := "5517d0ef6c963ec11c71b42abe3d914f85c55209c3f3b4d93ba41904c3cf1d5c", func := "example.com/rootstamp/rootstamp/zzlaws_internal_ledger_b1.FnContentReadsEncodedItem", spec := "fnContentReadsEncodedItem", apart := false }
def FnContentReadsEncodedItemSaid : Prop := fnContentReadsEncodedItemRow.holds Try.pinned (OpenSpec.ofChange fnContentReadsEncodedItemSpec)

/-- ITS FALSE NEIGHBOUR: 'it returns false'. Refute it at one input. -/
def fnContentReadsEncodedItemWrong : ChangeSpec := { name := "fnContentReadsEncodedItem", fn := fun _ => fun
  | [d1, d2, d3, d4] => { results := [.lit (.bool false)], args := [d1, d2, d3, d4] }
  | _ => none }
def FnContentReadsEncodedItemWrongFalsely : Prop := fnContentReadsEncodedItemRow.holds Try.pinned (OpenSpec.ofChange fnContentReadsEncodedItemWrong)

/-- 'zzlaws_internal_ledger_b1.FnContentReadsSequence': WHATEVER THE INPUT: true; the input reads as it did. -/
def fnContentReadsSequenceSpec : ChangeSpec := { name := "fnContentReadsSequence", fn := fun _ => fun
  | [d1, d2] => { results := [.lit (.bool true)], args := [d1, d2] }
  | _ => none }
def fnContentReadsSequenceRow : OpenClaim := { program := "qxb6600388a", sum := "5517d0ef6c963ec11c71b42abe3d914f85c55209c3f3b4d93ba41904c3cf1d5c", func := "example.com/rootstamp/rootstamp/zzlaws_internal_ledger_b1.FnContentReadsSequence", spec := "fnContentReadsSequence", apart := false }
def FnContentReadsSequenceSaid : Prop := fnContentReadsSequenceRow.holds Try.pinned (OpenSpec.ofChange fnContentReadsSequenceSpec)

/-- ITS FALSE NEIGHBOUR: 'it returns false'. Refute it at one input. -/
def fnContentReadsSequenceWrong : ChangeSpec := { name := "fnContentReadsSequence", fn := fun _ => fun
  | [d1, d2] => { results := [.lit (.bool false)], args := [d1, d2] }
  | _ => none }
def FnContentReadsSequenceWrongFalsely : Prop := fnContentReadsSequenceRow.holds Try.pinned (OpenSpec.ofChange fnContentReadsSequenceWrong)

end Rows
end Go.Proofs.Qxb6600388a
