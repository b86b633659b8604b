/-
  No cell of these rows narrows 'for every input' (looked for: loops, veiled, ifaces, maps, wideKeys, modest, calm, conditions, laid).
  DERIVED. THE GIVEN ROWS OF THIS SEAT. 7 by the template 'for every input the law returns true; each argument reads behind the call as it read before'; 0 by the template 'total and deterministic' (their statements: Qxb6600329aTotals.lean).
  GIVEN WITH THE SEED: the statements are not yours to turn. If you find one false, say at which input.
  Laid BY PROGRAM, IN A SANDBOX (cutbox-rows.mjs): the forced cells as the released guide's own fill.sh prints them over the translation f3f1ff8248bbddf1… (all of the seat's roots in one cut). By AI agents, Wed Nov 11 2026. No macro, syntax, notation, axiom, sorry.
-/
import Derived.Test.Qxb6600329aChecked
import GoSem.Claim
import GoSem.ClaimJoined
import GoSem.ClaimMapViews
import Derived.JoinedTies
import Derived.KernelRfl
namespace Go.Proofs.Qxb6600329a
/- THE CELL 'sum', in the pinned program and in every row, IS THE sha256 OF THE DUMP (.gsa) THAT Qxb6600329aProg.lean LOADS. Nothing in Lean hashes anything: it is a label: what it is worth is what the hold of that sum in a sandbox is worth. -/
noncomputable def Try.pinned : Pinned := { name := "qxb6600329a", sum := "f3f1ff8248bbddf1e337dbbe5aa958c7a32732112b6b8ae9b423763918c21124", checked := Try.checked }
namespace Rows
def none {H : Type} : Left H := { results := [], args := [] }

/-- 'zzlaws_internal_counter_b1.FnTablesOfFirstOccurrences': WHATEVER THE INPUT: true; the input reads as it did. -/
def fnTablesOfFirstOccurrencesSpec : ChangeSpec := { name := "fnTablesOfFirstOccurrences", fn := fun _ => fun
  | [d] => { results := [.lit (.bool true)], args := [d] }
  | _ => none }
def fnTablesOfFirstOccurrencesRow : OpenClaim := { program := "qxb6600329a", sum := "f3f1ff8248bbddf1e337dbbe5aa958c7a32732112b6b8ae9b423763918c21124", func := "example.com/tallykeep/tallykeep/zzlaws_internal_counter_b1.FnTablesOfFirstOccurrences", spec := "fnTablesOfFirstOccurrences", apart := false }
def FnTablesOfFirstOccurrencesSaid : Prop := fnTablesOfFirstOccurrencesRow.holds Try.pinned (OpenSpec.ofChange fnTablesOfFirstOccurrencesSpec)

/-- ITS FALSE NEIGHBOUR: 'it returns false'. Refute it at one input. -/
def fnTablesOfFirstOccurrencesWrong : ChangeSpec := { name := "fnTablesOfFirstOccurrences", fn := fun _ => fun
  | [d] => { results := [.lit (.bool false)], args := [d] }
  | _ => none }
def FnTablesOfFirstOccurrencesWrongFalsely : Prop := fnTablesOfFirstOccurrencesRow.holds Try.pinned (OpenSpec.ofChange fnTablesOfFirstOccurrencesWrong)

/-- 'zzlaws_internal_counter_b1.FnTablesOfConcat': WHATEVER THE INPUT: true; the input reads as it did. -/
def fnTablesOfConcatSpec : ChangeSpec := { name := "fnTablesOfConcat", fn := fun _ => fun
  | [d1, d2] => { results := [.lit (.bool true)], args := [d1, d2] }
  | _ => none }
def fnTablesOfConcatRow : OpenClaim := { program := "qxb6600329a", sum := "f3f1ff8248bbddf1e337dbbe5aa958c7a32732112b6b8ae9b423763918c21124", func := "example.com/tallykeep/tallykeep/zzlaws_internal_counter_b1.FnTablesOfConcat", spec := "fnTablesOfConcat", apart := false }
def FnTablesOfConcatSaid : Prop := fnTablesOfConcatRow.holds Try.pinned (OpenSpec.ofChange fnTablesOfConcatSpec)

/-- ITS FALSE NEIGHBOUR: 'it returns false'. Refute it at one input. -/
def fnTablesOfConcatWrong : ChangeSpec := { name := "fnTablesOfConcat", fn := fun _ => fun
  | [d1, d2] => { results := [.lit (.bool false)], args := [d1, d2] }
  | _ => none }
def FnTablesOfConcatWrongFalsely : Prop := fnTablesOfConcatRow.holds Try.pinned (OpenSpec.ofChange fnTablesOfConcatWrong)

/-- 'zzlaws_internal_counter_b1.FnSameColumnsAgreesWithEncoding': WHATEVER THE INPUT: true; the input reads as it did. -/
def fnSameColumnsAgreesWithEncodingSpec : ChangeSpec := { name := "fnSameColumnsAgreesWithEncoding", fn := fun _ => fun
  | [d1, d2] => { results := [.lit (.bool true)], args := [d1, d2] }
  | _ => none }
def fnSameColumnsAgreesWithEncodingRow : OpenClaim := { program := "qxb6600329a", sum := "f3f1ff8248bbddf1e337dbbe5aa958c7a32732112b6b8ae9b423763918c21124", func := "example.com/tallykeep/tallykeep/zzlaws_internal_counter_b1.FnSameColumnsAgreesWithEncoding", spec := "fnSameColumnsAgreesWithEncoding", apart := false }
def FnSameColumnsAgreesWithEncodingSaid : Prop := fnSameColumnsAgreesWithEncodingRow.holds Try.pinned (OpenSpec.ofChange fnSameColumnsAgreesWithEncodingSpec)

/-- ITS FALSE NEIGHBOUR: 'it returns false'. Refute it at one input. -/
def fnSameColumnsAgreesWithEncodingWrong : ChangeSpec := { name := "fnSameColumnsAgreesWithEncoding", fn := fun _ => fun
  | [d1, d2] => { results := [.lit (.bool false)], args := [d1, d2] }
  | _ => none }
def FnSameColumnsAgreesWithEncodingWrongFalsely : Prop := fnSameColumnsAgreesWithEncodingRow.holds Try.pinned (OpenSpec.ofChange fnSameColumnsAgreesWithEncodingWrong)

/-- 'zzlaws_internal_counter_b1.FnSameColumnsSymmetricReflexive': WHATEVER THE INPUT: true; the input reads as it did. -/
def fnSameColumnsSymmetricReflexiveSpec : ChangeSpec := { name := "fnSameColumnsSymmetricReflexive", fn := fun _ => fun
  | [d1, d2] => { results := [.lit (.bool true)], args := [d1, d2] }
  | _ => none }
def fnSameColumnsSymmetricReflexiveRow : OpenClaim := { program := "qxb6600329a", sum := "f3f1ff8248bbddf1e337dbbe5aa958c7a32732112b6b8ae9b423763918c21124", func := "example.com/tallykeep/tallykeep/zzlaws_internal_counter_b1.FnSameColumnsSymmetricReflexive", spec := "fnSameColumnsSymmetricReflexive", apart := false }
def FnSameColumnsSymmetricReflexiveSaid : Prop := fnSameColumnsSymmetricReflexiveRow.holds Try.pinned (OpenSpec.ofChange fnSameColumnsSymmetricReflexiveSpec)

/-- ITS FALSE NEIGHBOUR: 'it returns false'. Refute it at one input. -/
def fnSameColumnsSymmetricReflexiveWrong : ChangeSpec := { name := "fnSameColumnsSymmetricReflexive", fn := fun _ => fun
  | [d1, d2] => { results := [.lit (.bool false)], args := [d1, d2] }
  | _ => none }
def FnSameColumnsSymmetricReflexiveWrongFalsely : Prop := fnSameColumnsSymmetricReflexiveRow.holds Try.pinned (OpenSpec.ofChange fnSameColumnsSymmetricReflexiveWrong)

/-- 'zzlaws_internal_counter_b1.FnSameColumnsRefusesOneChange': WHATEVER THE INPUT: true; the input reads as it did. -/
def fnSameColumnsRefusesOneChangeSpec : ChangeSpec := { name := "fnSameColumnsRefusesOneChange", fn := fun _ => fun
  | [d1, d2, d3] => { results := [.lit (.bool true)], args := [d1, d2, d3] }
  | _ => none }
def fnSameColumnsRefusesOneChangeRow : OpenClaim := { program := "qxb6600329a", sum := "f3f1ff8248bbddf1e337dbbe5aa958c7a32732112b6b8ae9b423763918c21124", func := "example.com/tallykeep/tallykeep/zzlaws_internal_counter_b1.FnSameColumnsRefusesOneChange", spec := "fnSameColumnsRefusesOneChange", apart := false }
def FnSameColumnsRefusesOneChangeSaid : Prop := fnSameColumnsRefusesOneChangeRow.holds Try.pinned (OpenSpec.ofChange fnSameColumnsRefusesOneChangeSpec)

/-- ITS FALSE NEIGHBOUR: 'it returns false'. Refute it at one input. -/
def fnSameColumnsRefusesOneChangeWrong : ChangeSpec := { name := "fnSameColumnsRefusesOneChange", fn := fun _ => fun
  | [d1, d2, d3] => { results := [.lit (.bool false)], args := [d1, d2, d3] }
  | _ => none }
def FnSameColumnsRefusesOneChangeWrongFalsely : Prop := fnSameColumnsRefusesOneChangeRow.holds Try.pinned (OpenSpec.ofChange fnSameColumnsRefusesOneChangeWrong)

/-- 'zzlaws_internal_counter_b1.FnHoldOffQueryTakesOneParameter': WHATEVER THE INPUT: true; the input reads as it did. -/
def fnHoldOffQueryTakesOneParameterSpec : ChangeSpec := { name := "fnHoldOffQueryTakesOneParameter", fn := fun _ => fun
  | [] => { results := [.lit (.bool true)], args := [] }
  | _ => none }
def fnHoldOffQueryTakesOneParameterRow : OpenClaim := { program := "qxb6600329a", sum := "f3f1ff8248bbddf1e337dbbe5aa958c7a32732112b6b8ae9b423763918c21124", func := "example.com/tallykeep/tallykeep/zzlaws_internal_counter_b1.FnHoldOffQueryTakesOneParameter", spec := "fnHoldOffQueryTakesOneParameter", apart := false }
def FnHoldOffQueryTakesOneParameterSaid : Prop := fnHoldOffQueryTakesOneParameterRow.holds Try.pinned (OpenSpec.ofChange fnHoldOffQueryTakesOneParameterSpec)

/-- ITS FALSE NEIGHBOUR: 'it returns false'. Refute it at one input. -/
def fnHoldOffQueryTakesOneParameterWrong : ChangeSpec := { name := "fnHoldOffQueryTakesOneParameter", fn := fun _ => fun
  | [] => { results := [.lit (.bool false)], args := [] }
  | _ => none }
def FnHoldOffQueryTakesOneParameterWrongFalsely : Prop := fnHoldOffQueryTakesOneParameterRow.holds Try.pinned (OpenSpec.ofChange fnHoldOffQueryTakesOneParameterWrong)

/-- 'zzlaws_internal_counter_b1.FnHoldOffQueryWellFormed': WHATEVER THE INPUT: true; the input reads as it did. -/
def fnHoldOffQueryWellFormedSpec : ChangeSpec := { name := "fnHoldOffQueryWellFormed", fn := fun _ => fun
  | [] => { results := [.lit (.bool true)], args := [] }
  | _ => none }
def fnHoldOffQueryWellFormedRow : OpenClaim := { program := "qxb6600329a", sum := "f3f1ff8248bbddf1e337dbbe5aa958c7a32732112b6b8ae9b423763918c21124", func := "example.com/tallykeep/tallykeep/zzlaws_internal_counter_b1.FnHoldOffQueryWellFormed", spec := "fnHoldOffQueryWellFormed", apart := false }
def FnHoldOffQueryWellFormedSaid : Prop := fnHoldOffQueryWellFormedRow.holds Try.pinned (OpenSpec.ofChange fnHoldOffQueryWellFormedSpec)

/-- ITS FALSE NEIGHBOUR: 'it returns false'. Refute it at one input. -/
def fnHoldOffQueryWellFormedWrong : ChangeSpec := { name := "fnHoldOffQueryWellFormed", fn := fun _ => fun
  | [] => { results := [.lit (.bool false)], args := [] }
  | _ => none }
def FnHoldOffQueryWellFormedWrongFalsely : Prop := fnHoldOffQueryWellFormedRow.holds Try.pinned (OpenSpec.ofChange fnHoldOffQueryWellFormedWrong)

end Rows
end Go.Proofs.Qxb6600329a
