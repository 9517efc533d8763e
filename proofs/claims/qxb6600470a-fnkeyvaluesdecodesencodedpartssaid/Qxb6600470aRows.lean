/-
  No cell of these rows narrows 'for every input' (looked for: loops, veiled, ifaces, maps, wideKeys, modest, calm, conditions, laid).
  DERIVED. THE GIVEN ROWS OF THIS SEAT. 3 by the template 'for every input the law returns true; each argument reads behind the call as it read before'; 0 by the template 'total and deterministic' (their statements: Qxb6600470aTotals.lean).
  GIVEN WITH THE SEED: the statements are not yours to turn. If you find one false, say at which input.
  Laid BY PROGRAM, IN A SANDBOX (cutbox-rows.mjs): the forced cells as the released guide's own fill.sh prints them over the translation e1dfdc82881b1543… (all of the seat's roots in one cut). By AI agents, Wed Nov 11 2026. No macro, syntax, notation, axiom, sorry.
-/
import Derived.Test.Qxb6600470aChecked
import GoSem.Claim
import GoSem.ClaimJoined
import GoSem.ClaimMapViews
import Derived.JoinedTies
import Derived.KernelRfl
namespace Go.Proofs.Qxb6600470a
/- THE CELL 'sum', in the pinned program and in every row, IS THE sha256 OF THE DUMP (.gsa) THAT Qxb6600470aProg.lean LOADS. Nothing in Lean hashes anything: it is a label: what it is worth is what the hold of that sum in a sandbox is worth. -/
noncomputable def Try.pinned : Pinned := { name := "qxb6600470a", sum := "e1dfdc82881b1543528e0facc2a0de7d542f4ddbd910b83b5b97b08b7e223736", checked := Try.checked }
namespace Rows
def none {H : Type} : Left H := { results := [], args := [] }

/-- 'zzlaws_internal_value_b1.FnIsPlainMatchesByteModel': WHATEVER THE INPUT: true; the input reads as it did. -/
def fnIsPlainMatchesByteModelSpec : ChangeSpec := { name := "fnIsPlainMatchesByteModel", fn := fun _ => fun
  | [d] => { results := [.lit (.bool true)], args := [d] }
  | _ => none }
def fnIsPlainMatchesByteModelRow : OpenClaim := { program := "qxb6600470a", sum := "e1dfdc82881b1543528e0facc2a0de7d542f4ddbd910b83b5b97b08b7e223736", func := "example.com/latchwork/latchwork/zzlaws_internal_value_b1.FnIsPlainMatchesByteModel", spec := "fnIsPlainMatchesByteModel", apart := false }
def FnIsPlainMatchesByteModelSaid : Prop := fnIsPlainMatchesByteModelRow.holds Try.pinned (OpenSpec.ofChange fnIsPlainMatchesByteModelSpec)

/-- ITS FALSE NEIGHBOUR: 'it returns false'. Refute it at one input. -/
def fnIsPlainMatchesByteModelWrong : ChangeSpec := { name := "fnIsPlainMatchesByteModel", fn := fun _ => fun
  | [d] => { results := [.lit (.bool false)], args := [d] }
  | _ => none }
def FnIsPlainMatchesByteModelWrongFalsely : Prop := fnIsPlainMatchesByteModelRow.holds Try.pinned (OpenSpec.ofChange fnIsPlainMatchesByteModelWrong)

/-- 'zzlaws_internal_value_b1.FnIsPlainOfConcatenation': WHATEVER THE INPUT: true; the input reads as it did. -/
def fnIsPlainOfConcatenationSpec : ChangeSpec := { name := "fnIsPlainOfConcatenation", fn := fun _ => fun
  | [d1, d2] => { results := [.lit (.bool true)], args := [d1, d2] }
  | _ => none }
def fnIsPlainOfConcatenationRow : OpenClaim := { program := "qxb6600470a", sum := "e1dfdc82881b1543528e0facc2a0de7d542f4ddbd910b83b5b97b08b7e223736", func := "example.com/latchwork/latchwork/zzlaws_internal_value_b1.FnIsPlainOfConcatenation", spec := "fnIsPlainOfConcatenation", apart := false }
def FnIsPlainOfConcatenationSaid : Prop := fnIsPlainOfConcatenationRow.holds Try.pinned (OpenSpec.ofChange fnIsPlainOfConcatenationSpec)

/-- ITS FALSE NEIGHBOUR: 'it returns false'. Refute it at one input. -/
def fnIsPlainOfConcatenationWrong : ChangeSpec := { name := "fnIsPlainOfConcatenation", fn := fun _ => fun
  | [d1, d2] => { results := [.lit (.bool false)], args := [d1, d2] }
  | _ => none }
def FnIsPlainOfConcatenationWrongFalsely : Prop := fnIsPlainOfConcatenationRow.holds Try.pinned (OpenSpec.ofChange fnIsPlainOfConcatenationWrong)

/-- 'zzlaws_internal_value_b1.FnKeyValuesDecodesEncodedParts': WHATEVER THE INPUT: true; the input reads as it did. -/
def fnKeyValuesDecodesEncodedPartsSpec : ChangeSpec := { name := "fnKeyValuesDecodesEncodedParts", fn := fun _ => fun
  | [d1, d2, d3, d4] => { results := [.lit (.bool true)], args := [d1, d2, d3, d4] }
  | _ => none }
def fnKeyValuesDecodesEncodedPartsRow : OpenClaim := { program := "qxb6600470a", sum := "e1dfdc82881b1543528e0facc2a0de7d542f4ddbd910b83b5b97b08b7e223736", func := "example.com/latchwork/latchwork/zzlaws_internal_value_b1.FnKeyValuesDecodesEncodedParts", spec := "fnKeyValuesDecodesEncodedParts", inPlace := ["internal/bytealg.IndexByteString", "internal/abi.NoEscape"], apart := false }
def FnKeyValuesDecodesEncodedPartsSaid : Prop := fnKeyValuesDecodesEncodedPartsRow.holds Try.pinned (OpenSpec.ofChange fnKeyValuesDecodesEncodedPartsSpec)

/-- ITS FALSE NEIGHBOUR: 'it returns false'. Refute it at one input. -/
def fnKeyValuesDecodesEncodedPartsWrong : ChangeSpec := { name := "fnKeyValuesDecodesEncodedParts", fn := fun _ => fun
  | [d1, d2, d3, d4] => { results := [.lit (.bool false)], args := [d1, d2, d3, d4] }
  | _ => none }
def FnKeyValuesDecodesEncodedPartsWrongFalsely : Prop := fnKeyValuesDecodesEncodedPartsRow.holds Try.pinned (OpenSpec.ofChange fnKeyValuesDecodesEncodedPartsWrong)

end Rows
end Go.Proofs.Qxb6600470a
