/-
  No cell of these rows narrows 'for every input' (looked for: loops, veiled, ifaces, maps, wideKeys, modest, calm, conditions, laid).
  DERIVED. THE GIVEN ROWS OF THIS SEAT. 4 by the template 'for every input the law returns true; each argument reads behind the call as it read before'; 0 by the template 'total and deterministic' (their statements: Qxb6601551aTotals.lean).
  GIVEN WITH THE SEED: the statements are not yours to turn. If you find one false, say at which input.
  Laid BY PROGRAM, IN A SANDBOX (cutbox-rows.mjs): the forced cells as the released guide's own fill.sh prints them over the translation c6e8acd9b82f1791… (all of the seat's roots in one cut). By AI agents, Wed Nov 11 2026. No macro, syntax, notation, axiom, sorry.
-/
import Derived.Test.Qxb6601551aChecked
import GoSem.Claim
import GoSem.ClaimJoined
import GoSem.ClaimMapViews
import Derived.JoinedTies
import Derived.KernelRfl
namespace Go.Proofs.Qxb6601551a
/- THE CELL 'sum', in the pinned program and in every row, IS THE sha256 OF THE DUMP (.gsa) THAT Qxb6601551aProg.lean LOADS. Nothing in Lean hashes anything: it is a label: what it is worth is what the hold of that sum in a sandbox is worth. -/
noncomputable def Try.pinned : Pinned := { name := "qxb6601551a", sum := "c6e8acd9b82f1791025fc0b33003498273b6e2743d69ee8ea2af460ac0fb6854", checked := Try.checked }
namespace Rows
def none {H : Type} : Left H := { results := [], args := [] }

/-- 'zzlaws_internal_bench_b1.FnLineStartMatchesNewlineCount': WHATEVER THE INPUT: true; the input reads as it did. -/
def fnLineStartMatchesNewlineCountSpec : ChangeSpec := { name := "fnLineStartMatchesNewlineCount", fn := fun _ => fun
  | [d1, d2] => { results := [.lit (.bool true)], args := [d1, d2] }
  | _ => none }
def fnLineStartMatchesNewlineCountRow : OpenClaim := { program := "qxb6601551a", sum := "c6e8acd9b82f1791025fc0b33003498273b6e2743d69ee8ea2af460ac0fb6854", func := "example.com/atomweave/atomweave/zzlaws_internal_bench_b1.FnLineStartMatchesNewlineCount", spec := "fnLineStartMatchesNewlineCount", inPlace := ["internal/bytealg.IndexByte"], apart := false }
def FnLineStartMatchesNewlineCountSaid : Prop := fnLineStartMatchesNewlineCountRow.holds Try.pinned (OpenSpec.ofChange fnLineStartMatchesNewlineCountSpec)

/-- ITS FALSE NEIGHBOUR: 'it returns false'. Refute it at one input. -/
def fnLineStartMatchesNewlineCountWrong : ChangeSpec := { name := "fnLineStartMatchesNewlineCount", fn := fun _ => fun
  | [d1, d2] => { results := [.lit (.bool false)], args := [d1, d2] }
  | _ => none }
def FnLineStartMatchesNewlineCountWrongFalsely : Prop := fnLineStartMatchesNewlineCountRow.holds Try.pinned (OpenSpec.ofChange fnLineStartMatchesNewlineCountWrong)

/-- 'zzlaws_internal_bench_b1.FnLineStartSpansOneLine': WHATEVER THE INPUT: true; the input reads as it did. -/
def fnLineStartSpansOneLineSpec : ChangeSpec := { name := "fnLineStartSpansOneLine", fn := fun _ => fun
  | [d1, d2] => { results := [.lit (.bool true)], args := [d1, d2] }
  | _ => none }
def fnLineStartSpansOneLineRow : OpenClaim := { program := "qxb6601551a", sum := "c6e8acd9b82f1791025fc0b33003498273b6e2743d69ee8ea2af460ac0fb6854", func := "example.com/atomweave/atomweave/zzlaws_internal_bench_b1.FnLineStartSpansOneLine", spec := "fnLineStartSpansOneLine", inPlace := ["internal/bytealg.IndexByte"], apart := false }
def FnLineStartSpansOneLineSaid : Prop := fnLineStartSpansOneLineRow.holds Try.pinned (OpenSpec.ofChange fnLineStartSpansOneLineSpec)

/-- ITS FALSE NEIGHBOUR: 'it returns false'. Refute it at one input. -/
def fnLineStartSpansOneLineWrong : ChangeSpec := { name := "fnLineStartSpansOneLine", fn := fun _ => fun
  | [d1, d2] => { results := [.lit (.bool false)], args := [d1, d2] }
  | _ => none }
def FnLineStartSpansOneLineWrongFalsely : Prop := fnLineStartSpansOneLineRow.holds Try.pinned (OpenSpec.ofChange fnLineStartSpansOneLineWrong)

/-- 'zzlaws_internal_bench_b1.FnNewLedgerAdditive': WHATEVER THE INPUT: true; the input reads as it did. -/
def fnNewLedgerAdditiveSpec : ChangeSpec := { name := "fnNewLedgerAdditive", fn := fun _ => fun
  | [d1, d2, d3] => { results := [.lit (.bool true)], args := [d1, d2, d3] }
  | _ => none }
def fnNewLedgerAdditiveRow : OpenClaim := { program := "qxb6601551a", sum := "c6e8acd9b82f1791025fc0b33003498273b6e2743d69ee8ea2af460ac0fb6854", func := "example.com/atomweave/atomweave/zzlaws_internal_bench_b1.FnNewLedgerAdditive", spec := "fnNewLedgerAdditive", apart := false }
def FnNewLedgerAdditiveSaid : Prop := fnNewLedgerAdditiveRow.holds Try.pinned (OpenSpec.ofChange fnNewLedgerAdditiveSpec)

/-- ITS FALSE NEIGHBOUR: 'it returns false'. Refute it at one input. -/
def fnNewLedgerAdditiveWrong : ChangeSpec := { name := "fnNewLedgerAdditive", fn := fun _ => fun
  | [d1, d2, d3] => { results := [.lit (.bool false)], args := [d1, d2, d3] }
  | _ => none }
def FnNewLedgerAdditiveWrongFalsely : Prop := fnNewLedgerAdditiveRow.holds Try.pinned (OpenSpec.ofChange fnNewLedgerAdditiveWrong)

/-- 'zzlaws_internal_bench_b1.FnNewLedgerLosingOneNeverRaisesOff': WHATEVER THE INPUT: true; the input reads as it did. -/
def fnNewLedgerLosingOneNeverRaisesOffSpec : ChangeSpec := { name := "fnNewLedgerLosingOneNeverRaisesOff", fn := fun _ => fun
  | [d1, d2, d3] => { results := [.lit (.bool true)], args := [d1, d2, d3] }
  | _ => none }
def fnNewLedgerLosingOneNeverRaisesOffRow : OpenClaim := { program := "qxb6601551a", sum := "c6e8acd9b82f1791025fc0b33003498273b6e2743d69ee8ea2af460ac0fb6854", func := "example.com/atomweave/atomweave/zzlaws_internal_bench_b1.FnNewLedgerLosingOneNeverRaisesOff", spec := "fnNewLedgerLosingOneNeverRaisesOff", apart := false }
def FnNewLedgerLosingOneNeverRaisesOffSaid : Prop := fnNewLedgerLosingOneNeverRaisesOffRow.holds Try.pinned (OpenSpec.ofChange fnNewLedgerLosingOneNeverRaisesOffSpec)

/-- ITS FALSE NEIGHBOUR: 'it returns false'. Refute it at one input. -/
def fnNewLedgerLosingOneNeverRaisesOffWrong : ChangeSpec := { name := "fnNewLedgerLosingOneNeverRaisesOff", fn := fun _ => fun
  | [d1, d2, d3] => { results := [.lit (.bool false)], args := [d1, d2, d3] }
  | _ => none }
def FnNewLedgerLosingOneNeverRaisesOffWrongFalsely : Prop := fnNewLedgerLosingOneNeverRaisesOffRow.holds Try.pinned (OpenSpec.ofChange fnNewLedgerLosingOneNeverRaisesOffWrong)

end Rows
end Go.Proofs.Qxb6601551a
