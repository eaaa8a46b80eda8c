/-
  No cell of these rows narrows 'for every input' (looked for: loops, veiled, ifaces, maps, wideKeys, modest, calm, conditions, laid).
  DERIVED. THE GIVEN ROWS OF THIS SEAT. 5 by the template 'for every input the law returns true; each argument reads behind the call as it read before'; 0 by the template 'total and deterministic' (their statements: Qxb6619233aTotals.lean).
  GIVEN WITH THE SEED: the statements are not yours to turn. If you find one false, say at which input.
  Laid BY PROGRAM, IN A SANDBOX (cutbox-rows.mjs): the forced cells as the released guide's own fill.sh prints them over the translation d3486dc18f04b7a9… (all of the seat's roots in one cut). By AI agents, Wed Nov 11 2026. No macro, syntax, notation, axiom, sorry.
-/
import Derived.Test.Qxb6619233aChecked
import GoSem.Claim
import GoSem.ClaimJoined
import GoSem.ClaimMapViews
import Derived.JoinedTies
import Derived.KernelRfl
namespace Go.Proofs.Qxb6619233a
/- THE CELL 'sum', in the pinned program and in every row, IS THE sha256 OF THE DUMP (.gsa) THAT Qxb6619233aProg.lean LOADS. Nothing in Lean hashes anything: it is a label: what it is worth is what the hold of that sum in a sandbox is worth. -/
noncomputable def Try.pinned : Pinned := { name := "qxb6619233a", sum := "d3486dc18f04b7a9e47b958339f6b7f0a334789f24576ada39329865474f1bab", checked := Try.checked }
namespace Rows
def none {H : Type} : Left H := { results := [], args := [] }

/-- 'zzlaws_expr_b1.FnNumberIsLongestLiteral': WHATEVER THE INPUT: true; the input reads as it did. -/
def fnNumberIsLongestLiteralSpec : ChangeSpec := { name := "fnNumberIsLongestLiteral", fn := fun _ => fun
  | [d1, d2, d3] => { results := [.lit (.bool true)], args := [d1, d2, d3] }
  | _ => none }
def fnNumberIsLongestLiteralRow : OpenClaim := { program := "qxb6619233a", sum := "d3486dc18f04b7a9e47b958339f6b7f0a334789f24576ada39329865474f1bab", func := "example.com/telemetry-transform/telemetry-transform/zzlaws_expr_b1.FnNumberIsLongestLiteral", spec := "fnNumberIsLongestLiteral", apart := false }
def FnNumberIsLongestLiteralSaid : Prop := fnNumberIsLongestLiteralRow.holds Try.pinned (OpenSpec.ofChange fnNumberIsLongestLiteralSpec)

/-- ITS FALSE NEIGHBOUR: 'it returns false'. Refute it at one input. -/
def fnNumberIsLongestLiteralWrong : ChangeSpec := { name := "fnNumberIsLongestLiteral", fn := fun _ => fun
  | [d1, d2, d3] => { results := [.lit (.bool false)], args := [d1, d2, d3] }
  | _ => none }
def FnNumberIsLongestLiteralWrongFalsely : Prop := fnNumberIsLongestLiteralRow.holds Try.pinned (OpenSpec.ofChange fnNumberIsLongestLiteralWrong)

/-- 'zzlaws_expr_b1.FnNumberShiftsAndRescans': WHATEVER THE INPUT: true; the input reads as it did. -/
def fnNumberShiftsAndRescansSpec : ChangeSpec := { name := "fnNumberShiftsAndRescans", fn := fun _ => fun
  | [d1, d2, d3] => { results := [.lit (.bool true)], args := [d1, d2, d3] }
  | _ => none }
def fnNumberShiftsAndRescansRow : OpenClaim := { program := "qxb6619233a", sum := "d3486dc18f04b7a9e47b958339f6b7f0a334789f24576ada39329865474f1bab", func := "example.com/telemetry-transform/telemetry-transform/zzlaws_expr_b1.FnNumberShiftsAndRescans", spec := "fnNumberShiftsAndRescans", apart := false }
def FnNumberShiftsAndRescansSaid : Prop := fnNumberShiftsAndRescansRow.holds Try.pinned (OpenSpec.ofChange fnNumberShiftsAndRescansSpec)

/-- ITS FALSE NEIGHBOUR: 'it returns false'. Refute it at one input. -/
def fnNumberShiftsAndRescansWrong : ChangeSpec := { name := "fnNumberShiftsAndRescans", fn := fun _ => fun
  | [d1, d2, d3] => { results := [.lit (.bool false)], args := [d1, d2, d3] }
  | _ => none }
def FnNumberShiftsAndRescansWrongFalsely : Prop := fnNumberShiftsAndRescansRow.holds Try.pinned (OpenSpec.ofChange fnNumberShiftsAndRescansWrong)

/-- 'zzlaws_expr_b1.FnTakesMatchesExpansionModel': WHATEVER THE INPUT: true; the input reads as it did. -/
def fnTakesMatchesExpansionModelSpec : ChangeSpec := { name := "fnTakesMatchesExpansionModel", fn := fun _ => fun
  | [d1, d2, d3, d4] => { results := [.lit (.bool true)], args := [d1, d2, d3, d4] }
  | _ => none }
def fnTakesMatchesExpansionModelRow : OpenClaim := { program := "qxb6619233a", sum := "d3486dc18f04b7a9e47b958339f6b7f0a334789f24576ada39329865474f1bab", func := "example.com/telemetry-transform/telemetry-transform/zzlaws_expr_b1.FnTakesMatchesExpansionModel", spec := "fnTakesMatchesExpansionModel", apart := false }
def FnTakesMatchesExpansionModelSaid : Prop := fnTakesMatchesExpansionModelRow.holds Try.pinned (OpenSpec.ofChange fnTakesMatchesExpansionModelSpec)

/-- ITS FALSE NEIGHBOUR: 'it returns false'. Refute it at one input. -/
def fnTakesMatchesExpansionModelWrong : ChangeSpec := { name := "fnTakesMatchesExpansionModel", fn := fun _ => fun
  | [d1, d2, d3, d4] => { results := [.lit (.bool false)], args := [d1, d2, d3, d4] }
  | _ => none }
def FnTakesMatchesExpansionModelWrongFalsely : Prop := fnTakesMatchesExpansionModelRow.holds Try.pinned (OpenSpec.ofChange fnTakesMatchesExpansionModelWrong)

/-- 'zzlaws_expr_b1.FnTakesAgreesAtAnyCut': WHATEVER THE INPUT: true; the input reads as it did. -/
def fnTakesAgreesAtAnyCutSpec : ChangeSpec := { name := "fnTakesAgreesAtAnyCut", fn := fun _ => fun
  | [d1, d2, d3, d4] => { results := [.lit (.bool true)], args := [d1, d2, d3, d4] }
  | _ => none }
def fnTakesAgreesAtAnyCutRow : OpenClaim := { program := "qxb6619233a", sum := "d3486dc18f04b7a9e47b958339f6b7f0a334789f24576ada39329865474f1bab", func := "example.com/telemetry-transform/telemetry-transform/zzlaws_expr_b1.FnTakesAgreesAtAnyCut", spec := "fnTakesAgreesAtAnyCut", apart := false }
def FnTakesAgreesAtAnyCutSaid : Prop := fnTakesAgreesAtAnyCutRow.holds Try.pinned (OpenSpec.ofChange fnTakesAgreesAtAnyCutSpec)

/-- ITS FALSE NEIGHBOUR: 'it returns false'. Refute it at one input. -/
def fnTakesAgreesAtAnyCutWrong : ChangeSpec := { name := "fnTakesAgreesAtAnyCut", fn := fun _ => fun
  | [d1, d2, d3, d4] => { results := [.lit (.bool false)], args := [d1, d2, d3, d4] }
  | _ => none }
def FnTakesAgreesAtAnyCutWrongFalsely : Prop := fnTakesAgreesAtAnyCutRow.holds Try.pinned (OpenSpec.ofChange fnTakesAgreesAtAnyCutWrong)

/-- 'zzlaws_expr_b1.FnTakesWideningAndVariadicOnlyAdd': WHATEVER THE INPUT: true; the input reads as it did. -/
def fnTakesWideningAndVariadicOnlyAddSpec : ChangeSpec := { name := "fnTakesWideningAndVariadicOnlyAdd", fn := fun _ => fun
  | [d1, d2, d3, d4] => { results := [.lit (.bool true)], args := [d1, d2, d3, d4] }
  | _ => none }
def fnTakesWideningAndVariadicOnlyAddRow : OpenClaim := { program := "qxb6619233a", sum := "d3486dc18f04b7a9e47b958339f6b7f0a334789f24576ada39329865474f1bab", func := "example.com/telemetry-transform/telemetry-transform/zzlaws_expr_b1.FnTakesWideningAndVariadicOnlyAdd", spec := "fnTakesWideningAndVariadicOnlyAdd", apart := false }
def FnTakesWideningAndVariadicOnlyAddSaid : Prop := fnTakesWideningAndVariadicOnlyAddRow.holds Try.pinned (OpenSpec.ofChange fnTakesWideningAndVariadicOnlyAddSpec)

/-- ITS FALSE NEIGHBOUR: 'it returns false'. Refute it at one input. -/
def fnTakesWideningAndVariadicOnlyAddWrong : ChangeSpec := { name := "fnTakesWideningAndVariadicOnlyAdd", fn := fun _ => fun
  | [d1, d2, d3, d4] => { results := [.lit (.bool false)], args := [d1, d2, d3, d4] }
  | _ => none }
def FnTakesWideningAndVariadicOnlyAddWrongFalsely : Prop := fnTakesWideningAndVariadicOnlyAddRow.holds Try.pinned (OpenSpec.ofChange fnTakesWideningAndVariadicOnlyAddWrong)

end Rows
end Go.Proofs.Qxb6619233a
