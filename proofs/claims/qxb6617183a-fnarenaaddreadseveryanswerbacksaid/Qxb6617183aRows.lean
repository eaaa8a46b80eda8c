/-
  No cell of these rows narrows 'for every input' (looked for: loops, veiled, ifaces, maps, wideKeys, modest, calm, conditions, laid).
  DERIVED. THE GIVEN ROWS OF THIS SEAT. 3 by the template 'for every input the law returns true; each argument reads behind the call as it read before'; 0 by the template 'total and deterministic' (their statements: Qxb6617183aTotals.lean).
  GIVEN WITH THE SEED: the statements are not yours to turn. If you find one false, say at which input.
  Laid BY PROGRAM, IN A SANDBOX (cutbox-rows.mjs): the forced cells as the released guide's own fill.sh prints them over the translation e0822c80bde26eae… (all of the seat's roots in one cut). By AI agents, Wed Nov 11 2026. No macro, syntax, notation, axiom, sorry.
-/
import Derived.Test.Qxb6617183aChecked
import GoSem.Claim
import GoSem.ClaimJoined
import GoSem.ClaimMapViews
import Derived.JoinedTies
import Derived.KernelRfl
namespace Go.Proofs.Qxb6617183a
/- THE CELL 'sum', in the pinned program and in every row, IS THE sha256 OF THE DUMP (.gsa) THAT Qxb6617183aProg.lean LOADS. Nothing in Lean hashes anything: it is a label: what it is worth is what the hold of that sum in a sandbox is worth. -/
noncomputable def Try.pinned : Pinned := { name := "qxb6617183a", sum := "e0822c80bde26eaecda1bb68a8751176734076474cda973ab27120ff04e01758", checked := Try.checked }
namespace Rows
def none {H : Type} : Left H := { results := [], args := [] }

/-- 'zzlaws_root_b1.FnArenaAddReadsEveryAnswerBack': WHATEVER THE INPUT: true; the input reads as it did. -/
def fnArenaAddReadsEveryAnswerBackSpec : ChangeSpec := { name := "fnArenaAddReadsEveryAnswerBack", fn := fun _ => fun
  | [d1, d2, d3, d4, d5] => { results := [.lit (.bool true)], args := [d1, d2, d3, d4, d5] }
  | _ => none }
def fnArenaAddReadsEveryAnswerBackRow : OpenClaim := { program := "qxb6617183a", sum := "e0822c80bde26eaecda1bb68a8751176734076474cda973ab27120ff04e01758", func := "example.com/idemp/idemp/zzlaws_root_b1.FnArenaAddReadsEveryAnswerBack", spec := "fnArenaAddReadsEveryAnswerBack", apart := false }
def FnArenaAddReadsEveryAnswerBackSaid : Prop := fnArenaAddReadsEveryAnswerBackRow.holds Try.pinned (OpenSpec.ofChange fnArenaAddReadsEveryAnswerBackSpec)

/-- ITS FALSE NEIGHBOUR: 'it returns false'. Refute it at one input. -/
def fnArenaAddReadsEveryAnswerBackWrong : ChangeSpec := { name := "fnArenaAddReadsEveryAnswerBack", fn := fun _ => fun
  | [d1, d2, d3, d4, d5] => { results := [.lit (.bool false)], args := [d1, d2, d3, d4, d5] }
  | _ => none }
def FnArenaAddReadsEveryAnswerBackWrongFalsely : Prop := fnArenaAddReadsEveryAnswerBackRow.holds Try.pinned (OpenSpec.ofChange fnArenaAddReadsEveryAnswerBackWrong)

/-- 'zzlaws_root_b1.FnArenaAddNeverReusesRoom': WHATEVER THE INPUT: true; the input reads as it did. -/
def fnArenaAddNeverReusesRoomSpec : ChangeSpec := { name := "fnArenaAddNeverReusesRoom", fn := fun _ => fun
  | [d1, d2, d3, d4, d5] => { results := [.lit (.bool true)], args := [d1, d2, d3, d4, d5] }
  | _ => none }
def fnArenaAddNeverReusesRoomRow : OpenClaim := { program := "qxb6617183a", sum := "e0822c80bde26eaecda1bb68a8751176734076474cda973ab27120ff04e01758", func := "example.com/idemp/idemp/zzlaws_root_b1.FnArenaAddNeverReusesRoom", spec := "fnArenaAddNeverReusesRoom", apart := false }
def FnArenaAddNeverReusesRoomSaid : Prop := fnArenaAddNeverReusesRoomRow.holds Try.pinned (OpenSpec.ofChange fnArenaAddNeverReusesRoomSpec)

/-- ITS FALSE NEIGHBOUR: 'it returns false'. Refute it at one input. -/
def fnArenaAddNeverReusesRoomWrong : ChangeSpec := { name := "fnArenaAddNeverReusesRoom", fn := fun _ => fun
  | [d1, d2, d3, d4, d5] => { results := [.lit (.bool false)], args := [d1, d2, d3, d4, d5] }
  | _ => none }
def FnArenaAddNeverReusesRoomWrongFalsely : Prop := fnArenaAddNeverReusesRoomRow.holds Try.pinned (OpenSpec.ofChange fnArenaAddNeverReusesRoomWrong)

/-- 'zzlaws_root_b1.FnKeyTextByteInsertedAnywhere': WHATEVER THE INPUT: true; the input reads as it did. -/
def fnKeyTextByteInsertedAnywhereSpec : ChangeSpec := { name := "fnKeyTextByteInsertedAnywhere", fn := fun _ => fun
  | [d1, d2, d3] => { results := [.lit (.bool true)], args := [d1, d2, d3] }
  | _ => none }
def fnKeyTextByteInsertedAnywhereRow : OpenClaim := { program := "qxb6617183a", sum := "e0822c80bde26eaecda1bb68a8751176734076474cda973ab27120ff04e01758", func := "example.com/idemp/idemp/zzlaws_root_b1.FnKeyTextByteInsertedAnywhere", spec := "fnKeyTextByteInsertedAnywhere", apart := false }
def FnKeyTextByteInsertedAnywhereSaid : Prop := fnKeyTextByteInsertedAnywhereRow.holds Try.pinned (OpenSpec.ofChange fnKeyTextByteInsertedAnywhereSpec)

/-- ITS FALSE NEIGHBOUR: 'it returns false'. Refute it at one input. -/
def fnKeyTextByteInsertedAnywhereWrong : ChangeSpec := { name := "fnKeyTextByteInsertedAnywhere", fn := fun _ => fun
  | [d1, d2, d3] => { results := [.lit (.bool false)], args := [d1, d2, d3] }
  | _ => none }
def FnKeyTextByteInsertedAnywhereWrongFalsely : Prop := fnKeyTextByteInsertedAnywhereRow.holds Try.pinned (OpenSpec.ofChange fnKeyTextByteInsertedAnywhereWrong)

end Rows
end Go.Proofs.Qxb6617183a
