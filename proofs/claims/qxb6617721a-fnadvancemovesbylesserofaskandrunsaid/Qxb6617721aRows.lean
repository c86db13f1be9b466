/-
  No cell of these rows narrows 'for every input' (looked for: loops, veiled, ifaces, maps, wideKeys, modest, calm, conditions, laid).
  DERIVED. THE GIVEN ROWS OF THIS SEAT. 2 by the template 'for every input the law returns true; each argument reads behind the call as it read before'; 0 by the template 'total and deterministic' (their statements: Qxb6617721aTotals.lean).
  GIVEN WITH THE SEED: the statements are not yours to turn. If you find one false, say at which input.
  Laid BY PROGRAM, IN A SANDBOX (cutbox-rows.mjs): the forced cells as the released guide's own fill.sh prints them over the translation 5b1f48978b895d93… (all of the seat's roots in one cut). By AI agents, Wed Nov 11 2026. No macro, syntax, notation, axiom, sorry.
-/
import Derived.Test.Qxb6617721aChecked
import GoSem.Claim
import GoSem.ClaimJoined
import GoSem.ClaimMapViews
import Derived.JoinedTies
import Derived.KernelRfl
namespace Go.Proofs.Qxb6617721a
/- THE CELL 'sum', in the pinned program and in every row, IS THE sha256 OF THE DUMP (.gsa) THAT Qxb6617721aProg.lean LOADS. Nothing in Lean hashes anything: it is a label: what it is worth is what the hold of that sum in a sandbox is worth. -/
noncomputable def Try.pinned : Pinned := { name := "qxb6617721a", sum := "5b1f48978b895d93188005a47e7fb39c83a533759d693325da85a3fc3ede8bf2", checked := Try.checked }
namespace Rows
def none {H : Type} : Left H := { results := [], args := [] }

/-- 'zzlaws_tasklist_b1.FnAdvanceMovesByLesserOfAskAndRun': WHATEVER THE INPUT: true; the input reads as it did. -/
def fnAdvanceMovesByLesserOfAskAndRunSpec : ChangeSpec := { name := "fnAdvanceMovesByLesserOfAskAndRun", fn := fun _ => fun
  | [d1, d2, d3, d4, d5, d6] => { results := [.lit (.bool true)], args := [d1, d2, d3, d4, d5, d6] }
  | _ => none }
def fnAdvanceMovesByLesserOfAskAndRunRow : OpenClaim := { program := "qxb6617721a", sum := "5b1f48978b895d93188005a47e7fb39c83a533759d693325da85a3fc3ede8bf2", func := "example.com/offshoot/offshoot/zzlaws_tasklist_b1.FnAdvanceMovesByLesserOfAskAndRun", spec := "fnAdvanceMovesByLesserOfAskAndRun", apart := false }
def FnAdvanceMovesByLesserOfAskAndRunSaid : Prop := fnAdvanceMovesByLesserOfAskAndRunRow.holds Try.pinned (OpenSpec.ofChange fnAdvanceMovesByLesserOfAskAndRunSpec)

/-- ITS FALSE NEIGHBOUR: 'it returns false'. Refute it at one input. -/
def fnAdvanceMovesByLesserOfAskAndRunWrong : ChangeSpec := { name := "fnAdvanceMovesByLesserOfAskAndRun", fn := fun _ => fun
  | [d1, d2, d3, d4, d5, d6] => { results := [.lit (.bool false)], args := [d1, d2, d3, d4, d5, d6] }
  | _ => none }
def FnAdvanceMovesByLesserOfAskAndRunWrongFalsely : Prop := fnAdvanceMovesByLesserOfAskAndRunRow.holds Try.pinned (OpenSpec.ofChange fnAdvanceMovesByLesserOfAskAndRunWrong)

/-- 'zzlaws_tasklist_b1.FnAdvanceSplitsAtAnyCount': WHATEVER THE INPUT: true; the input reads as it did. -/
def fnAdvanceSplitsAtAnyCountSpec : ChangeSpec := { name := "fnAdvanceSplitsAtAnyCount", fn := fun _ => fun
  | [d1, d2, d3, d4, d5, d6, d7] => { results := [.lit (.bool true)], args := [d1, d2, d3, d4, d5, d6, d7] }
  | _ => none }
def fnAdvanceSplitsAtAnyCountRow : OpenClaim := { program := "qxb6617721a", sum := "5b1f48978b895d93188005a47e7fb39c83a533759d693325da85a3fc3ede8bf2", func := "example.com/offshoot/offshoot/zzlaws_tasklist_b1.FnAdvanceSplitsAtAnyCount", spec := "fnAdvanceSplitsAtAnyCount", apart := false }
def FnAdvanceSplitsAtAnyCountSaid : Prop := fnAdvanceSplitsAtAnyCountRow.holds Try.pinned (OpenSpec.ofChange fnAdvanceSplitsAtAnyCountSpec)

/-- ITS FALSE NEIGHBOUR: 'it returns false'. Refute it at one input. -/
def fnAdvanceSplitsAtAnyCountWrong : ChangeSpec := { name := "fnAdvanceSplitsAtAnyCount", fn := fun _ => fun
  | [d1, d2, d3, d4, d5, d6, d7] => { results := [.lit (.bool false)], args := [d1, d2, d3, d4, d5, d6, d7] }
  | _ => none }
def FnAdvanceSplitsAtAnyCountWrongFalsely : Prop := fnAdvanceSplitsAtAnyCountRow.holds Try.pinned (OpenSpec.ofChange fnAdvanceSplitsAtAnyCountWrong)

end Rows
end Go.Proofs.Qxb6617721a
