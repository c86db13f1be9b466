/-
  No cell of these rows narrows 'for every input' (looked for: loops, veiled, ifaces, maps, wideKeys, modest, calm, conditions, laid).
  DERIVED. THE GIVEN ROWS OF THIS SEAT. 4 by the template 'for every input the law returns true; each argument reads behind the call as it read before'; 0 by the template 'total and deterministic' (their statements: Qxb6617146aTotals.lean).
  GIVEN WITH THE SEED: the statements are not yours to turn. If you find one false, say at which input.
  Laid BY PROGRAM, IN A SANDBOX (cutbox-rows.mjs): the forced cells as the released guide's own fill.sh prints them over the translation 641e5830e7cc898a… (all of the seat's roots in one cut). By AI agents, Wed Nov 11 2026. No macro, syntax, notation, axiom, sorry.
-/
import Derived.Test.Qxb6617146aChecked
import GoSem.Claim
import GoSem.ClaimJoined
import GoSem.ClaimMapViews
import Derived.JoinedTies
import Derived.KernelRfl
namespace Go.Proofs.Qxb6617146a
/- THE CELL 'sum', in the pinned program and in every row, IS THE sha256 OF THE DUMP (.gsa) THAT Qxb6617146aProg.lean LOADS. Nothing in Lean hashes anything: it is a label: what it is worth is what the hold of that sum in a sandbox is worth. -/
noncomputable def Try.pinned : Pinned := { name := "qxb6617146a", sum := "641e5830e7cc898a6fb1e6fa3447c1c712a35a947f58865785d17a9061804345", checked := Try.checked }
namespace Rows
def none {H : Type} : Left H := { results := [], args := [] }

/-- 'zzlaws_internal_store_b1.FnListKeyHoldsTheColumnsOfItsParts': WHATEVER THE INPUT: true; the input reads as it did. -/
def fnListKeyHoldsTheColumnsOfItsPartsSpec : ChangeSpec := { name := "fnListKeyHoldsTheColumnsOfItsParts", fn := fun _ => fun
  | [d1, d2, d3, d4] => { results := [.lit (.bool true)], args := [d1, d2, d3, d4] }
  | _ => none }
def fnListKeyHoldsTheColumnsOfItsPartsRow : OpenClaim := { program := "qxb6617146a", sum := "641e5830e7cc898a6fb1e6fa3447c1c712a35a947f58865785d17a9061804345", func := "example.com/tercet/tercet/zzlaws_internal_store_b1.FnListKeyHoldsTheColumnsOfItsParts", spec := "fnListKeyHoldsTheColumnsOfItsParts", apart := false }
def FnListKeyHoldsTheColumnsOfItsPartsSaid : Prop := fnListKeyHoldsTheColumnsOfItsPartsRow.holds Try.pinned (OpenSpec.ofChange fnListKeyHoldsTheColumnsOfItsPartsSpec)

/-- ITS FALSE NEIGHBOUR: 'it returns false'. Refute it at one input. -/
def fnListKeyHoldsTheColumnsOfItsPartsWrong : ChangeSpec := { name := "fnListKeyHoldsTheColumnsOfItsParts", fn := fun _ => fun
  | [d1, d2, d3, d4] => { results := [.lit (.bool false)], args := [d1, d2, d3, d4] }
  | _ => none }
def FnListKeyHoldsTheColumnsOfItsPartsWrongFalsely : Prop := fnListKeyHoldsTheColumnsOfItsPartsRow.holds Try.pinned (OpenSpec.ofChange fnListKeyHoldsTheColumnsOfItsPartsWrong)

/-- 'zzlaws_internal_store_b1.FnMarkApplyAgreesAcrossCutsOfIdsAndBranches': WHATEVER THE INPUT: true; the input reads as it did. -/
def fnMarkApplyAgreesAcrossCutsOfIdsAndBranchesSpec : ChangeSpec := { name := "fnMarkApplyAgreesAcrossCutsOfIdsAndBranches", fn := fun _ => fun
  | [d1, d2, d3, d4, d5, d6] => { results := [.lit (.bool true)], args := [d1, d2, d3, d4, d5, d6] }
  | _ => none }
def fnMarkApplyAgreesAcrossCutsOfIdsAndBranchesRow : OpenClaim := { program := "qxb6617146a", sum := "641e5830e7cc898a6fb1e6fa3447c1c712a35a947f58865785d17a9061804345", func := "example.com/tercet/tercet/zzlaws_internal_store_b1.FnMarkApplyAgreesAcrossCutsOfIdsAndBranches", spec := "fnMarkApplyAgreesAcrossCutsOfIdsAndBranches", apart := false }
def FnMarkApplyAgreesAcrossCutsOfIdsAndBranchesSaid : Prop := fnMarkApplyAgreesAcrossCutsOfIdsAndBranchesRow.holds Try.pinned (OpenSpec.ofChange fnMarkApplyAgreesAcrossCutsOfIdsAndBranchesSpec)

/-- ITS FALSE NEIGHBOUR: 'it returns false'. Refute it at one input. -/
def fnMarkApplyAgreesAcrossCutsOfIdsAndBranchesWrong : ChangeSpec := { name := "fnMarkApplyAgreesAcrossCutsOfIdsAndBranches", fn := fun _ => fun
  | [d1, d2, d3, d4, d5, d6] => { results := [.lit (.bool false)], args := [d1, d2, d3, d4, d5, d6] }
  | _ => none }
def FnMarkApplyAgreesAcrossCutsOfIdsAndBranchesWrongFalsely : Prop := fnMarkApplyAgreesAcrossCutsOfIdsAndBranchesRow.holds Try.pinned (OpenSpec.ofChange fnMarkApplyAgreesAcrossCutsOfIdsAndBranchesWrong)

/-- 'zzlaws_internal_store_b1.FnMarkApplyLastStatusWinsAndTwiceIsOnce': WHATEVER THE INPUT: true; the input reads as it did. -/
def fnMarkApplyLastStatusWinsAndTwiceIsOnceSpec : ChangeSpec := { name := "fnMarkApplyLastStatusWinsAndTwiceIsOnce", fn := fun _ => fun
  | [d1, d2, d3, d4, d5] => { results := [.lit (.bool true)], args := [d1, d2, d3, d4, d5] }
  | _ => none }
def fnMarkApplyLastStatusWinsAndTwiceIsOnceRow : OpenClaim := { program := "qxb6617146a", sum := "641e5830e7cc898a6fb1e6fa3447c1c712a35a947f58865785d17a9061804345", func := "example.com/tercet/tercet/zzlaws_internal_store_b1.FnMarkApplyLastStatusWinsAndTwiceIsOnce", spec := "fnMarkApplyLastStatusWinsAndTwiceIsOnce", apart := false }
def FnMarkApplyLastStatusWinsAndTwiceIsOnceSaid : Prop := fnMarkApplyLastStatusWinsAndTwiceIsOnceRow.holds Try.pinned (OpenSpec.ofChange fnMarkApplyLastStatusWinsAndTwiceIsOnceSpec)

/-- ITS FALSE NEIGHBOUR: 'it returns false'. Refute it at one input. -/
def fnMarkApplyLastStatusWinsAndTwiceIsOnceWrong : ChangeSpec := { name := "fnMarkApplyLastStatusWinsAndTwiceIsOnce", fn := fun _ => fun
  | [d1, d2, d3, d4, d5] => { results := [.lit (.bool false)], args := [d1, d2, d3, d4, d5] }
  | _ => none }
def FnMarkApplyLastStatusWinsAndTwiceIsOnceWrongFalsely : Prop := fnMarkApplyLastStatusWinsAndTwiceIsOnceRow.holds Try.pinned (OpenSpec.ofChange fnMarkApplyLastStatusWinsAndTwiceIsOnceWrong)

/-- 'zzlaws_internal_store_b1.FnKeptDropScriptKeepsBytesAndEntries': WHATEVER THE INPUT: true; the input reads as it did. -/
def fnKeptDropScriptKeepsBytesAndEntriesSpec : ChangeSpec := { name := "fnKeptDropScriptKeepsBytesAndEntries", fn := fun _ => fun
  | [d1, d2, d3, d4] => { results := [.lit (.bool true)], args := [d1, d2, d3, d4] }
  | _ => none }
def fnKeptDropScriptKeepsBytesAndEntriesRow : OpenClaim := { program := "qxb6617146a", sum := "641e5830e7cc898a6fb1e6fa3447c1c712a35a947f58865785d17a9061804345", func := "example.com/tercet/tercet/zzlaws_internal_store_b1.FnKeptDropScriptKeepsBytesAndEntries", spec := "fnKeptDropScriptKeepsBytesAndEntries", apart := false }
def FnKeptDropScriptKeepsBytesAndEntriesSaid : Prop := fnKeptDropScriptKeepsBytesAndEntriesRow.holds Try.pinned (OpenSpec.ofChange fnKeptDropScriptKeepsBytesAndEntriesSpec)

/-- ITS FALSE NEIGHBOUR: 'it returns false'. Refute it at one input. -/
def fnKeptDropScriptKeepsBytesAndEntriesWrong : ChangeSpec := { name := "fnKeptDropScriptKeepsBytesAndEntries", fn := fun _ => fun
  | [d1, d2, d3, d4] => { results := [.lit (.bool false)], args := [d1, d2, d3, d4] }
  | _ => none }
def FnKeptDropScriptKeepsBytesAndEntriesWrongFalsely : Prop := fnKeptDropScriptKeepsBytesAndEntriesRow.holds Try.pinned (OpenSpec.ofChange fnKeptDropScriptKeepsBytesAndEntriesWrong)

end Rows
end Go.Proofs.Qxb6617146a
