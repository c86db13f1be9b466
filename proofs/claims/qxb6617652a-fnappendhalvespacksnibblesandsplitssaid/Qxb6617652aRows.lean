/-
  No cell of these rows narrows 'for every input' (looked for: loops, veiled, ifaces, maps, wideKeys, modest, calm, conditions, laid).
  DERIVED. THE GIVEN ROWS OF THIS SEAT. 1 by the template 'for every input the law returns true; each argument reads behind the call as it read before'; 0 by the template 'total and deterministic' (their statements: Qxb6617652aTotals.lean).
  GIVEN WITH THE SEED: the statements are not yours to turn. If you find one false, say at which input.
  Laid BY PROGRAM, IN A SANDBOX (cutbox-rows.mjs): the forced cells as the released guide's own fill.sh prints them over the translation 965fe81f039316ec… (all of the seat's roots in one cut). By AI agents, Wed Nov 11 2026. No macro, syntax, notation, axiom, sorry.
-/
import Derived.Test.Qxb6617652aChecked
import GoSem.Claim
import GoSem.ClaimJoined
import GoSem.ClaimMapViews
import Derived.JoinedTies
import Derived.KernelRfl
namespace Go.Proofs.Qxb6617652a
/- THE CELL 'sum', in the pinned program and in every row, IS THE sha256 OF THE DUMP (.gsa) THAT Qxb6617652aProg.lean LOADS. Nothing in Lean hashes anything: it is a label: what it is worth is what the hold of that sum in a sandbox is worth. -/
noncomputable def Try.pinned : Pinned := { name := "qxb6617652a", sum := "965fe81f039316ec8665dbf1f8e2b848b9f59e6177de15cde245077bcc69152c", checked := Try.checked }
namespace Rows
def none {H : Type} : Left H := { results := [], args := [] }

/-- 'zzlaws_codec_b1.FnAppendHalvesPacksNibblesAndSplits': WHATEVER THE INPUT: true; the input reads as it did. -/
def fnAppendHalvesPacksNibblesAndSplitsSpec : ChangeSpec := { name := "fnAppendHalvesPacksNibblesAndSplits", fn := fun _ => fun
  | [d1, d2, d3] => { results := [.lit (.bool true)], args := [d1, d2, d3] }
  | _ => none }
def fnAppendHalvesPacksNibblesAndSplitsRow : OpenClaim := { program := "qxb6617652a", sum := "965fe81f039316ec8665dbf1f8e2b848b9f59e6177de15cde245077bcc69152c", func := "example.com/trunkline/trunkline/zzlaws_codec_b1.FnAppendHalvesPacksNibblesAndSplits", spec := "fnAppendHalvesPacksNibblesAndSplits", apart := false }
def FnAppendHalvesPacksNibblesAndSplitsSaid : Prop := fnAppendHalvesPacksNibblesAndSplitsRow.holds Try.pinned (OpenSpec.ofChange fnAppendHalvesPacksNibblesAndSplitsSpec)

/-- ITS FALSE NEIGHBOUR: 'it returns false'. Refute it at one input. -/
def fnAppendHalvesPacksNibblesAndSplitsWrong : ChangeSpec := { name := "fnAppendHalvesPacksNibblesAndSplits", fn := fun _ => fun
  | [d1, d2, d3] => { results := [.lit (.bool false)], args := [d1, d2, d3] }
  | _ => none }
def FnAppendHalvesPacksNibblesAndSplitsWrongFalsely : Prop := fnAppendHalvesPacksNibblesAndSplitsRow.holds Try.pinned (OpenSpec.ofChange fnAppendHalvesPacksNibblesAndSplitsWrong)

end Rows
end Go.Proofs.Qxb6617652a
