/-
  No cell of these rows narrows 'for every input' (looked for: loops, veiled, ifaces, maps, wideKeys, modest, calm, conditions, laid).
  DERIVED. THE GIVEN ROWS OF THIS SEAT. 1 by the template 'for every input the law returns true; each argument reads behind the call as it read before'; 0 by the template 'total and deterministic' (their statements: Qxb6617699aTotals.lean).
  GIVEN WITH THE SEED: the statements are not yours to turn. If you find one false, say at which input.
  Laid BY PROGRAM, IN A SANDBOX (cutbox-rows.mjs): the forced cells as the released guide's own fill.sh prints them over the translation 621dbd6267c75403… (all of the seat's roots in one cut). By AI agents, Wed Nov 11 2026. No macro, syntax, notation, axiom, sorry.
-/
import Derived.Test.Qxb6617699aChecked
import GoSem.Claim
import GoSem.ClaimJoined
import GoSem.ClaimMapViews
import Derived.JoinedTies
import Derived.KernelRfl
namespace Go.Proofs.Qxb6617699a
/- THE CELL 'sum', in the pinned program and in every row, IS THE sha256 OF THE DUMP (.gsa) THAT Qxb6617699aProg.lean LOADS. Nothing in Lean hashes anything: it is a label: what it is worth is what the hold of that sum in a sandbox is worth. -/
noncomputable def Try.pinned : Pinned := { name := "qxb6617699a", sum := "621dbd6267c75403169b98da90fbbcf497504e9d335c2a20073316e660992fba", checked := Try.checked }
namespace Rows
def none {H : Type} : Left H := { results := [], args := [] }

/-- 'zzlaws_root_b1.FnAnnotationsValueJoinsAtAnyCut': WHATEVER THE INPUT: true; the input reads as it did. -/
def fnAnnotationsValueJoinsAtAnyCutSpec : ChangeSpec := { name := "fnAnnotationsValueJoinsAtAnyCut", fn := fun _ => fun
  | [d1, d2, d3] => { results := [.lit (.bool true)], args := [d1, d2, d3] }
  | _ => none }
def fnAnnotationsValueJoinsAtAnyCutRow : OpenClaim := { program := "qxb6617699a", sum := "621dbd6267c75403169b98da90fbbcf497504e9d335c2a20073316e660992fba", func := "example.com/claimstake/claimstake/zzlaws_root_b1.FnAnnotationsValueJoinsAtAnyCut", spec := "fnAnnotationsValueJoinsAtAnyCut", inPlace := ["internal/abi.NoEscape", "internal/bytealg.MakeNoZero"], apart := false }
def FnAnnotationsValueJoinsAtAnyCutSaid : Prop := fnAnnotationsValueJoinsAtAnyCutRow.holds Try.pinned (OpenSpec.ofChange fnAnnotationsValueJoinsAtAnyCutSpec)

/-- ITS FALSE NEIGHBOUR: 'it returns false'. Refute it at one input. -/
def fnAnnotationsValueJoinsAtAnyCutWrong : ChangeSpec := { name := "fnAnnotationsValueJoinsAtAnyCut", fn := fun _ => fun
  | [d1, d2, d3] => { results := [.lit (.bool false)], args := [d1, d2, d3] }
  | _ => none }
def FnAnnotationsValueJoinsAtAnyCutWrongFalsely : Prop := fnAnnotationsValueJoinsAtAnyCutRow.holds Try.pinned (OpenSpec.ofChange fnAnnotationsValueJoinsAtAnyCutWrong)

end Rows
end Go.Proofs.Qxb6617699a
