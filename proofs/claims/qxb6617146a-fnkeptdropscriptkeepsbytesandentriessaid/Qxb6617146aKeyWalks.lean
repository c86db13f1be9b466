import Derived.Test.Qxb6617146aRows
import Derived.WalkKit
import Derived.WalkSpells
import Derived.ProofKit
import Derived.Below
namespace Go.Proofs.Qxb6617146a
open Go.RowKit
set_option linter.unusedVariables false

theorem hide {p : Prop} (h : p) : Hid p := h
theorem unhide {p : Prop} (h : Hid p) : p := h

/-- the key that listKey picks: by whether there is a status and whether the flag is set -/
def keyOf (st : Bool) (nm : Bool) : Int := if st then (if nm then 4 else 2) else (if nm then 3 else 0)
def isSet (p : Option Addr) : Bool := p.isSome

theorem listKey_any (s b : ByteArray) (p : Option Addr) (st : Bool) (w : World) (hs : s.toList.isEmpty = !st) :
    Calls Try.prog 28 #[.agg #[.string s, .pointer p, .string b]] w fun e w' =>
      e = .returned (.tuple #[.int .i64 (keyOf st (isSet p)), .bool (st || isSet p)]) ∧ Below w.heap.size w w' := by
  cases st <;> cases p <;> simp only [Bool.not_true, Bool.not_false] at hs
  all_goals
    go_enter Try.func28, Try.ntmps28
    go_wp2
    go_ret2
    exact ⟨rfl, (Below.refl _ _).alloc (Nat.le_refl _) _⟩

theorem zzListKey_any (s b : ByteArray) (p : Option Addr) (st : Bool) (w : World) (hs : s.toList.isEmpty = !st) :
    Calls Try.prog 8 #[.string s, .pointer p, .string b] w fun e w' =>
      e = .returned (.tuple #[.int .i64 (keyOf st (isSet p)), .bool (st || isSet p)]) ∧ Below w.heap.size w w' := by
  have H := hide hs
  clear hs
  go_enter Try.func8, Try.ntmps8
  go_wp2_with (go_at_call 28; refine (listKey_any s b p st _ (unhide H)).mono ?_; rintro e w' ⟨rfl, hb⟩)
  go_ret2
  exact ⟨rfl, hb⟩

theorem zzBytes_key (s b o : ByteArray) (p : Option Addr) (w : World) (hs : s.size ≤ maxLen) (hb : b.size ≤ maxLen) (ho : o.size ≤ maxLen) :
    Calls Try.prog 7 #[.string s, .pointer p, .string b, .string o] w fun e w' => (∃ r, e = .returned (.bool r)) ∧ w' = w := by
  unfold maxLen at hs hb ho
  go_enter Try.func7, Try.ntmps7
  go_wp2
  all_goals (go_ret; exact ⟨⟨_, rfl⟩, rfl⟩)
end Go.Proofs.Qxb6617146a
