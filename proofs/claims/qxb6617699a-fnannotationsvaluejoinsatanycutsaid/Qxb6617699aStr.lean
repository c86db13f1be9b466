import Derived.Test.Qxb6617699aRows
import Derived.Test.Qxb6617699aShelf
import Derived.WalkKit
import Derived.WalkSpells
import Derived.ProofKit
import Derived.Below
import Derived.Deep.OwnRows
import Derived.Deep.DeepCutAuto
import Derived.Laws.IdiomCopy
import Derived.Maps.OwnSet
import Derived.Lib.Join
namespace Go.Proofs.Qxb6617699a
open Go.RowKit
set_option linter.unusedVariables false

theorem hide {p : Prop} (h : p) : Hid p := h

/-- what the slice value at a reads as: the strings f 0 .. f (n-1) -/
def Strs (w : World) (a : Option Addr) (n : Nat) (f : Nat → ByteArray) : Prop :=
  n ≤ maxLen ∧ (n = 0 ∨ ∃ b off, a = some ⟨b, off, none⟩ ∧ ∀ i, i < n → w.cell? ⟨b, off + i, none⟩ = some (.string (f i)))
theorem Strs.later {w w' : World} {a : Option Addr} {n : Nat} {f : Nat → ByteArray} (h : Strs w a n f) (hb : Below w.heap.size w w') : Strs w' a n f := by
  obtain ⟨hm, h⟩ := h
  refine ⟨hm, ?_⟩
  rcases h with h | ⟨b, off, e, hc⟩
  · exact .inl h
  · exact .inr ⟨b, off, e, fun i hi => by rw [hb.cell (p := ⟨b, off + i, none⟩) (World.block_lt_of_cell? _ _ (hc i hi))]; exact hc i hi⟩
theorem Strs.take {w : World} {a : Option Addr} {n : Nat} {f : Nat → ByteArray} (h : Strs w a n f) {i : Nat} (hi : i ≤ n) : Strs w a i f := by
  obtain ⟨hm, h⟩ := h
  refine ⟨by omega, ?_⟩
  rcases h with rfl | ⟨b, off, rfl, hc⟩
  · exact .inl (by omega)
  · exact .inr ⟨b, off, rfl, fun j hj => hc j (by omega)⟩

/-- some bool is returned -/
def BoolEnd (e : Ending) : Prop := ∃ x, e = .returned (.bool x)

/-- the bytes of the first n -/
def tot (f : Nat → ByteArray) : Nat → Nat
  | 0 => 0
  | n + 1 => tot f n + (f n).size

set_option maxHeartbeats 1000000 in
set_option maxRecDepth 100000 in
theorem zzBytes_any (a : Option Addr) (n c : Nat) (f : Nat → ByteArray) (k : Int) (t : Bool) (w : World) (h : Strs w a n f) :
    Calls Try.prog 4 #[.slice a n c, .int .i64 k, .bool t] w fun e w' => BoolEnd e ∧ w' = w := by
  obtain ⟨hm, h⟩ := h
  unfold maxLen at hm
  go_enter Try.func4, Try.ntmps4
  go_wp2
  any_goals (go_ret; exact ⟨⟨_, rfl⟩, rfl⟩)
  go_loop [7, 8] (fun s i => ∃ k : Nat, k ≤ n ∧ i = .int .i64 k ∧ ∃ y : Int, 0 ≤ y ∧ y ≤ 1048576 ∧ s = .int .i64 y) (fun _ i => n - (intOf i).toNat)
  case atStart => exact ⟨0, Nat.zero_le _, rfl, _, by omega, by omega, rfl⟩
  case round =>
    obtain ⟨k, hk, rfl, y, hy0, hy1, rfl⟩ := hrel
    by_cases hlt : k < n
    · obtain ⟨b, off, rfl, hc⟩ := h.resolve_left (by omega)
      have hcell := hc k hlt
      go_wp2
      any_goals (go_ret; exact ⟨⟨_, rfl⟩, rfl⟩)
      go_round
      case rel => exact ⟨k + 1, by omega, by go_num, _, by omega, by omega, rfl⟩
      case measure => simp [intOf]; omega
    · go_wp2
      go_ret
      exact ⟨⟨_, rfl⟩, rfl⟩

/-- zzBytesOver: where it answers false the whole is short -/
def Over (e : Ending) (n : Nat) (f : Nat → ByteArray) : Prop := ∃ r, e = .returned (.bool r) ∧ (r = false → n ≤ 65536 ∧ tot f n ≤ 1048576)

set_option maxHeartbeats 1000000 in
set_option maxRecDepth 100000 in
theorem over_any (a : Option Addr) (n c : Nat) (f : Nat → ByteArray) (w : World) (h : Strs w a n f) :
    Calls Try.prog 5 #[.slice a n c] w fun e w' => Over e n f ∧ w' = w := by
  obtain ⟨hm, h⟩ := h
  unfold maxLen at hm
  by_cases hbig : 65536 < (n : Int)
  · go_enter Try.func5, Try.ntmps5
    go_wp2
    go_ret
    exact ⟨⟨_, rfl, fun h => by cases h⟩, rfl⟩
  go_enter Try.func5, Try.ntmps5
  go_wp2
  go_loop [3, 4] (fun s i => ∃ k : Nat, k ≤ n ∧ i = .int .i64 k ∧ ∃ y : Int, 0 ≤ y ∧ y ≤ 1048576 ∧ (tot f k : Int) ≤ y ∧ s = .int .i64 y) (fun _ i => n - (intOf i).toNat)
  case atStart => exact ⟨0, Nat.zero_le _, rfl, _, by omega, by omega, by simp [tot], rfl⟩
  case round =>
    obtain ⟨k, hk, rfl, y, hy0, hy1, hyt, rfl⟩ := hrel
    by_cases hlt : k < n
    · obtain ⟨b, off, rfl, hc⟩ := h.resolve_left (by omega)
      have hcell := hc k hlt
      have HT : Hid (tot f (k + 1) = tot f k + (f k).size) := rfl
      go_wp2
      any_goals (go_ret; exact ⟨⟨_, rfl, fun h => by cases h⟩, rfl⟩)
      go_round
      case rel => exact ⟨k + 1, by omega, by go_num, _, by omega, by omega, by rw [HT.out]; push_cast; omega, rfl⟩
      case measure => simp [intOf]; omega
    · have e : k = n := by omega
      subst e
      go_wp2
      go_ret
      exact ⟨⟨_, rfl, fun _ => ⟨by omega, by omega⟩⟩, rfl⟩
end Go.Proofs.Qxb6617699a
