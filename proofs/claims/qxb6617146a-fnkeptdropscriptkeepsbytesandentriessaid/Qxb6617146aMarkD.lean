import Derived.Test.Qxb6617146aMarkC
namespace Go.Proofs.Qxb6617146a
open Go.RowKit
set_option linter.unusedVariables false

/-- some bool is returned -/
def BoolEnd (e : Ending) : Prop := ∃ x, e = .returned (.bool x)

set_option maxHeartbeats 1000000 in
set_option maxRecDepth 100000 in
theorem zzBytes10_any (g st : ByteArray) (a a' : Option Addr) (n c n' c' : Nat) (f : Nat → ByteArray) (r : Nat → Br) (i j : Int) (w : World) (h : Strs w a n f) (h' : Brs w a' n' r) :
    Calls Try.prog 10 #[.string g, .slice a n c, .string st, .slice a' n' c', .int .i64 i, .int .i64 j] w fun e w' => BoolEnd e ∧ w' = w := by
  obtain ⟨hm, h⟩ := h
  unfold maxLen at hm
  obtain ⟨hm', h'⟩ := h'
  unfold maxLen at hm'
  go_enter Try.func10, Try.ntmps10
  go_wp2
  any_goals (go_ret; exact ⟨⟨_, rfl⟩, rfl⟩)
  go_loop [13, 14] (fun s i => ∃ k : Nat, k ≤ n ∧ i = .int .i64 k ∧ ∃ y : Int, 0 ≤ y ∧ y ≤ 1048576 ∧ s = .int .i64 y) (fun _ i => n - (intOf i).toNat)
  case atStart => exact ⟨0, Nat.zero_le _, rfl, _, by omega, by omega, rfl⟩
  case round =>
    obtain ⟨k, hk, rfl, y, hy0, hy1, rfl⟩ := hrel
    by_cases hlt : k < n
    · obtain ⟨b, off, rfl, hc⟩ := h.resolve_left (by omega)
      have hcell := hc k hlt
      go_wp2
      any_goals (go_ret; exact ⟨⟨_, rfl⟩, rfl⟩)
      go_round
      case rel => exact ⟨k + 1, by omega, by go_num, _, by omega, by omega, rfl⟩
      case measure => simp [intOf]; omega
    · go_wp2
      any_goals (go_ret; exact ⟨⟨_, rfl⟩, rfl⟩)
      go_loop [13, 15] (fun s i => ∃ k : Nat, k ≤ n' ∧ i = .int .i64 k ∧ ∃ y : Int, 0 ≤ y ∧ y ≤ 1048576 ∧ s = .int .i64 y) (fun _ i => n' - (intOf i).toNat)
      case atStart => exact ⟨0, Nat.zero_le _, rfl, _, by omega, by omega, rfl⟩
      case round =>
        obtain ⟨k', hk', rfl, y', hy0', hy1', rfl⟩ := hrel
        by_cases hlt' : k' < n'
        · obtain ⟨b, off, rfl, hc⟩ := h'.resolve_left (by omega)
          obtain ⟨c0, c1, c2, c3, c4, c5⟩ := hc k' hlt'
          go_wp2
          any_goals (go_ret; exact ⟨⟨_, rfl⟩, rfl⟩)
          go_round
          case rel => exact ⟨k' + 1, by omega, by go_num, _, by omega, by omega, rfl⟩
          case measure => simp [intOf]; omega
        · go_wp2
          go_ret
          exact ⟨⟨_, rfl⟩, rfl⟩
end Go.Proofs.Qxb6617146a
