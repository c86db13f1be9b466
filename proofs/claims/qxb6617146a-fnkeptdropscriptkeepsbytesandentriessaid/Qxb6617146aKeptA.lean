import Derived.Test.Qxb6617146aMarkN
namespace Go.Proofs.Qxb6617146a
open Go.RowKit
set_option linter.unusedVariables false

/-- the head of a group, and what it reads as -/
structure Hd where
  a : Option Addr
  n : Nat
  c : Nat
  r : Nat → Br

/-- a slice of n groups -/
def Hds (w : World) (a : Option Addr) (n : Nat) (H : Nat → Hd) : Prop :=
  n ≤ maxLen ∧ (n = 0 ∨ ∃ b off, a = some ⟨b, off, none⟩ ∧ ∀ i, i < n → w.cell? ⟨b, off + i, none⟩ = some (.slice (H i).a (H i).n (H i).c))

theorem Hds.later {w w' : World} {a : Option Addr} {n : Nat} {H : Nat → Hd} (h : Hds w a n H) (hb : Below w.heap.size w w') : Hds w' a n H := by
  obtain ⟨hm, h⟩ := h
  refine ⟨hm, ?_⟩
  rcases h with h | ⟨b, off, e, hc⟩
  · exact .inl h
  · exact .inr ⟨b, off, e, fun i hi => by rw [hb.cell (p := ⟨b, off + i, none⟩) (World.block_lt_of_cell? _ _ (hc i hi))]; exact hc i hi⟩

set_option maxHeartbeats 2000000 in
set_option maxRecDepth 100000 in
theorem zzBytes20_any (a a' a3 : Option Addr) (n c n' c' n3 c3 : Nat) (z : Int) (f f3 : Nat → ByteArray) (H : Nat → Hd) (w : World) (h : Strs w a n f) (hG : Hds w a' n' H) (hB : ∀ i, i < n' → Brs w (H i).a (H i).n (H i).r) (h3 : Strs w a3 n3 f3) :
    Calls Try.prog 20 #[.slice a n c, .slice a' n' c', .int .i64 z, .slice a3 n3 c3] w fun e w' => BoolEnd e ∧ w' = w := by
  obtain ⟨hm, h⟩ := h
  unfold maxLen at hm
  obtain ⟨hm', hG⟩ := hG
  unfold maxLen at hm'
  obtain ⟨hm3, h3⟩ := h3
  unfold maxLen at hm3
  go_enter Try.func20, Try.ntmps20
  go_wp2
  any_goals (go_ret; exact ⟨⟨_, rfl⟩, rfl⟩)
  go_loop [9, 10] (fun s i => ∃ k : Nat, k ≤ n ∧ i = .int .i64 k ∧ ∃ y : Int, 0 ≤ y ∧ y ≤ 1048576 ∧ s = .int .i64 y) (fun _ i => n - (intOf i).toNat)
  case atStart => exact ⟨0, Nat.zero_le _, rfl, _, by omega, by omega, rfl⟩
  case round =>
    obtain ⟨k, hk, rfl, y, hy0, hy1, rfl⟩ := hrel
    by_cases hlt : k < n
    · obtain ⟨b, off, rfl, hc⟩ := h.resolve_left (by omega)
      have hcell := hc k hlt
      go_wp2
      any_goals (go_ret; exact ⟨⟨_, rfl⟩, rfl⟩)
      go_round
      case rel => exact ⟨k + 1, by omega, by go_num, _, by omega, by omega, rfl⟩
      case measure => simp [intOf]; omega
    · go_wp2
      any_goals (go_ret; exact ⟨⟨_, rfl⟩, rfl⟩)
      go_loop [9, 11] (fun s i => ∃ k : Nat, k ≤ n' ∧ i = .int .i64 k ∧ ∃ y : Int, 0 ≤ y ∧ y ≤ 1048576 ∧ s = .int .i64 y) (fun _ i => n' - (intOf i).toNat)
      case atStart => exact ⟨0, Nat.zero_le _, rfl, _, by omega, by omega, rfl⟩
      case round =>
        obtain ⟨k', hk', rfl, y', hy0', hy1', rfl⟩ := hrel
        by_cases hlt' : k' < n'
        · obtain ⟨b', off', rfl, hc'⟩ := hG.resolve_left (by omega)
          have hcell' := hc' k' hlt'
          obtain ⟨hmb, hB'⟩ := hB k' hlt'
          unfold maxLen at hmb
          go_wp2
          any_goals (go_ret; exact ⟨⟨_, rfl⟩, rfl⟩)
          go_loop [9, 12] (fun s i => ∃ k : Nat, k ≤ (H k').n ∧ i = .int .i64 k ∧ ∃ y : Int, 0 ≤ y ∧ y ≤ 1048576 ∧ s = .int .i64 y) (fun _ i => (H k').n - (intOf i).toNat)
          case atStart => exact ⟨0, Nat.zero_le _, rfl, _, by omega, by omega, rfl⟩
          case round =>
            obtain ⟨q, hq, rfl, y2, hy02, hy12, rfl⟩ := hrel
            by_cases hltq : q < (H k').n
            · obtain ⟨b2, off2, ha2, hc2⟩ := hB'.resolve_left (by omega)
              rw [ha2] at hcell'
              obtain ⟨c0, c1, c2, c3, c4, c5⟩ := hc2 q hltq
              go_wp2
              any_goals (go_ret; exact ⟨⟨_, rfl⟩, rfl⟩)
              go_round
              case rel => exact ⟨q + 1, by omega, by go_num, _, by omega, by omega, rfl⟩
              case measure => simp [intOf]; omega
            · go_wp2
              go_round
              case rel => exact ⟨k' + 1, by omega, by go_num, _, by omega, by omega, rfl⟩
              case measure => simp [intOf]; omega
        · go_wp2
          any_goals (go_ret; exact ⟨⟨_, rfl⟩, rfl⟩)
          go_loop [9, 13] (fun s i => ∃ k : Nat, k ≤ n3 ∧ i = .int .i64 k ∧ ∃ y : Int, 0 ≤ y ∧ y ≤ 1048576 ∧ s = .int .i64 y) (fun _ i => n3 - (intOf i).toNat)
          case atStart => exact ⟨0, Nat.zero_le _, rfl, _, by omega, by omega, rfl⟩
          case round =>
            obtain ⟨k3, hk3, rfl, y3, hy03, hy13, rfl⟩ := hrel
            by_cases hlt3 : k3 < n3
            · obtain ⟨b, off, rfl, hc⟩ := h3.resolve_left (by omega)
              have hcell := hc k3 hlt3
              go_wp2
              any_goals (go_ret; exact ⟨⟨_, rfl⟩, rfl⟩)
              go_round
              case rel => exact ⟨k3 + 1, by omega, by go_num, _, by omega, by omega, rfl⟩
              case measure => simp [intOf]; omega
            · go_wp2
              go_ret
              exact ⟨⟨_, rfl⟩, rfl⟩
end Go.Proofs.Qxb6617146a
