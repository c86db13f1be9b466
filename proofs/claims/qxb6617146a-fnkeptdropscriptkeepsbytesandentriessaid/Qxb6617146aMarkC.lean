import Derived.Test.Qxb6617146aMarkB
namespace Go.Proofs.Qxb6617146a
open Go.RowKit
set_option linter.unusedVariables false

theorem addLen_any (x y : Int) (w : World) :
    Calls Try.prog 11 #[.int .i64 x, .int .i64 y] w fun e w' => (∃ r : Int, e = .returned (.int .i64 r)) ∧ w' = w := by
  by_cases h1 : 1048576 < x
  · go_enter Try.func11, Try.ntmps11
    go_wp2
    go_ret
    exact ⟨⟨_, rfl⟩, rfl⟩
  by_cases h2 : 1048576 < y
  · go_enter Try.func11, Try.ntmps11
    go_wp2
    go_ret
    exact ⟨⟨_, rfl⟩, rfl⟩
  · go_enter Try.func11, Try.ntmps11
    go_wp2
    go_ret
    exact ⟨⟨_, rfl⟩, rfl⟩

theorem addStrs_any (x : Int) (a : Option Addr) (n c : Nat) (f : Nat → ByteArray) (w : World) (h : Strs w a n f) :
    Calls Try.prog 12 #[.int .i64 x, .slice a n c] w fun e w' => (∃ r : Int, e = .returned (.int .i64 r)) ∧ w' = w := by
  obtain ⟨hm, h⟩ := h
  unfold maxLen at hm
  by_cases hbig : 65536 < (n : Int)
  · go_enter Try.func12, Try.ntmps12
    go_wp2
    go_ret
    exact ⟨⟨_, rfl⟩, rfl⟩
  rcases h with rfl | ⟨b, off, rfl, hc⟩
  · go_enter Try.func12, Try.ntmps12
    go_wp2_with fail
    refine (addLen_any _ _ _).mono ?_
    rintro e w' ⟨⟨r, rfl⟩, rfl⟩
    go_wp2
    go_loop [0, 5] (fun s i => i = .int .i64 0 ∧ ∃ y, s = .int .i64 y) (fun _ i => 0)
    case atStart => exact ⟨rfl, _, rfl⟩
    case round =>
      obtain ⟨rfl, y, rfl⟩ := hrel
      go_wp2
      go_ret
      exact ⟨⟨_, rfl⟩, rfl⟩
  · go_enter Try.func12, Try.ntmps12
    go_wp2_with fail
    refine (addLen_any _ _ _).mono ?_
    rintro e w' ⟨⟨r, rfl⟩, rfl⟩
    go_wp2
    go_loop [0, 5] (fun s i => ∃ k : Nat, k ≤ n ∧ i = .int .i64 k ∧ ∃ y, s = .int .i64 y) (fun _ i => n - (intOf i).toNat)
    case atStart => exact ⟨0, Nat.zero_le _, rfl, _, rfl⟩
    case round =>
      obtain ⟨k, hk, rfl, y, rfl⟩ := hrel
      by_cases hlt : k < n
      · have hcell := hc k hlt
        by_cases hy : 1048576 < y
        · go_wp2
          go_ret
          exact ⟨⟨_, rfl⟩, rfl⟩
        · go_wp2_with fail
          refine (addLen_any _ _ _).mono ?_
          rintro e w'' ⟨⟨r, rfl⟩, rfl⟩
          go_wp2
          go_round
          case rel => exact ⟨k + 1, by omega, by go_num, _, rfl⟩
          case measure => simp [intOf]; omega
      · go_wp2
        go_ret
        exact ⟨⟨_, rfl⟩, rfl⟩

/-- the six cells of a branch at an address -/
structure BrAt (w : World) (b o : Nat) (r : Br) : Prop where
  c0 : w.cell? ⟨b, o, none⟩ = some (.string r.id)
  c1 : w.cell? ⟨b, o + 1, none⟩ = some (.string r.conf)
  c2 : w.cell? ⟨b, o + 2, none⟩ = some (.string r.canc)
  c3 : w.cell? ⟨b, o + 3, none⟩ = some (.slice r.da r.dl r.dc)
  c4 : w.cell? ⟨b, o + 4, none⟩ = some (.string r.st)
  c5 : w.cell? ⟨b, o + 5, none⟩ = some (.int .i64 r.att)

/-- a slice of n branches -/
def Brs (w : World) (a : Option Addr) (n : Nat) (f : Nat → Br) : Prop :=
  n ≤ maxLen ∧ (n = 0 ∨ ∃ b off, a = some ⟨b, off, none⟩ ∧ ∀ i, i < n → BrAt w b (off + i * 6) (f i))

set_option maxHeartbeats 400000 in
theorem addBranches_any (x : Int) (a : Option Addr) (n c : Nat) (f : Nat → Br) (w : World) (h : Brs w a n f) :
    Calls Try.prog 13 #[.int .i64 x, .slice a n c] w fun e w' => (∃ r : Int, e = .returned (.int .i64 r)) ∧ w' = w := by
  obtain ⟨hm, h⟩ := h
  unfold maxLen at hm
  by_cases hbig : 65536 < (n : Int)
  · go_enter Try.func13, Try.ntmps13
    go_wp2
    go_ret
    exact ⟨⟨_, rfl⟩, rfl⟩
  rcases h with rfl | ⟨b, off, rfl, hc⟩
  · go_enter Try.func13, Try.ntmps13
    go_wp2_with fail
    refine (addLen_any _ _ _).mono ?_
    rintro e w' ⟨⟨r, rfl⟩, rfl⟩
    go_wp2
    go_loop [0, 5] (fun s i => i = .int .i64 0 ∧ ∃ y, s = .int .i64 y) (fun _ i => 0)
    case atStart => exact ⟨rfl, _, rfl⟩
    case round =>
      obtain ⟨rfl, y, rfl⟩ := hrel
      go_wp2
      go_ret
      exact ⟨⟨_, rfl⟩, rfl⟩
  · go_enter Try.func13, Try.ntmps13
    go_wp2_with fail
    refine (addLen_any _ _ _).mono ?_
    rintro e w' ⟨⟨r, rfl⟩, rfl⟩
    go_wp2
    go_loop [0, 5] (fun s i => ∃ k : Nat, k ≤ n ∧ i = .int .i64 k ∧ ∃ y, s = .int .i64 y) (fun _ i => n - (intOf i).toNat)
    case atStart => exact ⟨0, Nat.zero_le _, rfl, _, rfl⟩
    case round =>
      obtain ⟨k, hk, rfl, y, rfl⟩ := hrel
      by_cases hlt : k < n
      · obtain ⟨c0, c1, c2, c3, c4, c5⟩ := hc k hlt
        by_cases hy : 1048576 < y
        · go_wp2
          go_ret
          exact ⟨⟨_, rfl⟩, rfl⟩
        · go_wp2_with (go_at_call 11; refine (addLen_any _ _ _).mono ?_; rintro e w'' ⟨⟨r, rfl⟩, rfl⟩)
          go_round
          case rel => exact ⟨k + 1, by omega, by go_num, _, rfl⟩
          case measure => simp [intOf]; omega
      · go_wp2
        go_ret
        exact ⟨⟨_, rfl⟩, rfl⟩
end Go.Proofs.Qxb6617146a
