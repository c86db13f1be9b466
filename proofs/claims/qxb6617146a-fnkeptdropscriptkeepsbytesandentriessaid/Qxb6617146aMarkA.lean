import Derived.Test.Qxb6617146aKeyWalks
import Derived.Deep.QuietTactic
import Derived.BigQuiet
namespace Go.Proofs.Qxb6617146a
open Go.RowKit
set_option linter.unusedVariables false

/-- is s among the first n strings of f? -/
def has (f : Nat → ByteArray) (s : ByteArray) : Nat → Bool
  | 0 => false
  | n + 1 => has f s n || (f n).toList == s.toList

theorem has_hit {f : Nat → ByteArray} {s : ByteArray} {k n : Nat} (h : k < n) (e : ((f k).toList == s.toList) = true) : has f s n = true := by
  induction n with
  | zero => omega
  | succ n ih =>
    simp only [has]
    by_cases hk : k = n
    · subst hk; simp [e]
    · simp [ih (by omega)]

theorem has_miss {f : Nat → ByteArray} {s : ByteArray} {k : Nat} (h : Hid (has f s k = false)) (e : ((f k).toList == s.toList) = false) : Hid (has f s (k + 1) = false) := by
  show has f s (k + 1) = false
  simp only [has, h.out, e, Bool.or_false]
theorem beq_swap {a b : List UInt8} {r : Bool} (h : (a == b) = r) : (b == a) = r := by
  rw [← h, Bool.eq_iff_iff, beq_iff_eq, beq_iff_eq]; exact ⟨Eq.symm, Eq.symm⟩

/-- what the slice value at a reads as: the strings f 0 .. f (n-1) -/
def Strs (w : World) (a : Option Addr) (n : Nat) (f : Nat → ByteArray) : Prop :=
  n ≤ maxLen ∧ (n = 0 ∨ ∃ b off, a = some ⟨b, off, none⟩ ∧ ∀ i, i < n → w.cell? ⟨b, off + i, none⟩ = some (.string (f i)))

theorem index_any (a : Option Addr) (n c : Nat) (f : Nat → ByteArray) (s : ByteArray) (w : World) (h : Strs w a n f) :
    Calls Try.prog 18 #[.slice a n c, .string s] w fun e w' => (∃ r : Int, e = .returned (.int .i64 r) ∧ (0 ≤ r ↔ has f s n = true)) ∧ w' = w := by
  obtain ⟨hm, h⟩ := h
  unfold maxLen at hm
  rcases h with rfl | ⟨b, off, rfl, hc⟩
  · go_enter Try.func18, Try.ntmps18
    go_wp2
    go_loop [5] (fun i => i = .int .i64 0) (fun i => 0)
    case atStart => rfl
    case round =>
      subst hrel
      go_wp2
      go_ret
      exact ⟨⟨_, rfl, by simp [has]⟩, rfl⟩
  · go_enter Try.func18, Try.ntmps18
    go_wp2
    go_loop [5] (fun i => ∃ k : Nat, k ≤ n ∧ i = .int .i64 k ∧ Hid (has f s k = false)) (fun i => n - (intOf i).toNat)
    case atStart => exact ⟨0, Nat.zero_le _, rfl, rfl⟩
    case round =>
      obtain ⟨k, hk, rfl, hh⟩ := hrel
      by_cases hlt : k < n
      · have hcell := hc k hlt
        go_wp2
        · go_ret
          exact ⟨⟨_, rfl, by simp [has_hit hlt ‹((f k).toList == s.toList) = true›]⟩, rfl⟩
        · go_round
          case rel => exact ⟨k + 1, by omega, by go_num, has_miss hh ‹_›⟩
          case measure => simp [intOf]; omega
      · go_wp2
        go_ret
        have e : n = k := by omega
        exact ⟨⟨_, rfl, by rw [e, hh.out]; simp⟩, rfl⟩

/-- slices.Index -/
theorem sIndex_any (a : Option Addr) (n c : Nat) (f : Nat → ByteArray) (s : ByteArray) (w : World) (h : Strs w a n f) :
    Calls Try.prog 34 #[.slice a n c, .string s] w fun e w' => (∃ r : Int, e = .returned (.int .i64 r) ∧ (0 ≤ r ↔ has f s n = true)) ∧ w' = w := by
  obtain ⟨hm, h⟩ := h
  unfold maxLen at hm
  rcases h with rfl | ⟨b, off, rfl, hc⟩
  · go_enter Try.func34, Try.ntmps34
    go_wp2
    go_loop [8] (fun i => i = .int .i64 0) (fun i => 0)
    case atStart => rfl
    case round =>
      subst hrel
      go_wp2
      go_ret
      exact ⟨⟨_, rfl, by simp [has]⟩, rfl⟩
  · go_enter Try.func34, Try.ntmps34
    go_wp2
    go_loop [8] (fun i => ∃ k : Nat, k ≤ n ∧ i = .int .i64 k ∧ Hid (has f s k = false)) (fun i => n - (intOf i).toNat)
    case atStart => exact ⟨0, Nat.zero_le _, rfl, rfl⟩
    case round =>
      obtain ⟨k, hk, rfl, hh⟩ := hrel
      by_cases hlt : k < n
      · have hcell := hc k hlt
        go_wp2
        · go_ret
          exact ⟨⟨_, rfl, by simp [has_hit hlt (beq_swap ‹(s.toList == (f k).toList) = true›)]⟩, rfl⟩
        · go_round
          case rel => exact ⟨k + 1, by omega, by go_num, has_miss hh (beq_swap ‹(s.toList == (f k).toList) = false›)⟩
          case measure => simp [intOf]; omega
      · go_wp2
        go_ret
        have e : n = k := by omega
        exact ⟨⟨_, rfl, by rw [e, hh.out]; simp⟩, rfl⟩

/-- slices.Contains -/
theorem contains_any (a : Option Addr) (n c : Nat) (f : Nat → ByteArray) (s : ByteArray) (w : World) (h : Strs w a n f) :
    Calls Try.prog 32 #[.slice a n c, .string s] w fun e w' => e = .returned (.bool (has f s n)) ∧ w' = w := by
  go_enter Try.func32, Try.ntmps32
  go_wp2_with fail
  refine (sIndex_any a n c f s _ h).mono ?_
  rintro e w' ⟨⟨r, rfl, hr⟩, rfl⟩
  have hr' : Hid (decide (0 ≤ r) = has f s n) := by
    show _ = _
    rw [Bool.eq_iff_iff]; simp [hr]
  clear hr
  go_wp2
  go_ret
  exact ⟨by rw [← hr'.out]; rfl, rfl⟩

/-- the bytes at a can be read -/
def Bytes (w : World) (a : Option Addr) (n : Nat) : Prop :=
  n ≤ maxLen ∧ (n = 0 ∨ ∃ b off, a = some ⟨b, off, none⟩ ∧ ∀ i, i < n → ∃ x, w.cell? ⟨b, off + i, none⟩ = some (.int .u8 x))

/-- zzBytesEq of one and the same slice -/
theorem bytesEq_same (a : Option Addr) (n c : Nat) (w : World) (h : Bytes w a n) :
    Calls Try.prog 30 #[.slice a n c, .slice a n c] w fun e w' => e = .returned (.bool true) ∧ ∃ q, w' = w.drewN q := by
  obtain ⟨hm, h⟩ := h
  unfold maxLen at hm
  rcases h with rfl | ⟨b, off, rfl, hc⟩
  · go_enter Try.func30, Try.ntmps30
    go_wp2
    go_loop [5] (fun i => i = .int .i64 0) (fun i => 0)
    case atStart => rfl
    case round =>
      subst hrel
      go_wp2
      go_ret
      exact ⟨rfl, 0, rfl⟩
  · go_enter Try.func30, Try.ntmps30
    go_wp2
    go_loopw [5] (fun i w' => ∃ k q : Nat, k ≤ n ∧ i = .int .i64 k ∧ w' = w.drewN q) (fun i _ => n - (intOf i).toNat)
    case atStart => exact ⟨0, 0, Nat.zero_le _, rfl, rfl⟩
    case round =>
      obtain ⟨k, q, hk, rfl, rfl⟩ := hrel
      by_cases hlt : k < n
      · obtain ⟨x, hcell⟩ := hc k hlt
        go_wp2
        go_quiet (fail)
        go_wp2
        go_roundw
        case rel => exact ⟨k + 1, _, by omega, by go_num, rfl⟩
        case measure => simp [intOf]; omega
      · go_wp2
        go_ret
        exact ⟨rfl, _, rfl⟩

end Go.Proofs.Qxb6617146a
