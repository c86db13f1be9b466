import Derived.Test.Qxb6617146aMarkN
namespace Go.Proofs.Qxb6617146a
open Go.RowKit
set_option linter.unusedVariables false

/-- a sum that stays exact while it is small -/
def SumEnd (e : Ending) (p : Int → Prop) : Prop := ∃ r : Int, e = .returned (.int .i64 r) ∧ 0 ≤ r ∧ p r

theorem addLen_nn (x y : Int) (w : World) (hx : 0 ≤ x) (hy : 0 ≤ y) :
    Calls Try.prog 11 #[.int .i64 x, .int .i64 y] w fun e w' => SumEnd e (fun r => r ≤ 1048576 → r = x + y) ∧ w' = w := by
  by_cases h1 : 1048576 < x
  · go_enter Try.func11, Try.ntmps11
    go_wp2
    go_ret
    exact ⟨⟨_, rfl, by omega, by omega⟩, rfl⟩
  by_cases h2 : 1048576 < y
  · go_enter Try.func11, Try.ntmps11
    go_wp2
    go_ret
    exact ⟨⟨_, rfl, by omega, by omega⟩, rfl⟩
  · go_enter Try.func11, Try.ntmps11
    go_wp2
    go_ret
    exact ⟨⟨_, rfl, by omega, fun _ => rfl⟩, rfl⟩

theorem addStrs_nn (x : Int) (a : Option Addr) (n c : Nat) (f : Nat → ByteArray) (w : World) (h : Strs w a n f) (hx : 0 ≤ x) :
    Calls Try.prog 12 #[.int .i64 x, .slice a n c] w fun e w' => SumEnd e (fun r => r ≤ 1048576 → x ≤ r ∧ ∀ j, j < n → (f j).size ≤ 1048576) ∧ w' = w := by
  obtain ⟨hm, h⟩ := h
  unfold maxLen at hm
  by_cases hbig : 65536 < (n : Int)
  · go_enter Try.func12, Try.ntmps12
    go_wp2
    go_ret
    exact ⟨⟨_, rfl, by omega, by omega⟩, rfl⟩
  · go_enter Try.func12, Try.ntmps12
    go_wp2_with fail
    refine (addLen_nn _ _ _ hx (by omega)).mono ?_
    rintro e w' ⟨⟨r, rfl, hr, hrq⟩, rfl⟩
    have HR := (show Hid _ from hrq); clear hrq
    go_wp2
    go_loop [0, 5] (fun s i => ∃ k : Nat, k ≤ n ∧ i = .int .i64 k ∧ ∃ y : Int, 0 ≤ y ∧ s = .int .i64 y ∧ Hid (y ≤ 1048576 → x ≤ y ∧ ∀ j, j < k → (f j).size ≤ 1048576)) (fun _ i => n - (intOf i).toNat)
    case atStart => exact ⟨0, Nat.zero_le _, rfl, _, hr, rfl, fun h5 => ⟨by have := HR.out h5; omega, fun j hj => by omega⟩⟩
    case round =>
      obtain ⟨k, hk, rfl, y, hy0, rfl, hyq⟩ := hrel
      by_cases hlt : k < n
      · obtain ⟨b, off, rfl, hc⟩ := h.resolve_left (by omega)
        have hcell := hc k hlt
        by_cases hy : 1048576 < y
        · go_wp2
          go_ret
          exact ⟨⟨_, rfl, hy0, by omega⟩, rfl⟩
        · go_wp2_with fail
          refine (addLen_nn _ _ _ hy0 (by omega)).mono ?_
          rintro e w'' ⟨⟨r, rfl, hr2, hq2⟩, rfl⟩
          have HQ := (show Hid _ from hq2); clear hq2
          go_wp2
          go_round
          case rel =>
            refine ⟨k + 1, by omega, by go_num, _, hr2, rfl, fun h5 => ?_⟩
            have q1 := HQ.out h5
            have q2 := hyq.out (by omega)
            refine ⟨by omega, fun j hj => ?_⟩
            by_cases e : j = k
            · subst e; omega
            · exact q2.2 j (by omega)
          case measure => simp [intOf]; omega
      · go_wp2
        go_ret
        have e : k = n := by omega
        subst e
        exact ⟨⟨_, rfl, hy0, hyq.out⟩, rfl⟩

/-- the size of a branch, and of the first n -/
def bsz (r : Br) : Nat := r.id.size + r.conf.size + r.canc.size + r.dl
def gsz (f : Nat → Br) : Nat → Nat
  | 0 => 0
  | n + 1 => gsz f n + bsz (f n)

set_option maxHeartbeats 1000000 in
theorem addBranches_nn (x : Int) (a : Option Addr) (n c : Nat) (f : Nat → Br) (w : World) (h : Brs w a n f) (hx : 0 ≤ x) :
    Calls Try.prog 13 #[.int .i64 x, .slice a n c] w fun e w' => SumEnd e (fun r => r ≤ 1048576 → x ≤ r ∧ n ≤ 65536 ∧ gsz f n ≤ 1048576) ∧ w' = w := by
  obtain ⟨hm, h⟩ := h
  unfold maxLen at hm
  by_cases hbig : 65536 < (n : Int)
  · go_enter Try.func13, Try.ntmps13
    go_wp2
    go_ret
    exact ⟨⟨_, rfl, by omega, by omega⟩, rfl⟩
  · go_enter Try.func13, Try.ntmps13
    go_wp2_with fail
    refine (addLen_nn _ _ _ hx (by omega)).mono ?_
    rintro e w' ⟨⟨r, rfl, hr, hrq⟩, rfl⟩
    have HR := (show Hid _ from hrq); clear hrq
    go_wp2
    go_loop [0, 5] (fun s i => ∃ k : Nat, k ≤ n ∧ i = .int .i64 k ∧ ∃ y : Int, 0 ≤ y ∧ s = .int .i64 y ∧ Hid (y ≤ 1048576 → x ≤ y ∧ (gsz f k : Int) ≤ y)) (fun _ i => n - (intOf i).toNat)
    case atStart => exact ⟨0, Nat.zero_le _, rfl, _, hr, rfl, fun h5 => ⟨by have := HR.out h5; omega, hr⟩⟩
    case round =>
      obtain ⟨k, hk, rfl, y, hy0, rfl, hyg⟩ := hrel
      by_cases hlt : k < n
      · obtain ⟨b, off, rfl, hc⟩ := h.resolve_left (by omega)
        obtain ⟨c0, c1, c2, c3, c4, c5⟩ := hc k hlt
        by_cases hy : 1048576 < y
        · go_wp2
          go_ret
          exact ⟨⟨_, rfl, hy0, by omega⟩, rfl⟩
        · have HG : Hid (x ≤ y ∧ (gsz f k : Int) ≤ y) := hyg.out (by omega)
          clear hyg
          go_wp2_with fail
          refine (addLen_nn _ _ _ hy0 (by omega)).mono ?_
          rintro e w1 ⟨⟨r1, rfl, p1, q1⟩, rfl⟩
          have Q1 := (show Hid _ from q1); clear q1
          go_wp2_with fail
          refine (addLen_nn _ _ _ p1 (by omega)).mono ?_
          rintro e w1 ⟨⟨r2, rfl, p2, q2⟩, rfl⟩
          have Q2 := (show Hid _ from q2); clear q2
          go_wp2_with fail
          refine (addLen_nn _ _ _ p2 (by omega)).mono ?_
          rintro e w1 ⟨⟨r3, rfl, p3, q3⟩, rfl⟩
          have Q3 := (show Hid _ from q3); clear q3
          go_wp2_with fail
          refine (addLen_nn _ _ _ p3 (by omega)).mono ?_
          rintro e w1 ⟨⟨r4, rfl, p4, q4⟩, rfl⟩
          have Q4 := (show Hid _ from q4); clear q4
          go_wp2_with fail
          refine (addLen_nn _ _ _ p4 (by omega)).mono ?_
          rintro e w1 ⟨⟨r5, rfl, p5, q5⟩, rfl⟩
          have Q5 := (show Hid _ from q5); clear q5
          go_wp2
          go_round
          case rel =>
            refine ⟨k + 1, by omega, by go_num, _, p5, rfl, ?_⟩
            have g0 := HG.out
            have q1 := Q1.out
            have q2 := Q2.out
            have q3 := Q3.out
            have q4 := Q4.out
            have q5 := Q5.out
            show r5 ≤ 1048576 → x ≤ r5 ∧ ((gsz f k + bsz (f k) : Nat) : Int) ≤ r5
            unfold bsz
            intro hr5
            omega
          case measure => simp [intOf]; omega
      · go_wp2
        go_ret
        have e : k = n := by omega
        subst e
        exact ⟨⟨_, rfl, hy0, fun h5 => ⟨(hyg.out h5).1, by omega, by have := hyg.out h5; omega⟩⟩, rfl⟩

/-- zzIndex: where it is -/
def IxEnd (e : Ending) (n : Nat) (f : Nat → ByteArray) (s : ByteArray) : Prop :=
  (∃ j : Nat, j < n ∧ f j = s ∧ e = .returned (.int .i64 j)) ∨ (e = .returned (.int .i64 (-1)) ∧ ∀ j, j < n → f j ≠ s)

theorem eq_of_lists {a b : ByteArray} (h : (a.toList == b.toList) = true) : a = b := by
  rw [beq_iff_eq, ByteArray.toList_eq, ByteArray.toList_eq] at h
  exact ByteArray.ext (Array.toList_inj.1 h)
theorem ne_of_lists {a b : ByteArray} (h : (a.toList == b.toList) = false) : a ≠ b := by
  intro e
  subst e
  simp at h

theorem index_at (a : Option Addr) (n c : Nat) (f : Nat → ByteArray) (s : ByteArray) (w : World) (h : Strs w a n f) :
    Calls Try.prog 18 #[.slice a n c, .string s] w fun e w' => IxEnd e n f s ∧ w' = w := by
  obtain ⟨hm, h⟩ := h
  unfold maxLen at hm
  go_enter Try.func18, Try.ntmps18
  go_wp2
  go_loop [5] (fun i => ∃ k : Nat, k ≤ n ∧ i = .int .i64 k ∧ Hid (∀ j, j < k → f j ≠ s)) (fun i => n - (intOf i).toNat)
  case atStart => exact ⟨0, Nat.zero_le _, rfl, fun j hj => by omega⟩
  case round =>
    obtain ⟨k, hk, rfl, hh⟩ := hrel
    by_cases hlt : k < n
    · obtain ⟨b, off, rfl, hc⟩ := h.resolve_left (by omega)
      have hcell := hc k hlt
      go_wp2
      · go_ret
        exact ⟨.inl ⟨k, hlt, eq_of_lists ‹_›, rfl⟩, rfl⟩
      · go_round
        case rel =>
          refine ⟨k + 1, by omega, by go_num, fun j hj => ?_⟩
          by_cases e : j = k
          · subst e; exact ne_of_lists ‹_›
          · exact hh.out j (by omega)
        case measure => simp [intOf]; omega
    · go_wp2
      go_ret
      exact ⟨.inr ⟨rfl, fun j hj => hh.out j (by omega)⟩, rfl⟩
end Go.Proofs.Qxb6617146a
