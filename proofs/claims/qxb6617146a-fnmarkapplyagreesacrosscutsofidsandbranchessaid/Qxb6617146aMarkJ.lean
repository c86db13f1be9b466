import Derived.Test.Qxb6617146aMarkI
import Derived.Test.Qxb6617146aMarkN
namespace Go.Proofs.Qxb6617146a
open Go.RowKit
set_option linter.unusedVariables false

set_option maxHeartbeats 1000000 in
set_option maxRecDepth 100000 in
theorem law4_big (gid st : ByteArray) (a a' : Option Addr) (n c n' c' : Nat) (i j : Int) (f : Nat → ByteArray) (r : Nat → Br) (w : World) (h : Strs w a n f) (h' : Brs w a' n' r)
    (hbig : ¬ ((gid.size : Int) ≤ 65536 ∧ (n : Int) ≤ 65536 ∧ (st.size : Int) ≤ 65536 ∧ (n' : Int) ≤ 65536)) :
    Calls Try.prog 4 #[.string gid, .slice a n c, .string st, .slice a' n' c', .int .i64 i, .int .i64 j] w fun e w' => e = .returned (.bool true) ∧ Below w.heap.size w w' := by
  by_cases c1 : 65536 < (gid.size : Int)
  · clear hbig
    go_enter Try.func4, Try.ntmps4
    go_wp2_with fail
    refine (zzBytes10_any gid st a a' n c n' c' f r _ _ _ h h').mono ?_
    rintro e w' ⟨⟨x, rfl⟩, rfl⟩
    cases x
    all_goals (go_wp2; go_ret; exact ⟨rfl, Below.refl _ _⟩)
  by_cases c2 : 65536 < (n : Int)
  · clear hbig
    go_enter Try.func4, Try.ntmps4
    go_wp2_with fail
    refine (zzBytes10_any gid st a a' n c n' c' f r _ _ _ h h').mono ?_
    rintro e w' ⟨⟨x, rfl⟩, rfl⟩
    cases x
    all_goals (go_wp2; go_ret; exact ⟨rfl, Below.refl _ _⟩)
  by_cases c3 : 65536 < (st.size : Int)
  · clear hbig
    go_enter Try.func4, Try.ntmps4
    go_wp2_with fail
    refine (zzBytes10_any gid st a a' n c n' c' f r _ _ _ h h').mono ?_
    rintro e w' ⟨⟨x, rfl⟩, rfl⟩
    cases x
    all_goals (go_wp2; go_ret; exact ⟨rfl, Below.refl _ _⟩)
  have c4 : 65536 < (n' : Int) := by omega
  clear hbig
  go_enter Try.func4, Try.ntmps4
  go_wp2_with fail
  refine (zzBytes10_any gid st a a' n c n' c' f r _ _ _ h h').mono ?_
  rintro e w' ⟨⟨x, rfl⟩, rfl⟩
  cases x
  all_goals (go_wp2; go_ret; exact ⟨rfl, Below.refl _ _⟩)

set_option maxHeartbeats 1000000 in
set_option maxRecDepth 100000 in
theorem law4_out (gid st : ByteArray) (a a' : Option Addr) (n c n' c' : Nat) (i j : Int) (f : Nat → ByteArray) (r : Nat → Br) (w : World) (h : Strs w a n f) (h' : Brs w a' n' r)
    (hnc : n ≤ c) (hnil : a = none → n = 0)
    (s1 : (gid.size : Int) ≤ 65536) (s2 : (n : Int) ≤ 65536) (s3 : (st.size : Int) ≤ 65536) (s4 : (n' : Int) ≤ 65536)
    (hout : Hid (¬ (0 ≤ i ∧ i ≤ n ∧ 0 ≤ j ∧ j ≤ n'))) :
    Calls Try.prog 4 #[.string gid, .slice a n c, .string st, .slice a' n' c', .int .i64 i, .int .i64 j] w fun e w' => e = .returned (.bool true) ∧ Below w.heap.size w w' := by
  have hmk := make28 n (by omega)
  have hne := neNil28
  obtain ⟨wi, hcp, hS2, hB2, hz2⟩ := copy28 w a n c f h (by omega)
  have HI : Hid (Strs wi (some ⟨w.heap.size, 0, none⟩) n f ∧ Below w.heap.size w wi ∧ wi.heap.size = w.heap.size + 1 ∧ (a = none → n = 0)) := ⟨hS2, hB2, hz2, hnil⟩
  clear hS2 hB2 hz2 hnil
  go_enter Try.func4, Try.ntmps4
  go_wp2_with fail
  refine (zzBytes10_any gid st a a' n c n' c' f r _ _ _ h h').mono ?_
  rintro e w' ⟨⟨x, rfl⟩, rfl⟩
  cases x
  · go_wp2; go_ret; exact ⟨rfl, Below.refl _ _⟩
  go_upto_if 49 with fail
  go_cut [1, 13] (fun s z W2 => Ids w' W2 s n f)
  case first =>
    cases a with
    | none =>
      go_wp2_with fail
      go_meet
      case rel => exact ⟨Below.refl _ _, none, c, rfl, hnc, h, fun x hx => by cases hx⟩
    | some x =>
      go_wp2_with fail
      go_meet
      case rel => exact ⟨HI.out.2.1, _, n, rfl, Nat.le_refl _, HI.out.1, fun x hx => by cases hx; exact ⟨rfl, by rw [HI.out.2.2.1]; omega⟩⟩
  case rest =>
    obtain ⟨hB0, A, C, rfl, hAC, hSA, hAx⟩ := hcut
    clear hAx hmk hne hcp HI
    have HB0 := hide hB0
    have h2 := h'.later hB0
    clear hB0
    go_wp2_with fail
    refine (addLen_any _ _ _).mono ?_
    rintro e wc ⟨⟨r1, rfl⟩, rfl⟩
    go_wp2_with fail
    refine (addLen_any _ _ _).mono ?_
    rintro e wc ⟨⟨r2, rfl⟩, rfl⟩
    go_wp2_with fail
    refine (addStrs_any _ A n C f _ hSA).mono ?_
    rintro e wc ⟨⟨r3, rfl⟩, rfl⟩
    go_wp2_with fail
    refine (addBranches_any _ a' n' c' r _ h2).mono ?_
    rintro e wc ⟨⟨r4, rfl⟩, rfl⟩
    by_cases hsum : 1048576 < r4
    · go_wp2
      go_ret
      exact ⟨rfl, HB0⟩
    by_cases d1 : i < 0
    · go_wp2
      go_ret
      exact ⟨rfl, HB0⟩
    by_cases d2 : (n : Int) < i
    · go_wp2
      go_ret
      exact ⟨rfl, HB0⟩
    by_cases d3 : j < 0
    · go_wp2
      go_ret
      exact ⟨rfl, HB0⟩
    have d4 : (n' : Int) < j := by have := hout.out; omega
    go_wp2
    go_ret
    exact ⟨rfl, HB0⟩
end Go.Proofs.Qxb6617146a
