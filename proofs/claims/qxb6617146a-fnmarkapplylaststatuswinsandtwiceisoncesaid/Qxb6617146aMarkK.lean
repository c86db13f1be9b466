import Derived.Test.Qxb6617146aMarkM
import Derived.Test.Qxb6617146aMarkN
namespace Go.Proofs.Qxb6617146a
open Go.RowKit
set_option linter.unusedVariables false

set_option maxHeartbeats 1000000 in
set_option maxRecDepth 100000 in
theorem zzBytes19_any (g st st' : ByteArray) (a a' : Option Addr) (n c n' c' : Nat) (f : Nat → ByteArray) (r : Nat → Br) (w : World) (h : Strs w a n f) (h' : Brs w a' n' r) :
    Calls Try.prog 19 #[.string g, .slice a n c, .string st, .string st', .slice a' n' c'] w fun e w' => BoolEnd e ∧ w' = w := by
  obtain ⟨hm, h⟩ := h
  unfold maxLen at hm
  obtain ⟨hm', h'⟩ := h'
  unfold maxLen at hm'
  go_enter Try.func19, Try.ntmps19
  go_wp2
  any_goals (go_ret; exact ⟨⟨_, rfl⟩, rfl⟩)
  go_loop [11, 12] (fun s i => ∃ k : Nat, k ≤ n ∧ i = .int .i64 k ∧ ∃ y : Int, 0 ≤ y ∧ y ≤ 1048576 ∧ s = .int .i64 y) (fun _ i => n - (intOf i).toNat)
  case atStart => exact ⟨0, Nat.zero_le _, rfl, _, by omega, by omega, rfl⟩
  case round =>
    obtain ⟨k, hk, rfl, y, hy0, hy1, rfl⟩ := hrel
    by_cases hlt : k < n
    · obtain ⟨b, off, rfl, hc⟩ := h.resolve_left (by omega)
      have hcell := hc k hlt
      go_wp2
      any_goals (go_ret; exact ⟨⟨_, rfl⟩, rfl⟩)
      go_round
      case rel => exact ⟨k + 1, by omega, by go_num, _, by omega, by omega, rfl⟩
      case measure => simp [intOf]; omega
    · go_wp2
      any_goals (go_ret; exact ⟨⟨_, rfl⟩, rfl⟩)
      go_loop [11, 13] (fun s i => ∃ k : Nat, k ≤ n' ∧ i = .int .i64 k ∧ ∃ y : Int, 0 ≤ y ∧ y ≤ 1048576 ∧ s = .int .i64 y) (fun _ i => n' - (intOf i).toNat)
      case atStart => exact ⟨0, Nat.zero_le _, rfl, _, by omega, by omega, rfl⟩
      case round =>
        obtain ⟨k', hk', rfl, y', hy0', hy1', rfl⟩ := hrel
        by_cases hlt' : k' < n'
        · obtain ⟨b, off, rfl, hc⟩ := h'.resolve_left (by omega)
          obtain ⟨c0, c1, c2, c3, c4, c5⟩ := hc k' hlt'
          go_wp2
          any_goals (go_ret; exact ⟨⟨_, rfl⟩, rfl⟩)
          go_round
          case rel => exact ⟨k' + 1, by omega, by go_num, _, by omega, by omega, rfl⟩
          case measure => simp [intOf]; omega
        · go_wp2
          go_ret
          exact ⟨⟨_, rfl⟩, rfl⟩

set_option maxHeartbeats 1000000 in
set_option maxRecDepth 100000 in
theorem law5_big (gid st1 st : ByteArray) (a a' : Option Addr) (n c n' c' : Nat) (f : Nat → ByteArray) (r : Nat → Br) (w : World) (h : Strs w a n f) (h' : Brs w a' n' r)
    (hbig : ¬ ((gid.size : Int) ≤ 65536 ∧ (n : Int) ≤ 65536 ∧ (st1.size : Int) ≤ 65536 ∧ (st.size : Int) ≤ 65536 ∧ (n' : Int) ≤ 65536)) :
    Calls Try.prog 5 #[.string gid, .slice a n c, .string st1, .string st, .slice a' n' c'] w fun e w' => e = .returned (.bool true) ∧ Below w.heap.size w w' := by
  by_cases c1 : 65536 < (gid.size : Int)
  · clear hbig
    go_enter Try.func5, Try.ntmps5
    go_wp2_with fail
    refine (zzBytes19_any gid st1 st a a' n c n' c' f r _ h h').mono ?_
    rintro e w' ⟨⟨x, rfl⟩, rfl⟩
    cases x
    all_goals (go_wp2; go_ret; exact ⟨rfl, Below.refl _ _⟩)
  by_cases c2 : 65536 < (n : Int)
  · clear hbig
    go_enter Try.func5, Try.ntmps5
    go_wp2_with fail
    refine (zzBytes19_any gid st1 st a a' n c n' c' f r _ h h').mono ?_
    rintro e w' ⟨⟨x, rfl⟩, rfl⟩
    cases x
    all_goals (go_wp2; go_ret; exact ⟨rfl, Below.refl _ _⟩)
  by_cases c3 : 65536 < (st1.size : Int)
  · clear hbig
    go_enter Try.func5, Try.ntmps5
    go_wp2_with fail
    refine (zzBytes19_any gid st1 st a a' n c n' c' f r _ h h').mono ?_
    rintro e w' ⟨⟨x, rfl⟩, rfl⟩
    cases x
    all_goals (go_wp2; go_ret; exact ⟨rfl, Below.refl _ _⟩)
  by_cases c4 : 65536 < (st.size : Int)
  · clear hbig
    go_enter Try.func5, Try.ntmps5
    go_wp2_with fail
    refine (zzBytes19_any gid st1 st a a' n c n' c' f r _ h h').mono ?_
    rintro e w' ⟨⟨x, rfl⟩, rfl⟩
    cases x
    all_goals (go_wp2; go_ret; exact ⟨rfl, Below.refl _ _⟩)
  · have c5 : 65536 < (n' : Int) := by omega
    clear hbig
    go_enter Try.func5, Try.ntmps5
    go_wp2_with fail
    refine (zzBytes19_any gid st1 st a a' n c n' c' f r _ h h').mono ?_
    rintro e w' ⟨⟨x, rfl⟩, rfl⟩
    cases x
    all_goals (go_wp2; go_ret; exact ⟨rfl, Below.refl _ _⟩)

theorem mk_last (f : Nat → ByteArray) (n : Nat) (s1 s2 : ByteArray) (y : Br) : mk f n s2 (mk f n s1 y) = mk f n s2 y := by
  unfold mk
  cases h : has f y.id n <;> simp [Br.at, h]

/-- the ids as the law holds them behind its copy -/
structure Ids5 (w w2 : World) (v : Value) (n : Nat) (f : Nat → ByteArray) : Prop where
  below : Below w.heap.size w w2
  has : ∃ A C, v = .slice A n C ∧ n ≤ C ∧ Strs w2 A n f ∧ ∀ x, A = some x → x.block = w.heap.size ∧ w.heap.size < w2.heap.size

set_option maxHeartbeats 1000000 in
set_option maxRecDepth 100000 in
theorem law5_main (gid st1 st : ByteArray) (a a' : Option Addr) (n c n' c' : Nat) (f : Nat → ByteArray) (r : Nat → Br) (w : World) (h : Strs w a n f) (h' : Brs w a' n' r)
    (hd : ∀ p, p < n' → Bytes w (r p).da (r p).dl) (hnc : n ≤ c) (hnc' : n' ≤ c') (hnil : a = none → n = 0)
    (s1 : (gid.size : Int) ≤ 65536) (s2 : (n : Int) ≤ 65536) (s3 : (st1.size : Int) ≤ 65536) (s5 : (st.size : Int) ≤ 65536) (s4 : (n' : Int) ≤ 65536) :
    Calls Try.prog 5 #[.string gid, .slice a n c, .string st1, .string st, .slice a' n' c'] w fun e w' => e = .returned (.bool true) ∧ Below w.heap.size w w' := by
  have hmk := make28 n (by omega)
  have hne := neNil28
  obtain ⟨wi, hcp, hS2, hB2, hz2⟩ := copy28 w a n c f h (by omega)
  have HI : Hid (Strs wi (some ⟨w.heap.size, 0, none⟩) n f ∧ Below w.heap.size w wi ∧ wi.heap.size = w.heap.size + 1 ∧ (a = none → n = 0)) := ⟨hS2, hB2, hz2, hnil⟩
  clear hS2 hB2 hz2 hnil
  go_enter Try.func5, Try.ntmps5
  go_wp2_with fail
  refine (zzBytes19_any gid st1 st a a' n c n' c' f r _ h h').mono ?_
  rintro e w' ⟨⟨x, rfl⟩, rfl⟩
  cases x
  · go_wp2; go_ret; exact ⟨rfl, Below.refl _ _⟩
  go_upto_if 49 with fail
  go_cut [1, 11] (fun s z W2 => Ids5 w' W2 s n f)
  case first =>
    cases a with
    | none =>
      go_wp2_with fail
      go_meet
      case rel => exact ⟨Below.refl _ _, none, c, rfl, hnc, h, fun x hx => by cases hx⟩
    | some x =>
      go_wp2_with fail
      go_meet
      case rel => exact ⟨HI.out.2.1, _, n, rfl, Nat.le_refl _, HI.out.1, fun x hx => by cases hx; exact ⟨rfl, by rw [HI.out.2.2.1]; omega⟩⟩
  case rest =>
    obtain ⟨hB0, A, C, rfl, hAC, hSA, hAx⟩ := hcut
    have S0 : St w' wc wc.heap.size A n f := ⟨hB0, hSA, fun x hx => by have := hAx x hx; omega, hB0.size, Nat.le_refl _⟩
    obtain ⟨B, hBe, S⟩ : ∃ B, Hid (wc.heap.size = B) ∧ St w' wc B A n f := ⟨_, rfl, S0⟩
    clear S0 hAx hSA hB0 hmk hne hcp HI
    go_wp2_with fail
    refine (addLen_any _ _ _).mono ?_
    rintro e wc ⟨⟨r1, rfl⟩, rfl⟩
    go_wp2_with fail
    refine (addLen_any _ _ _).mono ?_
    rintro e wc ⟨⟨r2, rfl⟩, rfl⟩
    go_wp2_with fail
    refine (addLen_any _ _ _).mono ?_
    rintro e wc ⟨⟨r5, rfl⟩, rfl⟩
    go_wp2_with fail
    refine (addStrs_any _ A n C f _ S.strs).mono ?_
    rintro e wc ⟨⟨r3, rfl⟩, rfl⟩
    go_wp2_with fail
    refine (addBranches_any _ a' n' c' r _ (h'.later S.below)).mono ?_
    rintro e wc ⟨⟨r4, rfl⟩, rfl⟩
    by_cases hsum : 1048576 < r4
    · go_wp2
      go_ret
      exact ⟨rfl, S.below⟩
    -- both
    go_wp2_with fail
    refine (toTxn_ex a' n' c' r _ (h'.later S.below) (by omega)).mono ?_
    rintro e W1 ⟨a1, g1, rfl, O1, b1, p1⟩
    have hBg1 : B ≤ g1 := Nat.le_trans S.size p1
    have S1 := S.txn b1
    clear S b1
    go_wp2_with fail
    refine (zzApply_any gid st1 A n C f a1 g1 n' n' r _ S1.strs O1 (S1.offs hBg1) (by omega)).mono ?_
    rintro e W2 ⟨rfl, O1', k2⟩
    have S2 := S1.app k2 hBg1
    clear S1 O1
    go_wp2_with fail
    refine (zzApply_any gid st A n C f a1 g1 n' n' _ _ S2.strs O1' (S2.offs hBg1) (by omega)).mono ?_
    rintro e W3 ⟨rfl, O1b, k3⟩
    have S3 := S2.app k3 hBg1
    clear S2 O1'
    -- once
    go_wp2_with fail
    refine (toTxn_ex a' n' c' r _ (h'.later S3.below) (by omega)).mono ?_
    rintro e W4 ⟨a2, g2, rfl, O2, b4, p4⟩
    have hBg2 : B ≤ g2 := Nat.le_trans S3.size p4
    have S4 := S3.txn b4
    have d12 := hide (O1b.past p4)
    have O1c := O1b.later b4
    clear S3 O1b
    go_wp2_with fail
    refine (zzApply_any gid st A n C f a2 g2 n' n' r _ S4.strs O2 (S4.offs hBg2) (by omega)).mono ?_
    rintro e W5 ⟨rfl, O2b, k5⟩
    have S5 := S4.app k5 hBg2
    have O1d := O1c.keep' k5 d12.out
    clear S4 O2 O1c k5 d12
    -- twice
    go_wp2_with fail
    refine (toTxn_ex a' n' c' r _ (h'.later S5.below) (by omega)).mono ?_
    rintro e W6 ⟨a3, g3, rfl, O3, b6, p6⟩
    have hBg3 : B ≤ g3 := Nat.le_trans S5.size p6
    have S6 := S5.txn b6
    have d13 := hide (O1d.past p6)
    have d23 := hide (O2b.past p6)
    have O1e := O1d.later b6
    have O2e := O2b.later b6
    clear S5 O1d O2b
    go_wp2_with fail
    refine (zzApply_any gid st A n C f a3 g3 n' n' r _ S6.strs O3 (S6.offs hBg3) (by omega)).mono ?_
    rintro e W7 ⟨rfl, O3b, k7⟩
    have S7 := S6.app k7 hBg3
    have O1f := O1e.keep' k7 d13.out
    have O2f := O2e.keep' k7 d23.out
    clear S6 O3 O1e O2e k7
    go_wp2_with fail
    refine (zzApply_any gid st A n C f a3 g3 n' n' _ _ S7.strs O3b (S7.offs hBg3) (by omega)).mono ?_
    rintro e W ⟨rfl, O3h, k8⟩
    have S9 := S7.app k8 hBg3
    have O1h := O1f.keep' k8 d13.out
    have O2h := O2f.keep' k8 d23.out
    clear S7 O3b O1f O2f k8 d13 d23 hBg1 hBg2 hBg3 b6 p6 b4 p4 k2 k3 p1
    go_wp2
    go_loopw [16] (fun p wr => ∃ k : Nat, k ≤ n' ∧ p = .int .i64 k ∧ Below W.heap.size W wr) (fun p _ => n' - (intOf p).toNat)
    case atStart => exact ⟨0, Nat.zero_le _, rfl, Below.refl _ _⟩
    case round =>
      obtain ⟨k, hk, rfl, hBr⟩ := hrel
      by_cases hlt : k < n'
      · obtain ⟨s, hs⟩ : ∃ s, Hid (s = stOf f n st (r k)) := ⟨_, rfl⟩
        obtain ⟨rfl, x1⟩ := O1h.row hlt hBr (y := r k) (s := s) (by rw [hs.out, mk_last]; exact mk_at f n st (r k))
        obtain ⟨rfl, x2⟩ := O2h.row hlt hBr (y := r k) (s := s) (by rw [hs.out]; exact mk_at f n st (r k))
        obtain ⟨rfl, x3⟩ := O3h.row hlt hBr (y := r k) (s := s) (by rw [hs.out, mk_last]; exact mk_at f n st (r k))
        obtain ⟨b, off, rfl, xb⟩ := (h'.later S9.below).row hlt hBr
        have hby : Bytes wr (r k).da (r k).dl := ((hd k hlt).later (S9.below)).later hBr
        have hSt : Strs wr A n f := S9.strs.later hBr
        have XB : Hid (Six wr b (off + k * 6) (r k) (r k).st) := xb
        clear xb O1h O2h O3h
        have hba : Below wr.heap.size wr wr.drew := (Below.refl _ _).drew
        have H0 : Held wr g1 g2 g3 (k * 6) (k * 6) (k * 6) (r k) s s s wr.drew := Held.mk (x1.later hba) (x2.later hba) (x3.later hba) (hby.later hba) hba
        clear x1 x2 x3
        go_upto_region 29 with fail
        go_region_held3 (fun wx => wx.cell? ⟨g1, k * 6, none⟩ = some (.string (r k).id) ∧ wx.cell? ⟨g1, k * 6 + 1, none⟩ = some (.string (r k).conf) ∧ wx.cell? ⟨g1, k * 6 + 2, none⟩ = some (.string (r k).canc) ∧ wx.cell? ⟨g1, k * 6 + 3, none⟩ = some (.slice (r k).da (r k).dl (r k).dc) ∧ wx.cell? ⟨g1, k * 6 + 4, none⟩ = some (.string s) ∧ wx.cell? ⟨g1, k * 6 + 5, none⟩ = some (.int .i64 (r k).att) ∧ wx.cell? ⟨g2, k * 6, none⟩ = some (.string (r k).id) ∧ wx.cell? ⟨g2, k * 6 + 1, none⟩ = some (.string (r k).conf) ∧ wx.cell? ⟨g2, k * 6 + 2, none⟩ = some (.string (r k).canc) ∧ wx.cell? ⟨g2, k * 6 + 3, none⟩ = some (.slice (r k).da (r k).dl (r k).dc) ∧ wx.cell? ⟨g2, k * 6 + 4, none⟩ = some (.string s) ∧ wx.cell? ⟨g2, k * 6 + 5, none⟩ = some (.int .i64 (r k).att) ∧ wx.cell? ⟨g3, k * 6, none⟩ = some (.string (r k).id) ∧ wx.cell? ⟨g3, k * 6 + 1, none⟩ = some (.string (r k).conf) ∧ wx.cell? ⟨g3, k * 6 + 2, none⟩ = some (.string (r k).canc) ∧ wx.cell? ⟨g3, k * 6 + 3, none⟩ = some (.slice (r k).da (r k).dl (r k).dc) ∧ wx.cell? ⟨g3, k * 6 + 4, none⟩ = some (.string s) ∧ wx.cell? ⟨g3, k * 6 + 5, none⟩ = some (.int .i64 (r k).att) ∧ Bytes wx (r k).da (r k).dl ∧ Below wr.heap.size wr wx) (first | exact H0 | exact Held.later (w := _) (by assumption) hb)
          (first
            | (go_at_call 16; refine (branchEq_agg (r k) s _ ?_).mono ?_; (go_split_ands; assumption); rintro e w1 ⟨rfl, hb⟩))
        have hH : Held wr g1 g2 g3 (k * 6) (k * 6) (k * 6) (r k) s s s w1 := by assumption
        obtain ⟨_, x2, _, hby1, hB1⟩ := hH.out
        have H1 : Held2 wr g2 b (k * 6) (off + k * 6) (r k) s (r k).st w1.drew := (Held2.mk x2 (XB.out.later hB1) hby1 hB1).drew
        clear hH hba H0 x2 hby1 hB1
        go_upto_region 31 with fail
        go_region_held3 (fun wx => wx.cell? ⟨g2, k * 6, none⟩ = some (.string (r k).id) ∧ wx.cell? ⟨g2, k * 6 + 1, none⟩ = some (.string (r k).conf) ∧ wx.cell? ⟨g2, k * 6 + 2, none⟩ = some (.string (r k).canc) ∧ wx.cell? ⟨g2, k * 6 + 3, none⟩ = some (.slice (r k).da (r k).dl (r k).dc) ∧ wx.cell? ⟨g2, k * 6 + 4, none⟩ = some (.string s) ∧ wx.cell? ⟨g2, k * 6 + 5, none⟩ = some (.int .i64 (r k).att) ∧ wx.cell? ⟨b, off + k * 6, none⟩ = some (.string (r k).id) ∧ wx.cell? ⟨b, off + k * 6 + 1, none⟩ = some (.string (r k).conf) ∧ wx.cell? ⟨b, off + k * 6 + 2, none⟩ = some (.string (r k).canc) ∧ wx.cell? ⟨b, off + k * 6 + 3, none⟩ = some (.slice (r k).da (r k).dl (r k).dc) ∧ wx.cell? ⟨b, off + k * 6 + 4, none⟩ = some (.string (r k).st) ∧ wx.cell? ⟨b, off + k * 6 + 5, none⟩ = some (.int .i64 (r k).att) ∧ Bytes wx (r k).da (r k).dl ∧ Below wr.heap.size wr wx) (first | exact H1 | exact Held2.later (w := _) (by assumption) hb2)
          (first
            | (go_at_call 17; refine (sameBut_agg (r k) s _ ?_).mono ?_; (go_split_ands; assumption); rintro e w2 ⟨rfl, hb2⟩))
        have hH : Held2 wr g2 b (k * 6) (off + k * 6) (r k) s (r k).st w2 := by assumption
        obtain ⟨⟨p0, p1, p2, p3, p4, p5⟩, ⟨t0, t1, t2, t3, t4, t5⟩, _, hB2⟩ := hH.out
        have hS2 := hSt.later hB2
        clear hH H1
        have hst : (has f (r k).id n = true ∧ s = st) ∨ (has f (r k).id n = false ∧ s = (r k).st) := by
          rw [hs.out]; unfold stOf; cases has f (r k).id n <;> simp
        have hBW := hide (hBr.trans (hB2.mono hBr.size))
        clear hB2 hs
        rcases hst with ⟨hh, rfl⟩ | ⟨hh, rfl⟩
        · have HH := hide hh
          clear hh
          go_wp2_with fail
          refine (index_any A n C f (r k).id _ hS2).mono ?_
          rintro e w3 ⟨⟨ix, rfl, hix⟩, rfl⟩
          have hix0 : 0 ≤ ix := hix.2 HH.out
          clear hix
          go_wp2
          go_roundw
          case rel => exact ⟨k + 1, by omega, by go_num, hBW.out⟩
          case measure => simp [intOf]; omega
        · have HH := hide hh
          clear hh
          go_wp2_with fail
          refine (index_any A n C f (r k).id _ hS2).mono ?_
          rintro e w3 ⟨⟨ix, rfl, hix⟩, rfl⟩
          have hix0 : ix < 0 := by
            have := HH.out
            rcases Int.lt_or_le ix 0 with h0 | h0
            · exact h0
            · rw [hix.1 h0] at this; cases this
          clear hix
          go_wp2
          go_roundw
          case rel => exact ⟨k + 1, by omega, by go_num, hBW.out⟩
          case measure => simp [intOf]; omega
      · go_wp2
        go_ret
        exact ⟨rfl, S9.below.trans (hBr.mono (Nat.le_trans S9.base S9.size))⟩
end Go.Proofs.Qxb6617146a
