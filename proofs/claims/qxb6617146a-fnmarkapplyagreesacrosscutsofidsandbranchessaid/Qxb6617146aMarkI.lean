import Derived.Test.Qxb6617146aMarkM
namespace Go.Proofs.Qxb6617146a
open Go.RowKit
set_option linter.unusedVariables false

/-- the ids as the law holds them behind its copy -/
structure Ids (w w2 : World) (v : Value) (n : Nat) (f : Nat → ByteArray) : Prop where
  below : Below w.heap.size w w2
  has : ∃ A C, v = .slice A n C ∧ n ≤ C ∧ Strs w2 A n f ∧ ∀ x, A = some x → x.block = w.heap.size ∧ w.heap.size < w2.heap.size

set_option maxHeartbeats 1000000 in
set_option maxRecDepth 100000 in
theorem law4_main (gid st : ByteArray) (a a' : Option Addr) (n c n' c' i j : Nat) (f : Nat → ByteArray) (r : Nat → Br) (w : World) (h : Strs w a n f) (h' : Brs w a' n' r)
    (hd : ∀ p, p < n' → Bytes w (r p).da (r p).dl) (hnc : n ≤ c) (hnc' : n' ≤ c') (hnil : a = none → n = 0)
    (s1 : (gid.size : Int) ≤ 65536) (s2 : (n : Int) ≤ 65536) (s3 : (st.size : Int) ≤ 65536) (s4 : (n' : Int) ≤ 65536) (hi : i ≤ n) (hj : j ≤ n') :
    Calls Try.prog 4 #[.string gid, .slice a n c, .string st, .slice a' n' c', .int .i64 i, .int .i64 j] w fun e w' => e = .returned (.bool true) ∧ Below w.heap.size w w' := by
  have hmk := make28 n (by omega)
  have hne := neNil28
  obtain ⟨wi, hcp, hS2, hB2, hz2⟩ := copy28 w a n c f h (by omega)
  have HI : Hid (Strs wi (some ⟨w.heap.size, 0, none⟩) n f ∧ Below w.heap.size w wi ∧ wi.heap.size = w.heap.size + 1 ∧ (a = none → n = 0)) := ⟨hS2, hB2, hz2, hnil⟩
  clear hS2 hB2 hz2 hnil
  have q1 := slice28_h
  have q2 := slice28_l
  have q3 := slice29_h
  have q4 := slice29_l
  go_enter Try.func4, Try.ntmps4
  go_wp2_with fail
  refine (zzBytes10_any gid st a a' n c n' c' f r _ _ _ h h').mono ?_
  rintro e w' ⟨⟨x, rfl⟩, rfl⟩
  cases x
  · go_wp2; go_ret; exact ⟨rfl, Below.refl _ _⟩
  go_upto_if 49 with fail
  go_cut [1, 13] (fun s z W2 => Ids w' W2 s n f)
  case first =>
    cases a with
    | none =>
      go_wp2_with fail
      go_meet
      case rel => exact ⟨Below.refl _ _, none, c, rfl, hnc, h, fun x hx => by cases hx⟩
    | some x =>
      go_wp2_with fail
      go_meet
      case rel => exact ⟨HI.out.2.1, _, n, rfl, Nat.le_refl _, HI.out.1, fun x hx => by cases hx; exact ⟨rfl, by rw [HI.out.2.2.1]; omega⟩⟩
  case rest =>
    obtain ⟨hB0, A, C, rfl, hAC, hSA, hAx⟩ := hcut
    have S0 : St w' wc wc.heap.size A n f := ⟨hB0, hSA, fun x hx => by have := hAx x hx; omega, hB0.size, Nat.le_refl _⟩
    obtain ⟨B, hBe, S⟩ : ∃ B, Hid (wc.heap.size = B) ∧ St w' wc B A n f := ⟨_, rfl, S0⟩
    clear S0 hAx hSA hB0 hmk hne hcp HI
    go_wp2_with fail
    refine (addLen_any _ _ _).mono ?_
    rintro e wc ⟨⟨r1, rfl⟩, rfl⟩
    go_wp2_with fail
    refine (addLen_any _ _ _).mono ?_
    rintro e wc ⟨⟨r2, rfl⟩, rfl⟩
    go_wp2_with fail
    refine (addStrs_any _ A n C f _ S.strs).mono ?_
    rintro e wc ⟨⟨r3, rfl⟩, rfl⟩
    go_wp2_with fail
    refine (addBranches_any _ a' n' c' r _ (h'.later S.below)).mono ?_
    rintro e wc ⟨⟨r4, rfl⟩, rfl⟩
    by_cases hsum : 1048576 < r4
    · go_wp2
      go_ret
      exact ⟨rfl, S.below⟩
    go_wp2_with fail
    refine (toTxn_ex a' n' c' r _ (h'.later S.below) (by omega)).mono ?_
    rintro e W1 ⟨a1, g1, rfl, O1, b1, p1⟩
    have hBg1 : B ≤ g1 := Nat.le_trans S.size p1
    have S1 := S.txn b1
    clear S b1
    go_wp2_with fail
    refine (zzApply_any gid st A n C f a1 g1 n' n' r _ S1.strs O1 (S1.offs hBg1) (by omega)).mono ?_
    rintro e W2 ⟨rfl, O1', k2⟩
    have S2 := S1.app k2 hBg1
    clear S1 O1
    go_wp2_with fail
    refine (toTxn_ex a' n' c' r _ (h'.later S2.below) (by omega)).mono ?_
    rintro e W3 ⟨a2, g2, rfl, O2, b3, p3⟩
    have hBg2 : B ≤ g2 := Nat.le_trans S2.size p3
    have S3 := S2.txn b3
    have d12 := hide (O1'.past p3)
    have O1b := O1'.later b3
    clear S2 O1'
    go_wp2_with fail
    refine (zzApply_any gid st A i C f a2 g2 n' n' r _ (S3.strs.take hi) O2 (S3.offs hBg2) (by omega)).mono ?_
    rintro e W4 ⟨rfl, O2', k4⟩
    have S4 := S3.app k4 hBg2
    have O1c := O1b.keep' k4 d12.out
    clear S3 O2 O1b k4
    go_wp2_with fail
    refine (zzApply_any gid st _ (n - i) (C - i) _ a2 g2 n' n' _ _ (S4.strs.tail hAC hi) O2' ((S4.offs hBg2).cut _ _ _) (by omega)).mono ?_
    rintro e W5 ⟨rfl, O2c, k5⟩
    have S5 := S4.app k5 hBg2
    have O1d := O1c.keep' k5 d12.out
    clear S4 O2' O1c k5 d12
    go_wp2_with fail
    refine (toTxn_ex a' j c' r _ ((h'.later S5.below).take hj) (by omega)).mono ?_
    rintro e W6 ⟨a3, g3, rfl, O3, b6, p6⟩
    have S6 := S5.txn b6
    have hBg3 : B ≤ g3 := Nat.le_trans S5.size p6
    have hBW6 : B ≤ W6.heap.size := S6.size
    have d13 := hide (O1d.past p6)
    have d23 := hide (O2c.past p6)
    have O1e := O1d.later b6
    have O2e := O2c.later b6
    clear O1d O2c S5
    go_wp2_with fail
    refine (toTxn_ex _ (n' - j) (c' - j) _ _ ((h'.later S6.below).tail hnc' hj) (by omega)).mono ?_
    rintro e W7 ⟨a4, g4, rfl, O4, b7, p7⟩
    have S7 := S6.txn b7
    have hBg4 : B ≤ g4 := Nat.le_trans S6.size p7
    have d14 := hide (O1e.past p7)
    have d24 := hide (O2e.past p7)
    have d34 := hide (O3.past p7)
    have O1f := O1e.later b7
    have O2f := O2e.later b7
    have O3f := O3.later b7
    clear O1e O2e S6 O3
    obtain ⟨g3', O3g, hB3', d13', d23', d43⟩ : ∃ g, Own W7 g a3 j r ∧ B ≤ g ∧ Hid (0 < n' → g1 ≠ g) ∧ Hid (0 < n' → g2 ≠ g) ∧ Hid (g4 ≠ g) := by
      by_cases hj0 : j = 0
      · exact ⟨g1 + g2 + g4 + 1, .inl hj0, by omega, fun _ => by omega, fun _ => by omega, show g4 ≠ _ by omega⟩
      · exact ⟨g3, O3f, hBg3, d13, d23, fun e => d34.out (by omega) e.symm⟩
    clear O3f d13 d23 d34
    go_wp2_with fail
    refine (zzApply_any gid st A n C f a3 g3' j j r _ S7.strs O3g (S7.offs hB3') (by omega)).mono ?_
    rintro e W8 ⟨rfl, O3h, k8⟩
    have S8 := S7.app k8 hB3'
    have O1g := O1f.keep' k8 d13'.out
    have O2g := O2f.keep' k8 d23'.out
    have O4g := O4.keep' k8 (fun _ => d43.out)
    clear S7 O1f O2f O4 O3g
    go_wp2_with fail
    refine (zzApply_any gid st A n C f a4 g4 (n' - j) (n' - j) _ _ S8.strs O4g (S8.offs hBg4) (by omega)).mono ?_
    rintro e W ⟨rfl, O4h, k9⟩
    have S9 := S8.app k9 hBg4
    have O1h := O1g.keep' k9 d14.out
    have O2h := O2g.keep' k9 d24.out
    have O3i := O3h.keep' k9 (fun _ e => d43.out e.symm)
    clear S8 O1g O2g O4g O3h k8 k9 d13' d23' d43 d14 d24 hBg1 hBg2 hBg3 hBg4 hB3' b7 p7 b6 p6 b3 p3 hBW6 k2 q1 q2 q3 q4 p1
    have hlen : ((j : Int) + ((n' - j : Nat) : Int) != (n' : Int)) = false := by simp; omega
    go_wp2
    go_loopw [19] (fun p wr => ∃ k : Nat, k ≤ n' ∧ p = .int .i64 k ∧ Below W.heap.size W wr) (fun p _ => n' - (intOf p).toNat)
    case atStart => exact ⟨0, Nat.zero_le _, rfl, Below.refl _ _⟩
    case round =>
      obtain ⟨k, hk, rfl, hBr⟩ := hrel
      by_cases hlt : k < n'
      · obtain ⟨s, hs⟩ : ∃ s, Hid (s = stOf f n st (r k)) := ⟨_, rfl⟩
        obtain ⟨rfl, x1⟩ := O1h.row hlt hBr (y := r k) (s := s) (by rw [hs.out]; exact mk_at f n st (r k))
        obtain ⟨rfl, x2⟩ := O2h.row hlt hBr (y := r k) (s := s) (by rw [hs.out, ← mk_at]; exact mk_mk f n i hi st (r k))
        obtain ⟨b, off, rfl, xb⟩ := (h'.later S9.below).row hlt hBr
        have hby : Bytes wr (r k).da (r k).dl := ((hd k hlt).later (S9.below)).later hBr
        have hSt : Strs wr A n f := S9.strs.later hBr
        obtain ⟨p0, p1, p2, p3, p4, p5⟩ := x1
        obtain ⟨q0, q1, q2, q3, q4, q5⟩ := x2
        have XB : Hid (Six wr b (off + k * 6) (r k) (r k).st) := xb
        have l1 : g1 < wr.heap.size := World.block_lt_of_cell? _ _ p0
        have l2 : g2 < wr.heap.size := World.block_lt_of_cell? _ _ q0
        have lb : b < wr.heap.size := World.block_lt_of_cell? _ _ xb.1
        clear xb
        go_upto_if 161 with fail
        go_cut [20] (fun v wx => v = .pointer (some ⟨wr.heap.size, 0, none⟩) ∧ wx = wr.alloc (.cells #[.string (r k).id, .string (r k).conf, .string (r k).canc, .slice (r k).da (r k).dl (r k).dc, .string s, .int .i64 (r k).att] 40))
        case first =>
          by_cases hkj : k < j
          · obtain ⟨rfl, z0, z1, z2, z3, z4, z5⟩ := O3i.row hkj hBr (y := r k) (s := s) (by rw [hs.out]; exact mk_at f n st (r k))
            have l3 : g3' < wr.heap.size := World.block_lt_of_cell? _ _ z0
            clear O1h O2h O3i O4h hlen
            go_wp2_with fail
            go_meet
            case rel => exact ⟨rfl, rfl⟩
          · obtain ⟨rfl, z0, z1, z2, z3, z4, z5⟩ := O4h.row (k := k - j) (by omega) hBr (y := r k) (s := s) (by rw [hs.out, show j + (k - j) = k by omega]; exact mk_at f n st (r k))
            have l3 : g4 < wr.heap.size := World.block_lt_of_cell? _ _ z0
            have ek : ((k : Int) - (j : Int)).toNat = k - j := by omega
            have ek0 : (0 : Int) ≤ (k : Int) - (j : Int) := by omega
            clear O1h O2h O3i O4h hlen
            go_wp2_with fail
            go_meet
            case rel => exact ⟨rfl, rfl⟩
        case rest =>
          obtain ⟨rfl, hwx⟩ := hcut
          have hba : Below wr.heap.size wr wc.drew := by rw [hwx]; exact ((Below.refl _ _).alloc (Nat.le_refl _) _).drew
          have H0 : Held wr g1 g2 wr.heap.size (k * 6) (k * 6) 0 (r k) s s s wc.drew :=
            Held.mk ((show Six wr g1 (k * 6) (r k) s from ⟨p0, p1, p2, p3, p4, p5⟩).later hba) ((show Six wr g2 (k * 6) (r k) s from ⟨q0, q1, q2, q3, q4, q5⟩).later hba)
              (by rw [hwx]; exact six_alloc wr (r k) s) (hby.later hba) hba
          clear hwx
          clear p0 p1 p2 p3 p4 p5 q0 q1 q2 q3 q4 q5
          go_upto_region 35 with fail
          go_region_held3 (fun wx => wx.cell? ⟨g1, k * 6, none⟩ = some (.string (r k).id) ∧ wx.cell? ⟨g1, k * 6 + 1, none⟩ = some (.string (r k).conf) ∧ wx.cell? ⟨g1, k * 6 + 2, none⟩ = some (.string (r k).canc) ∧ wx.cell? ⟨g1, k * 6 + 3, none⟩ = some (.slice (r k).da (r k).dl (r k).dc) ∧ wx.cell? ⟨g1, k * 6 + 4, none⟩ = some (.string s) ∧ wx.cell? ⟨g1, k * 6 + 5, none⟩ = some (.int .i64 (r k).att) ∧ wx.cell? ⟨g2, k * 6, none⟩ = some (.string (r k).id) ∧ wx.cell? ⟨g2, k * 6 + 1, none⟩ = some (.string (r k).conf) ∧ wx.cell? ⟨g2, k * 6 + 2, none⟩ = some (.string (r k).canc) ∧ wx.cell? ⟨g2, k * 6 + 3, none⟩ = some (.slice (r k).da (r k).dl (r k).dc) ∧ wx.cell? ⟨g2, k * 6 + 4, none⟩ = some (.string s) ∧ wx.cell? ⟨g2, k * 6 + 5, none⟩ = some (.int .i64 (r k).att) ∧ wx.cell? ⟨wr.heap.size, 0, none⟩ = some (.string (r k).id) ∧ wx.cell? ⟨wr.heap.size, 1, none⟩ = some (.string (r k).conf) ∧ wx.cell? ⟨wr.heap.size, 2, none⟩ = some (.string (r k).canc) ∧ wx.cell? ⟨wr.heap.size, 3, none⟩ = some (.slice (r k).da (r k).dl (r k).dc) ∧ wx.cell? ⟨wr.heap.size, 4, none⟩ = some (.string s) ∧ wx.cell? ⟨wr.heap.size, 5, none⟩ = some (.int .i64 (r k).att) ∧ Bytes wx (r k).da (r k).dl ∧ Below wr.heap.size wr wx) (first | exact H0 | exact Held.later (w := _) (by assumption) hb)
            (first
              | (go_at_call 16; refine (branchEq_agg (r k) s _ ?_).mono ?_; (go_split_ands; assumption); rintro e w1 ⟨rfl, hb⟩))
          have hH : Held wr g1 g2 wr.heap.size (k * 6) (k * 6) 0 (r k) s s s w1 := by assumption
          obtain ⟨x1, _, _, hby1, hB1⟩ := hH.out
          have H1 : Held2 wr g1 b (k * 6) (off + k * 6) (r k) s (r k).st w1.drew := (Held2.mk x1 (XB.out.later hB1) hby1 hB1).drew
          clear hH hba H0 x1 hby1 hB1
          go_upto_region 37 with fail
          go_region_held3 (fun wx => wx.cell? ⟨g1, k * 6, none⟩ = some (.string (r k).id) ∧ wx.cell? ⟨g1, k * 6 + 1, none⟩ = some (.string (r k).conf) ∧ wx.cell? ⟨g1, k * 6 + 2, none⟩ = some (.string (r k).canc) ∧ wx.cell? ⟨g1, k * 6 + 3, none⟩ = some (.slice (r k).da (r k).dl (r k).dc) ∧ wx.cell? ⟨g1, k * 6 + 4, none⟩ = some (.string s) ∧ wx.cell? ⟨g1, k * 6 + 5, none⟩ = some (.int .i64 (r k).att) ∧ wx.cell? ⟨b, off + k * 6, none⟩ = some (.string (r k).id) ∧ wx.cell? ⟨b, off + k * 6 + 1, none⟩ = some (.string (r k).conf) ∧ wx.cell? ⟨b, off + k * 6 + 2, none⟩ = some (.string (r k).canc) ∧ wx.cell? ⟨b, off + k * 6 + 3, none⟩ = some (.slice (r k).da (r k).dl (r k).dc) ∧ wx.cell? ⟨b, off + k * 6 + 4, none⟩ = some (.string (r k).st) ∧ wx.cell? ⟨b, off + k * 6 + 5, none⟩ = some (.int .i64 (r k).att) ∧ Bytes wx (r k).da (r k).dl ∧ Below wr.heap.size wr wx) (first | exact H1 | exact Held2.later (w := _) (by assumption) hb2)
            (first
              | (go_at_call 17; refine (sameBut_agg (r k) s _ ?_).mono ?_; (go_split_ands; assumption); rintro e w2 ⟨rfl, hb2⟩))
          have hH : Held2 wr g1 b (k * 6) (off + k * 6) (r k) s (r k).st w2 := by assumption
          obtain ⟨⟨p0, p1, p2, p3, p4, p5⟩, ⟨t0, t1, t2, t3, t4, t5⟩, _, hB2⟩ := hH.out
          have hS2 := hSt.later hB2
          clear hH H1
          have hst : (has f (r k).id n = true ∧ s = st) ∨ (has f (r k).id n = false ∧ s = (r k).st) := by
            rw [hs.out]; unfold stOf; cases has f (r k).id n <;> simp
          have hBW := hide (hBr.trans (hB2.mono hBr.size))
          clear hB2 hs
          rcases hst with ⟨hh, rfl⟩ | ⟨hh, rfl⟩
          · have HH := hide hh
            clear hh
            go_wp2_with fail
            refine (index_any A n C f (r k).id _ hS2).mono ?_
            rintro e w3 ⟨⟨ix, rfl, hix⟩, rfl⟩
            have hix0 : 0 ≤ ix := hix.2 HH.out
            clear hix
            go_wp2
            go_roundw
            case rel => exact ⟨k + 1, by omega, by go_num, hBW.out⟩
            case measure => simp [intOf]; omega
          · have HH := hide hh
            clear hh
            go_wp2_with fail
            refine (index_any A n C f (r k).id _ hS2).mono ?_
            rintro e w3 ⟨⟨ix, rfl, hix⟩, rfl⟩
            have hix0 : ix < 0 := by
              have := HH.out
              rcases Int.lt_or_le ix 0 with h0 | h0
              · exact h0
              · rw [hix.1 h0] at this; cases this
            clear hix
            go_wp2
            go_roundw
            case rel => exact ⟨k + 1, by omega, by go_num, hBW.out⟩
            case measure => simp [intOf]; omega
      · go_wp2
        go_ret
        exact ⟨rfl, S9.below.trans (hBr.mono (Nat.le_trans S9.base S9.size))⟩
end Go.Proofs.Qxb6617146a
