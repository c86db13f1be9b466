import Derived.Test.Qxb6617652aMore
namespace Go.Proofs.Qxb6617652a
open Go.RowKit
set_option linter.unusedVariables false

/-- are the first k halves all below 16? -/
def sm (h : Nat → Int) : Nat → Bool
  | 0 => true
  | k + 1 => sm h k && decide (h k ≤ 15)
theorem sm_all {h : Nat → Int} {m : Nat} (e : sm h m = true) : ∀ j, j < m → h j ≤ 15 := by
  induction m with
  | zero => intro j hj; omega
  | succ m ih =>
    simp only [sm, Bool.and_eq_true, decide_eq_true_eq] at e
    intro j hj
    by_cases hjm : j = m
    · subst hjm; exact e.2
    · exact ih e.1 j (by omega)

theorem pk_even {h : Nat → Int} {m p : Nat} (hb : ∀ i, i < m → 0 ≤ h i ∧ h i ≤ 255) (hs : ∀ i, i < m → h i ≤ 15) (hp : p < m) (par : p % 2 = 0) :
    ∃ V, pk h m (p / 2) = V ∧ 0 ≤ V ∧ V ≤ 255 ∧ V % 16 = h p := by
  have e : 2 * (p / 2) = p := by omega
  refine ⟨_, rfl, ?_⟩
  unfold pk
  rw [e]
  have a1 := hb p hp
  have a2 := hs p hp
  by_cases h1 : p + 1 < m
  · have b1 := hb (p + 1) h1
    have b2 := hs (p + 1) h1
    rw [if_pos h1, pk_small _ _ a1.1 a2 b1.1 b2]
    omega
  · rw [if_neg h1]
    omega
theorem pk_odd {h : Nat → Int} {m p : Nat} (hb : ∀ i, i < m → 0 ≤ h i ∧ h i ≤ 255) (hs : ∀ i, i < m → h i ≤ 15) (hp : p < m) (par : ¬ p % 2 = 0) :
    ∃ V, pk h m (p / 2) = V ∧ 0 ≤ V ∧ V ≤ 255 ∧ V / 16 = h p := by
  obtain ⟨d, rfl⟩ : ∃ d, p = 2 * d + 1 := ⟨p / 2, by omega⟩
  have e : (2 * d + 1) / 2 = d := by omega
  refine ⟨_, rfl, ?_⟩
  rw [e]
  unfold pk
  have a1 := hb (2 * d) (by omega)
  have a2 := hs (2 * d) (by omega)
  have b1 := hb (2 * d + 1) hp
  have b2 := hs (2 * d + 1) hp
  rw [if_pos hp, pk_small _ _ a1.1 a2 b1.1 b2]
  omega

set_option maxHeartbeats 1000000 in
set_option maxRecDepth 100000 in
theorem law_main (a0 a1 : Option Addr) (n c0 m c1 : Nat) (k : Int) (f h : Nat → Int) (w : World) (R0 : RowB w w.heap.size a0 n f) (R1 : RowB w w.heap.size a1 m h)
    (hby : ∀ i, i < m → 0 ≤ h i ∧ h i ≤ 255) (hn : n ≤ 524288) (hm : m ≤ 524288) :
    Calls Try.prog 3 #[.slice a0 n c0, .slice a1 m c1, .int .i64 k] w fun e w' => e = .returned (.bool true) ∧ Below w.heap.size w w' := by
  have HY := hide hby
  clear hby
  obtain ⟨N, hN⟩ : ∃ N, Hid (n + (m + 1) / 2 = N) := ⟨_, rfl⟩
  have N1 : n ≤ N := by have := hN.out; omega
  have N2 : N ≤ 1048577 := by have := hN.out; omega
  have hlen : ((N : Int) != (n : Int) + ((m : Int) + 1) / 2) = false := by have := hN.out; simp; omega
  go_enter Try.func3, Try.ntmps3
  go_wp2_with fail
  refine (zzBytes_any a0 a1 n c0 m c1 k _ R0.1 R1.1).mono ?_
  rintro e w' ⟨⟨x, rfl⟩, rfl⟩
  cases x
  · go_wp2; go_ret; exact ⟨rfl, Below.refl _ _⟩
  go_wp2_with fail
  refine (clone_ex a0 n c0 f _ R0 (by omega)).mono ?_
  rintro e w1 ⟨aD, rfl, -, D, b1⟩
  have R1b := R1.go b1
  clear R0 R1
  go_wp2_with fail
  refine (clone_ex a1 m c1 h _ R1b (by omega)).mono ?_
  rintro e w2 ⟨aH, rfl, -, Hh, b2⟩
  have D2 := D.go b2
  have B2 : Below w'.heap.size w' w2 := b1.trans (b2.mono b1.size)
  clear D R1b b1 b2
  go_wp2_with fail
  refine (clone_ex aD n n f _ D2 (by omega)).mono ?_
  rintro e w3 ⟨aC, rfl, OC, -, b3⟩
  go_wp2_with fail
  refine (zzApp_any w2.heap.size _ n (vals f n) aH m m h _ OC b3.size (Hh.later b3) (by omega) (by omega) HY).mono ?_
  rintro e w4 ⟨aO, cO, rfl, OO, b4, z4⟩
  rw [vals_append] at OO
  rw [hN.out] at OO ⊢
  have O4 : RowB w4 w4.heap.size aO N (outF f n (pk h m)) := (row_of_owns OO (by unfold maxLen; omega)).rowB
  have D4 : RowB w4 w4.heap.size aD n f := ((D2.later b3).later b4).mono z4
  have H4 : RowB w4 w4.heap.size aH m h := ((Hh.later b3).later b4).mono z4
  have B4 : Below w'.heap.size w' w4 := B2.trans ((b3.trans b4).mono B2.size)
  clear OO OC b3 b4 z4 D2 Hh B2
  go_wp2
  go_loopw [10] (fun i wx => ∃ t q : Nat, t ≤ n ∧ i = .int .i64 t ∧ wx = w4.drewN q) (fun i _ => n - (intOf i).toNat)
  case atStart => exact ⟨0, 0, Nat.zero_le _, rfl, rfl⟩
  case round =>
    obtain ⟨t, q, ht, rfl, rfl⟩ := hrel
    by_cases hlt : t < n
    · obtain ⟨bD, oD, rfl, _, cD⟩ := D4.2.resolve_left (by omega)
      obtain ⟨bO, oO, rfl, _, cO'⟩ := O4.2.resolve_left (by omega)
      have e1 := cD t hlt
      have e2 : w4.cell? ⟨bO, oO + t, none⟩ = some (.int .u8 (f t)) := by
        have := cO' t (by omega)
        rwa [outF, if_pos hlt] at this
      clear cD cO' hlen
      go_wp2
      go_quiet (fail)
      go_wp2
      go_roundw
      case rel => exact ⟨t + 1, _, by omega, by go_num, rfl⟩
      case measure => simp [intOf]; omega
    · go_wp2
      go_loop [11, 12] (fun s i => ∃ j : Nat, j ≤ m ∧ i = .int .i64 j ∧ s = .bool (sm h j)) (fun _ i => m - (intOf i).toNat)
      case atStart => exact ⟨0, Nat.zero_le _, rfl, rfl⟩
      case round =>
        obtain ⟨j, hj, rfl, rfl⟩ := hrel
        by_cases hlt : j < m
        · obtain ⟨bH, oH, rfl, _, cH⟩ := H4.2.resolve_left (by omega)
          have e1 := cH j hlt
          obtain ⟨y0, y1⟩ := HY.out j hlt
          by_cases h15 : 15 < h j
          · go_wp2
            go_round
            case rel => exact ⟨j + 1, by omega, by go_num, by simp [sm]; omega⟩
            case measure => simp [intOf]; omega
          · go_wp2
            go_round
            case rel => exact ⟨j + 1, by omega, by go_num, by simp [sm]; omega⟩
            case measure => simp [intOf]; omega
        · have ej : j = m := by omega
          subst ej
          go_upto_if 75 with fail
          go_cut [11, 13] (fun _ _ wx => wx = w4.drewN q)
          case first =>
            cases hs : sm h j
            · go_wp2_with fail
              go_meet
              case rel => rfl
            · have HS := hide (sm_all hs)
              clear hs
              go_wp2_with fail
              go_loop [13] (fun i => ∃ p : Nat, p ≤ j ∧ i = .int .i64 p) (fun i => j - (intOf i).toNat)
              case atStart => exact ⟨0, Nat.zero_le _, rfl⟩
              case round =>
                obtain ⟨p, hp, rfl⟩ := hrel
                by_cases hpm : p < j
                · obtain ⟨bH, oH, rfl, _, cH⟩ := H4.2.resolve_left (by omega)
                  obtain ⟨bO, oO, rfl, _, cO'⟩ := O4.2.resolve_left (by have := hN.out; omega)
                  have e1 := cH p hpm
                  have hx : n + p / 2 < N := by have := hN.out; omega
                  have hx' : (n : Int) + (p : Int) / 2 < (N : Int) := by omega
                  have hx0 : (0 : Int) ≤ (n : Int) + (p : Int) / 2 := by omega
                  have e2 : w4.cell? ⟨bO, oO + (n + p / 2), none⟩ = some (.int .u8 (pk h j (p / 2))) := by
                    have := cO' (n + p / 2) hx
                    rwa [outF, if_neg (by omega), show n + p / 2 - n = p / 2 by omega] at this
                  clear cH cO'
                  by_cases par : p % 2 = 0
                  · obtain ⟨V, hV, v0, v1, v2⟩ := pk_even HY.out HS.out hpm par
                    rw [hV] at e2
                    clear hV
                    have e3 : bits .and .u8 V 15 = h p := by rw [u8_and15 V v0 (by omega)]; exact v2
                    clear v2
                    have par' : (p : Int) % 2 = 0 := by omega
                    go_wp2
                    go_round
                    case rel => exact ⟨p + 1, by omega, by go_num⟩
                    case measure => simp [intOf]; omega
                  · obtain ⟨V, hV, v0, v1, v2⟩ := pk_odd HY.out HS.out hpm par
                    rw [hV] at e2
                    clear hV
                    have par' : (p : Int) % 2 = 1 := by omega
                    go_wp2
                    go_round
                    case rel => exact ⟨p + 1, by omega, by go_num⟩
                    case measure => simp [intOf]; omega
                · by_cases par : j % 2 = 1
                  · obtain ⟨bO, oO, rfl, _, cO'⟩ := O4.2.resolve_left (by have := hN.out; omega)
                    have hx : n + j / 2 < N := by have := hN.out; omega
                    have hx' : (n : Int) + (j : Int) / 2 < (N : Int) := by omega
                    have hx0 : (0 : Int) ≤ (n : Int) + (j : Int) / 2 := by omega
                    have e2 : w4.cell? ⟨bO, oO + (n + j / 2), none⟩ = some (.int .u8 (h (2 * (j / 2)))) := by
                      have := cO' (n + j / 2) hx
                      rwa [outF, if_neg (by omega), show n + j / 2 - n = j / 2 by omega, pk, if_neg (by omega)] at this
                    clear cO'
                    obtain ⟨y0, y1⟩ := HY.out (2 * (j / 2)) (by omega)
                    have y2 := HS.out (2 * (j / 2)) (by omega)
                    have y3 : h (2 * (j / 2)) / 16 = 0 := by omega
                    have par' : (j : Int) % 2 = 1 := by omega
                    go_wp2
                    go_meet
                    case rel => rfl
                  · have par' : (j : Int) % 2 = 0 := by omega
                    go_wp2
                    go_meet
                    case rel => rfl
          case rest =>
            have O5 : RowB wc wc.heap.size aO N (outF f n (pk h j)) := by rw [hcut]; exact O4
            have D5 : RowB wc wc.heap.size aD n f := by rw [hcut]; exact D4
            have H5 : RowB wc wc.heap.size aH j h := by rw [hcut]; exact H4
            have B5 := hide (show Below w'.heap.size w' wc by rw [hcut]; exact ⟨B4.os, B4.tape, B4.output, B4.size, B4.block⟩)
            clear hcut O4 D4 H4 B4 hlen
            by_cases k0 : k < 0
            · go_wp2
              go_ret
              exact ⟨rfl, B5⟩
            by_cases k1 : (j : Int) < k
            · go_wp2
              go_ret
              exact ⟨rfl, B5⟩
            obtain ⟨K, rfl⟩ : ∃ K : Nat, k = K := Int.eq_ofNat_of_zero_le (by omega)
            have hK : K ≤ j := by omega
            by_cases k2 : K % 2 = 1
            · have k3 : (K : Int) % 2 = 1 := by omega
              go_wp2
              go_ret
              exact ⟨rfl, B5⟩
            have k3 : (K : Int) % 2 = 0 := by omega
            obtain ⟨d, hd⟩ : ∃ d, Hid (K = 2 * d) := ⟨K / 2, show K = 2 * (K / 2) by omega⟩
            clear k2 k0 k1
            have q2 := slice22_l
            go_wp2_with fail
            refine (clone_ex aH K j h _ (H5.take hK) (by omega)).mono ?_
            rintro e w6 ⟨aA, rfl, -, A6, b6⟩
            have O6 := O5.go b6
            have D6 := D5.go b6
            have H6 := H5.go b6
            have B6 := hide (B5.out.trans (b6.mono B5.out.size))
            clear O5 D5 H5 B5 b6
            go_wp2_with fail
            refine (clone_ex _ (j - K) (j - K) _ _ (H6.tail (Nat.le_refl _) hK) (by omega)).mono ?_
            rintro e w7 ⟨aB, rfl, -, Bb, b7⟩
            have O7 := O6.go b7
            have D7 := D6.go b7
            have A7 := A6.go b7
            have B7 := hide (B6.out.trans (b7.mono B6.out.size))
            clear O6 D6 H6 A6 B6 b7
            go_wp2_with fail
            refine (clone_ex aD n n f _ D7 (by omega)).mono ?_
            rintro e w8 ⟨aC2, rfl, OC, -, b8⟩
            go_wp2_with fail
            refine (zzApp_any w7.heap.size _ n (vals f n) aA K K h _ OC b8.size (A7.later b8) (by omega) (by omega) (fun i hi => HY.out i (by omega))).mono ?_
            rintro e w9 ⟨aM, cM, rfl, OM, b9, z9⟩
            go_wp2_with fail
            refine (zzApp_any w7.heap.size _ (n + (K + 1) / 2) _ aB (j - K) (j - K) _ _ OM z9 ((Bb.later b8).later b9) (by omega) (by omega) (fun i hi => HY.out (K + i) (by omega))).mono ?_
            rintro e w10 ⟨aS, cS, rfl, OS, b10, z10⟩
            have eN : n + (K + 1) / 2 + (j - K + 1) / 2 = N := by have := hN.out; have := hd.out; omega
            rw [vals_append, vals_append] at OS
            rw [eN] at OS ⊢
            have S10 := row_of_owns OS (by unfold maxLen; omega)
            have O10 := (((O7.later b8).later b9).later b10).row
            have B10 := hide (B7.out.trans (((b8.trans b9).trans b10).mono B7.out.size))
            clear OS OM OC b8 b9 b10 z9 z10 O7 D7 A7 Bb B7 eN
            go_wp2_with fail
            refine (equal_any aS aO N cS cO _ _ _ S10 O10 ?_).mono ?_
            · intro i hi
              have e2 := hd.out
              have e3 := hN.out
              subst e2
              have := pk_split f h n j d hK i (by omega)
              rwa [show (2 * d + 1) / 2 = d by omega]
            rintro e w11 ⟨rfl, q', rfl⟩
            go_wp2
            go_ret
            exact ⟨rfl, ⟨B10.out.os, B10.out.tape, B10.out.output, B10.out.size, B10.out.block⟩⟩
end Go.Proofs.Qxb6617652a
