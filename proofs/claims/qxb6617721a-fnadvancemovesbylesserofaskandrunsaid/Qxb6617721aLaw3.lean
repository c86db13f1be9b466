import Derived.Test.Qxb6617721aMore
namespace Go.Proofs.Qxb6617721a
open Go.RowKit
set_option linter.unusedVariables false

/-- the head as the law holds it behind its copy -/
structure HeadIs (w w2 : World) (v : Value) (n : Nat) (f : Nat → Int) : Prop where
  below : Below w.heap.size w w2
  has : ∃ A C, v = .slice A n C ∧ Row w2 A n f

theorem scan_stop {s : Nat → Int} {T : Int} {m q wp : Nat} {e : Int} (h : blk (s q) = false) : scan s T m q e wp = wp := by
  cases m with
  | zero => rfl
  | succ m => rw [scan, if_neg (by rw [h]; decide)]
theorem scan_step {s : Nat → Int} {T : Int} {M q wp : Nat} {e : Int} (hq : q < M) (h : blk (s q) = true) :
    scan s T (M - q) q e wp = scan s T (M - (q + 1)) (q + 1) (stp e (s q)) (if stp e (s q) ≤ T then q + 1 else wp) := by
  rw [show M - q = M - (q + 1) + 1 by omega, scan, if_pos h]

/-- the wanted column -/
def wantC (E col k : Int) : Int := if 0 < k then (if E - col < k then E else col + k) else col

theorem adv_want (s : Nat → Int) (m p : Nat) (col k E : Int) (hE : runE s m p col = E) : adv s m p col k = (scan s (wantC E col k) m p col p, wantC E col k) := by
  have hge : col ≤ E := by rw [← hE]; exact runE_ge _ _ _ _
  by_cases hk : 0 ≤ k
  · have e := adv_eq s m p col k hk
    rw [hE] at e
    have eT : min (col + k) E = wantC E col k := by
      unfold wantC
      split
      · split <;> omega
      · omega
    rw [eT] at e
    exact e
  · have eT : wantC E col k = col := by unfold wantC; rw [if_neg (by omega)]
    rw [eT, scan_past s col m p col p (Int.le_refl _), adv_neg s m p col k (by omega)]

set_option maxHeartbeats 1000000 in
set_option maxRecDepth 100000 in
theorem law3_main (a0 : Option Addr) (n c0 : Nat) (f : Nat → Int) (ts lead : Int) (p : Nat) (col k : Int) (w : World) (R0 : Row w a0 n f)
    (hn : (n : Int) ≤ 1048576) (hp : (p : Int) ≤ 9223372036854775807) (hc0 : 0 ≤ col) (hc1 : col ≤ 1073741824) (hk : k ≤ 9223372036854775807) :
    Calls Try.prog 3 #[.slice a0 n c0, .int .i64 ts, .int .u8 lead, .int .i64 (p : Int), .int .i64 col, .int .i64 k] w fun e w' => e = .returned (.bool true) ∧ Below w.heap.size w w' := by
  obtain ⟨s, hs⟩ : ∃ s, Hid (atF f n ts lead = s) := ⟨_, rfl⟩
  obtain ⟨E, hE⟩ : ∃ E, Hid (runE s (n + 1 - p) p col = E) := ⟨_, rfl⟩
  obtain ⟨T, hT⟩ : ∃ T, Hid (wantC E col k = T) := ⟨_, rfl⟩
  obtain ⟨P, hP⟩ : ∃ P, Hid (scan s T (n + 1 - p) p col p = P) := ⟨_, rfl⟩
  have hR : Hid (adv s (n + 1 - p) p col k = (P, T)) := by
    show adv s (n + 1 - p) p col k = (P, T)
    rw [adv_want s _ p col k E hE.out, hT.out, hP.out]
  have hpast : ∀ q, n + 1 ≤ q → blk (s q) = false := by rw [← hs.out]; exact at_past f n ts lead
  have E0 : col ≤ E := by rw [← hE.out]; exact runE_ge _ _ _ _
  have E1 : E ≤ col + 4194308 := by
    rw [← hE.out]
    have := runE_le s (n + 1 - p) p col
    omega
  have HP := hide hpast
  clear hpast
  have hmk := make22 n (by omega)
  have hne := neNil22
  obtain ⟨wi, hcp, hS2, hB2⟩ := copy22 w a0 n c0 f R0 (by omega)
  have HI : Hid (Row wi (some ⟨w.heap.size, 0, none⟩) n f ∧ Below w.heap.size w wi) := ⟨hS2, hB2⟩
  clear hS2 hB2
  go_enter Try.func3, Try.ntmps3
  go_wp2_with fail
  refine (zzBytes5_any a0 n c0 ts lead p col k _ R0.1).mono ?_
  rintro e w' ⟨⟨x, rfl⟩, rfl⟩
  cases x
  · go_wp2; go_ret; exact ⟨rfl, Below.refl _ _⟩
  go_upto_if 44 with fail
  go_cut [0, 13] (fun v z W2 => HeadIs w' W2 v n f)
  case first =>
    cases a0 with
    | none =>
      go_wp2_with fail
      go_meet
      case rel => exact ⟨Below.refl _ _, none, c0, rfl, R0⟩
    | some x =>
      go_wp2_with fail
      go_meet
      case rel => exact ⟨HI.out.2, _, n, rfl, HI.out.1⟩
  case rest =>
    obtain ⟨hB0, aH, cH, rfl, RH⟩ := hcut
    clear hmk hne hcp HI R0
    go_wp2_with fail
    refine (line_any aH n cH f ts lead _ RH (by omega)).mono ?_
    rintro e w1 ⟨aL, L, rfl, RL, b1, hL⟩
    rw [hs.out] at RL
    have hLn : L ≤ n + 1 ∧ n ≤ L := by rw [hL.out]; split <;> omega
    have hend : ∀ q, L ≤ q → blk (s q) = false := by
      intro q hq
      by_cases hq1 : n + 1 ≤ q
      · exact HP.out q hq1
      · have hl := hL.out
        split at hl
        · have hqn : q = n := by omega
          rename_i hts
          rw [← hs.out, hqn]
          unfold atF
          rw [if_neg (by omega), if_pos hts]
          rfl
        · omega
    have RH1 := RH.later b1
    have B1 : Below w'.heap.size w' w1 := hB0.trans (b1.mono hB0.size)
    clear RH b1 hL hB0
    go_wp2_with fail
    refine (run_any aL L L s p col (n + 1) _ RL hLn.1 (by omega) hend hc0 (by omega) hp).mono ?_
    rintro e w1 ⟨rfl, rfl⟩
    rw [hE.out]
    have L1 : L ≤ n + 1 := hLn.1
    have HE := hide hend
    clear hLn hend
    obtain ⟨_, RL⟩ := RL
    go_upto_if 62 with fail
    go_cut [16] (fun v wx => v = .int .i64 T ∧ wx = w1)
    case first =>
      have hT' := hT.out
      unfold wantC at hT'
      by_cases k0 : 0 < k
      · rw [if_pos k0] at hT'
        by_cases k1 : E - col < k
        · rw [if_pos k1] at hT'
          have e9 := hide hT'
          clear hT'
          go_wp2_with fail
          go_meet
          case rel => exact ⟨by rw [e9.out], rfl⟩
        · rw [if_neg k1] at hT'
          have e9 := hide hT'
          clear hT'
          go_wp2_with fail
          go_meet
          case rel => exact ⟨by rw [e9.out], rfl⟩
      · rw [if_neg k0] at hT'
        have e9 := hide hT'
        clear hT'
        go_wp2_with fail
        go_meet
        case rel => exact ⟨by rw [e9.out], rfl⟩
    case rest =>
      obtain ⟨rfl, rfl⟩ := hcut
      go_wp2
      go_loop [17, 18, 19] (fun wv cv iv => ∃ (q wp : Nat) (e : Int), wv = .int .i64 (wp : Int) ∧ cv = .int .i64 e ∧ iv = .int .i64 (q : Int) ∧ Hid (scan s T (n + 1 - q) q e wp = P) ∧ p ≤ q ∧ (q ≤ L ∨ q = p) ∧ 0 ≤ e ∧ e ≤ col + 4 * ((q : Int) - p)) (fun _ _ iv => L - (intOf iv).toNat)
      case atStart => exact ⟨p, p, col, rfl, rfl, rfl, hP, Nat.le_refl _, .inr rfl, hc0, by omega⟩
      case round =>
        obtain ⟨q, wp, e, rfl, rfl, rfl, hS, hpq, hqL, he0, he1⟩ := hrel
        by_cases hlt : q < L
        · obtain ⟨b, off, rfl, hc⟩ := RL.resolve_left (by omega)
          have e1 := hc q hlt
          clear hc
          obtain ⟨x, hx⟩ : ∃ x, Hid (s q = x) := ⟨_, rfl⟩
          rw [hx.out] at e1
          go_wp2_with fail
          refine (blank_any x _).mono ?_
          rintro e' w2 ⟨rfl, rfl⟩
          cases hb : blk x
          · have eE : P = wp := by rw [← hS.out]; exact scan_stop (by rw [hx.out]; exact hb)
            subst eE
            clear hb
            go_wp2_with fail
            refine (zzAdv_any aH n cH f ts lead p col k _ RH1 (by omega) hc0 (by omega) hp hk).mono ?_
            rintro e w4 ⟨rfl, b4⟩
            rw [hs.out, hR.out]
            have B4 := hide (B1.trans (b4.mono B1.size))
            clear RH1 b4 B1
            go_wp2
            go_ret
            exact ⟨rfl, B4⟩
          · have hst := scan_step (s := s) (T := T) (M := n + 1) (q := q) (wp := wp) (e := e) (by omega) (by rw [hx.out]; exact hb)
            rw [hx.out, hS.out] at hst
            have HST := hide hst
            clear hst hb
            have g1 := stp_gt e x
            have g2 := stp_le e x
            go_wp2_with fail
            refine (stop_any e x _ he0 (by omega)).mono ?_
            rintro e' w2 ⟨rfl, rfl⟩
            generalize stp e x = e2 at *
            by_cases hle : e2 ≤ T
            · have hst2 : Hid (scan s T (n + 1 - (q + 1)) (q + 1) e2 (q + 1) = P) := by
                have := HST.out
                rw [if_pos hle] at this
                exact this.symm
              clear HST
              go_wp2
              go_round
              case rel => exact ⟨q + 1, q + 1, e2, by go_num, rfl, by go_num, hst2, by omega, by omega, by omega, by omega⟩
              case measure => simp [intOf]; omega
            · have hst2 : Hid (scan s T (n + 1 - (q + 1)) (q + 1) e2 wp = P) := by
                have := HST.out
                rw [if_neg hle] at this
                exact this.symm
              clear HST
              go_wp2
              go_round
              case rel => exact ⟨q + 1, wp, e2, rfl, rfl, by go_num, hst2, by omega, by omega, by omega, by omega⟩
              case measure => simp [intOf]; omega
        · have eE : P = wp := by rw [← hS.out]; exact scan_stop (HE.out q (by omega))
          subst eE
          have hlt' : decide ((q : Int) < (L : Int)) = false := by simp; omega
          go_wp2_with fail
          refine (zzAdv_any aH n cH f ts lead p col k _ RH1 (by omega) hc0 (by omega) hp hk).mono ?_
          rintro e w4 ⟨rfl, b4⟩
          rw [hs.out, hR.out]
          have B4 := hide (B1.trans (b4.mono B1.size))
          clear RH1 b4 B1
          go_wp2
          go_ret
          exact ⟨rfl, B4⟩

set_option maxHeartbeats 1000000 in
set_option maxRecDepth 100000 in
theorem law3_out (a0 : Option Addr) (n c0 : Nat) (ts lead p col A : Int) (w : World) (hm : n ≤ maxLen)
    (hout : ¬ ((n : Int) ≤ 1048576 ∧ 0 ≤ p ∧ 0 ≤ col ∧ col ≤ 1073741824)) :
    Calls Try.prog 3 #[.slice a0 n c0, .int .i64 ts, .int .u8 lead, .int .i64 p, .int .i64 col, .int .i64 A] w fun e w' => e = .returned (.bool true) ∧ Below w.heap.size w w' := by
  by_cases k0 : 1048576 < (n : Int)
  · clear hout
    go_enter Try.func3, Try.ntmps3
    go_wp2_with fail
    refine (zzBytes5_any a0 n c0 ts lead p col A _ hm).mono ?_
    rintro e w' ⟨⟨x, rfl⟩, rfl⟩
    cases x
    all_goals (go_wp2; go_ret; exact ⟨rfl, Below.refl _ _⟩)
  by_cases k1 : p < 0
  · clear hout
    go_enter Try.func3, Try.ntmps3
    go_wp2_with fail
    refine (zzBytes5_any a0 n c0 ts lead p col A _ hm).mono ?_
    rintro e w' ⟨⟨x, rfl⟩, rfl⟩
    cases x
    all_goals (go_wp2; go_ret; exact ⟨rfl, Below.refl _ _⟩)
  by_cases k2 : col < 0
  · clear hout
    go_enter Try.func3, Try.ntmps3
    go_wp2_with fail
    refine (zzBytes5_any a0 n c0 ts lead p col A _ hm).mono ?_
    rintro e w' ⟨⟨x, rfl⟩, rfl⟩
    cases x
    all_goals (go_wp2; go_ret; exact ⟨rfl, Below.refl _ _⟩)
  · have k6 : 1073741824 < col := by omega
    clear hout
    go_enter Try.func3, Try.ntmps3
    go_wp2_with fail
    refine (zzBytes5_any a0 n c0 ts lead p col A _ hm).mono ?_
    rintro e w' ⟨⟨x, rfl⟩, rfl⟩
    cases x
    all_goals (go_wp2; go_ret; exact ⟨rfl, Below.refl _ _⟩)
end Go.Proofs.Qxb6617721a
