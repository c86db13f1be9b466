import Derived.Test.Qxb6617721aMore
namespace Go.Proofs.Qxb6617721a
open Go.RowKit
set_option linter.unusedVariables false

theorem adv_pos (s : Nat → Int) : ∀ k p c n, (adv s k p c n).1 ≤ p + k
  | 0, p, _, _ => Nat.le_refl _
  | k + 1, p, c, n => by
    have h1 := adv_pos s k (p + 1) (c + 1) (n - 1)
    have h2 := adv_pos s k (p + 1) (c + (4 - c % 4)) (n - (4 - c % 4))
    unfold adv
    split
    · split
      · omega
      · split
        · split
          · simp only []; omega
          · omega
        · simp only []; omega
    · simp only []; omega

/-- the head as the law holds it behind its copy -/
structure HeadIs (w w2 : World) (v : Value) (n : Nat) (f : Nat → Int) : Prop where
  below : Below w.heap.size w w2
  has : ∃ A C, v = .slice A n C ∧ Row w2 A n f

set_option maxHeartbeats 1000000 in
set_option maxRecDepth 100000 in
theorem law4_main (a0 : Option Addr) (n c0 : Nat) (f : Nat → Int) (ts lead : Int) (p : Nat) (col A B : Int) (w : World) (R0 : Row w a0 n f)
    (hn : (n : Int) ≤ 1048576) (hp : (p : Int) ≤ 9223372036854775807) (hc0 : 0 ≤ col) (hc1 : col ≤ 1073741824) (hA : 0 ≤ A) (hB : 0 ≤ B) (hAB : A ≤ 9223372036854775807 - B) :
    Calls Try.prog 4 #[.slice a0 n c0, .int .i64 ts, .int .u8 lead, .int .i64 (p : Int), .int .i64 col, .int .i64 A, .int .i64 B] w fun e w' => e = .returned (.bool true) ∧ Below w.heap.size w w' := by
  obtain ⟨s, hs⟩ : ∃ s, Hid (atF f n ts lead = s) := ⟨_, rfl⟩
  obtain ⟨E, hE⟩ : ∃ E, Hid (runE s (n + 1 - p) p col = E) := ⟨_, rfl⟩
  obtain ⟨R1, hR1⟩ : ∃ R, Hid (adv s (n + 1 - p) p col A = R) := ⟨_, rfl⟩
  obtain ⟨R3, hR3⟩ : ∃ R, Hid (adv s (n + 1 - p) p col (A + B) = R) := ⟨_, rfl⟩
  have hpast : ∀ q, n + 1 ≤ q → blk (s q) = false := by rw [← hs.out]; exact at_past f n ts lead
  have hR2 : Hid (adv s (n + 1 - R1.1) R1.1 R1.2 B = R3) := by
    show _ = R3
    rw [← hR1.out, ← hR3.out]
    exact adv_split hpast _ _ _ _ _ hA hB (by omega)
  have E0 : col ≤ E := by rw [← hE.out]; exact runE_ge _ _ _ _
  have E1 : E ≤ col + 4194308 := by
    rw [← hE.out]
    have := runE_le s (n + 1 - p) p col
    omega
  have e1 := adv_eq s (n + 1 - p) p col A hA
  have e3 := adv_eq s (n + 1 - p) p col (A + B) (by omega)
  rw [hR1.out, hE.out] at e1
  rw [hR3.out, hE.out] at e3
  have b1 : R1.2 = min (col + A) E := by rw [e1]
  have b3 : R3.2 = min (col + (A + B)) E := by rw [e3]
  have q1 : (R1.1 : Int) ≤ 9223372036854775807 := by
    have := adv_pos s (n + 1 - p) p col A
    rw [hR1.out] at this
    omega
  have c10 : 0 ≤ R1.2 := by omega
  have c11 : R1.2 ≤ 1100000000 := by omega
  have B3 := hide b3
  have HP := hide hpast
  clear e1 e3 b1 b3 hpast
  have hmk := make22 n (by omega)
  have hne := neNil22
  obtain ⟨wi, hcp, hS2, hB2⟩ := copy22 w a0 n c0 f R0 (by omega)
  have HI : Hid (Row wi (some ⟨w.heap.size, 0, none⟩) n f ∧ Below w.heap.size w wi) := ⟨hS2, hB2⟩
  clear hS2 hB2
  go_enter Try.func4, Try.ntmps4
  go_wp2_with fail
  refine (zzBytes11_any a0 n c0 ts lead p col A B _ R0.1).mono ?_
  rintro e w' ⟨⟨x, rfl⟩, rfl⟩
  cases x
  · go_wp2; go_ret; exact ⟨rfl, Below.refl _ _⟩
  go_upto_if 60 with fail
  go_cut [0, 15] (fun v z W2 => HeadIs w' W2 v n f)
  case first =>
    cases a0 with
    | none =>
      go_wp2_with fail
      go_meet
      case rel => exact ⟨Below.refl _ _, none, c0, rfl, R0⟩
    | some x =>
      go_wp2_with fail
      go_meet
      case rel => exact ⟨HI.out.2, _, n, rfl, HI.out.1⟩
  case rest =>
    obtain ⟨hB0, aH, cH, rfl, RH⟩ := hcut
    clear hmk hne hcp HI R0
    go_wp2_with fail
    refine (line_any aH n cH f ts lead _ RH (by omega)).mono ?_
    rintro e w1 ⟨aL, L, rfl, RL, b1, hL⟩
    rw [hs.out] at RL
    have hLn : L ≤ n + 1 ∧ n ≤ L := by rw [hL.out]; split <;> omega
    have hend : ∀ q, L ≤ q → blk (s q) = false := by
      intro q hq
      by_cases hq1 : n + 1 ≤ q
      · exact HP.out q hq1
      · have hl := hL.out
        split at hl
        · have hqn : q = n := by omega
          rename_i hts
          rw [← hs.out, hqn]
          unfold atF
          rw [if_neg (by omega), if_pos hts]
          rfl
        · omega
    have RH1 := RH.later b1
    have B1 : Below w'.heap.size w' w1 := hB0.trans (b1.mono hB0.size)
    clear RH b1 hL hB0
    go_wp2_with fail
    refine (run_any aL L L s p col (n + 1) _ RL hLn.1 (by omega) hend hc0 (by omega) hp).mono ?_
    rintro e w1 ⟨rfl, rfl⟩
    rw [hE.out]
    clear RL hLn hend
    go_upto_if 83 with fail
    go_cut [18] (fun v wx => v = .int .i64 R3.2 ∧ wx = w1)
    case first =>
      have b3 := B3.out
      by_cases hab : A + B < E - col
      · have e9 : Hid (col + A + B = R3.2) := by show col + A + B = R3.2; omega
        clear b3
        go_wp2_with fail
        go_meet
        case rel => exact ⟨by rw [e9.out], rfl⟩
      · have e9 : Hid (E = R3.2) := by show E = R3.2; omega
        clear b3
        go_wp2_with fail
        go_meet
        case rel => exact ⟨by rw [e9.out], rfl⟩
    case rest =>
      obtain ⟨rfl, rfl⟩ := hcut
      go_wp2_with fail
      refine (zzAdv_any aH n cH f ts lead p col A _ RH1 (by omega) hc0 (by omega) hp (by omega)).mono ?_
      rintro e w2 ⟨rfl, b2⟩
      rw [hs.out, hR1.out]
      have RH2 := RH1.later b2
      have B2 := B1.trans (b2.mono B1.size)
      clear RH1 b2 B1
      go_wp2_with fail
      refine (zzAdv_any aH n cH f ts lead R1.1 R1.2 B _ RH2 (by omega) c10 c11 q1 (by omega)).mono ?_
      rintro e w3 ⟨rfl, b3⟩
      rw [hs.out, hR2.out]
      have RH3 := RH2.later b3
      have B3' := B2.trans (b3.mono B2.size)
      clear RH2 b3 B2
      go_wp2_with fail
      refine (zzAdv_any aH n cH f ts lead p col (A + B) _ RH3 (by omega) hc0 (by omega) hp (by omega)).mono ?_
      rintro e w4 ⟨rfl, b4⟩
      rw [hs.out, hR3.out]
      have B4 := hide (B3'.trans (b4.mono B3'.size))
      clear RH3 b4 B3'
      go_wp2
      go_ret
      exact ⟨rfl, B4⟩

set_option maxHeartbeats 1000000 in
set_option maxRecDepth 100000 in
theorem law4_out (a0 : Option Addr) (n c0 : Nat) (ts lead p col A B : Int) (w : World) (hm : n ≤ maxLen) (hB0 : B ≤ 9223372036854775807)
    (hout : ¬ ((n : Int) ≤ 1048576 ∧ 0 ≤ p ∧ 0 ≤ col ∧ col ≤ 1073741824 ∧ 0 ≤ A ∧ 0 ≤ B ∧ A ≤ 9223372036854775807 - B)) :
    Calls Try.prog 4 #[.slice a0 n c0, .int .i64 ts, .int .u8 lead, .int .i64 p, .int .i64 col, .int .i64 A, .int .i64 B] w fun e w' => e = .returned (.bool true) ∧ Below w.heap.size w w' := by
  by_cases k0 : 1048576 < (n : Int)
  · clear hout
    go_enter Try.func4, Try.ntmps4
    go_wp2_with fail
    refine (zzBytes11_any a0 n c0 ts lead p col A B _ hm).mono ?_
    rintro e w' ⟨⟨x, rfl⟩, rfl⟩
    cases x
    all_goals (go_wp2; go_ret; exact ⟨rfl, Below.refl _ _⟩)
  by_cases k1 : p < 0
  · clear hout
    go_enter Try.func4, Try.ntmps4
    go_wp2_with fail
    refine (zzBytes11_any a0 n c0 ts lead p col A B _ hm).mono ?_
    rintro e w' ⟨⟨x, rfl⟩, rfl⟩
    cases x
    all_goals (go_wp2; go_ret; exact ⟨rfl, Below.refl _ _⟩)
  by_cases k2 : col < 0
  · clear hout
    go_enter Try.func4, Try.ntmps4
    go_wp2_with fail
    refine (zzBytes11_any a0 n c0 ts lead p col A B _ hm).mono ?_
    rintro e w' ⟨⟨x, rfl⟩, rfl⟩
    cases x
    all_goals (go_wp2; go_ret; exact ⟨rfl, Below.refl _ _⟩)
  by_cases k3 : 1073741824 < col
  · clear hout
    go_enter Try.func4, Try.ntmps4
    go_wp2_with fail
    refine (zzBytes11_any a0 n c0 ts lead p col A B _ hm).mono ?_
    rintro e w' ⟨⟨x, rfl⟩, rfl⟩
    cases x
    all_goals (go_wp2; go_ret; exact ⟨rfl, Below.refl _ _⟩)
  by_cases k4 : A < 0
  · clear hout
    go_enter Try.func4, Try.ntmps4
    go_wp2_with fail
    refine (zzBytes11_any a0 n c0 ts lead p col A B _ hm).mono ?_
    rintro e w' ⟨⟨x, rfl⟩, rfl⟩
    cases x
    all_goals (go_wp2; go_ret; exact ⟨rfl, Below.refl _ _⟩)
  by_cases k5 : B < 0
  · clear hout
    go_enter Try.func4, Try.ntmps4
    go_wp2_with fail
    refine (zzBytes11_any a0 n c0 ts lead p col A B _ hm).mono ?_
    rintro e w' ⟨⟨x, rfl⟩, rfl⟩
    cases x
    all_goals (go_wp2; go_ret; exact ⟨rfl, Below.refl _ _⟩)
  · have k6 : 9223372036854775807 - B < A := by omega
    clear hout
    go_enter Try.func4, Try.ntmps4
    go_wp2_with fail
    refine (zzBytes11_any a0 n c0 ts lead p col A B _ hm).mono ?_
    rintro e w' ⟨⟨x, rfl⟩, rfl⟩
    cases x
    all_goals (go_wp2; go_ret; exact ⟨rfl, Below.refl _ _⟩)
end Go.Proofs.Qxb6617721a
