import Derived.Test.Qxb6617721aWalks
namespace Go.Proofs.Qxb6617721a
open Go.RowKit
set_option linter.unusedVariables false

theorem at_past (f : Nat → Int) (n : Nat) (ts lead : Int) : ∀ q, n + 1 ≤ q → blk (atF f n ts lead q) = false := by
  intro q hq
  unfold atF
  rw [if_neg (by omega)]
  by_cases ht : ts = 0
  · rw [if_pos ht]; rfl
  · rw [if_neg ht, if_neg (by omega)]; rfl

/-- the two boxes of advance: the cursor, the result -/
structure AL (w wr : World) (q : Nat) (cc : Int) : Prop where
  below : Below w.heap.size w wr
  c0 : wr.cell? ⟨w.heap.size, 0, none⟩ = some (.int .i64 (q : Int))
  c1 : wr.cell? ⟨w.heap.size, 1, none⟩ = some (.int .i64 cc)
  r0 : ∃ v, wr.cell? ⟨w.heap.size + 1, 0, none⟩ = some v
  r1 : ∃ v, wr.cell? ⟨w.heap.size + 1, 1, none⟩ = some v
  live : ∀ o, wr.frozen? ⟨w.heap.size, o, none⟩ = false
  live1 : ∀ o, wr.frozen? ⟨w.heap.size + 1, o, none⟩ = false

theorem cell_off (w : World) (a b : Addr) (v : Value) (h : a ≠ b) : (w.setCell a v).cell? b = w.cell? b := World.cell?_setCell_other _ _ _ _ h
theorem ne_off {g g' o o' : Nat} (h : g ≠ g' ∨ o ≠ o') : (⟨g, o, none⟩ : Addr) ≠ ⟨g', o', none⟩ := by
  intro e; injection e with e1 e2; omega

theorem AL.set0 {w wr : World} {q : Nat} {cc : Int} (h : AL w wr q cc) (q' : Nat) : AL w (wr.setCell ⟨w.heap.size, 0, none⟩ (.int .i64 (q' : Int))) q' cc where
  below := h.below.setCell (Nat.le_refl _) _
  c0 := World.cell?_setCell_same _ _ _ h.c0
  c1 := by rw [cell_off _ _ _ _ (ne_off (by omega))]; exact h.c1
  r0 := by rw [cell_off _ _ _ _ (ne_off (by omega))]; exact h.r0
  r1 := by rw [cell_off _ _ _ _ (ne_off (by omega))]; exact h.r1
  live := fun o => by rw [World.frozen?_setCell]; exact h.live o
  live1 := fun o => by rw [World.frozen?_setCell]; exact h.live1 o
theorem AL.set0' {w wr : World} {q : Nat} {cc : Int} (h : AL w wr q cc) (q' : Nat) (z : Int) (hz : z = (q' : Int)) : AL w (wr.setCell ⟨w.heap.size, 0, none⟩ (.int .i64 z)) q' cc := by
  subst hz; exact h.set0 q'
theorem AL.set1 {w wr : World} {q : Nat} {cc : Int} (h : AL w wr q cc) (c' : Int) : AL w (wr.setCell ⟨w.heap.size, 1, none⟩ (.int .i64 c')) q c' where
  below := h.below.setCell (Nat.le_refl _) _
  c0 := by rw [cell_off _ _ _ _ (ne_off (by omega))]; exact h.c0
  c1 := World.cell?_setCell_same _ _ _ h.c1
  r0 := by rw [cell_off _ _ _ _ (ne_off (by omega))]; exact h.r0
  r1 := by rw [cell_off _ _ _ _ (ne_off (by omega))]; exact h.r1
  live := fun o => by rw [World.frozen?_setCell]; exact h.live o
  live1 := fun o => by rw [World.frozen?_setCell]; exact h.live1 o

theorem LineAt.later {w w' : World} {g : Nat} {a : Option Addr} {n c : Nat} {f : Nat → Int} {ts lead : Int} (h : LineAt w g a n c f ts lead) (hb : Below w.heap.size w w') : LineAt w' g a n c f ts lead := by
  have hg : g < w.heap.size := World.block_lt_of_cell? _ _ h.head
  have hc : ∀ o, w'.cell? ⟨g, o, none⟩ = w.cell? ⟨g, o, none⟩ := fun o => hb.cell (p := ⟨g, o, none⟩) hg
  exact ⟨by rw [hc]; exact h.head, by rw [hc]; exact h.size, by rw [hc]; exact h.lead, h.row.later hb⟩

theorem AL.res {w wr : World} {q : Nat} {cc : Int} (h : AL w wr q cc) (x y : Value) :
    ((wr.setCell ⟨w.heap.size + 1, 0, none⟩ x).setCell ⟨w.heap.size + 1, 1, none⟩ y).cell? ⟨w.heap.size + 1, 0, none⟩ = some x ∧
    ((wr.setCell ⟨w.heap.size + 1, 0, none⟩ x).setCell ⟨w.heap.size + 1, 1, none⟩ y).cell? ⟨w.heap.size + 1, 1, none⟩ = some y ∧
    Below w.heap.size w ((wr.setCell ⟨w.heap.size + 1, 0, none⟩ x).setCell ⟨w.heap.size + 1, 1, none⟩ y) := by
  obtain ⟨v0, d0⟩ := h.r0
  obtain ⟨v1, d1⟩ := h.r1
  refine ⟨?_, ?_, (h.below.setCell (p := ⟨w.heap.size + 1, 0, none⟩) (Nat.le_succ _) _).setCell (p := ⟨w.heap.size + 1, 1, none⟩) (Nat.le_succ _) _⟩
  · rw [cell_off _ _ _ _ (ne_off (by omega))]; exact World.cell?_setCell_same _ _ _ d0
  · exact World.cell?_setCell_same (u := v1) _ _ _ (by rw [cell_off _ _ _ _ (ne_off (by omega))]; exact d1)

theorem at_is (g : Nat) (a : Option Addr) (n c : Nat) (f : Nat → Int) (ts lead : Int) (p : Nat) (w : World) (h : LineAt w g a n c f ts lead) (x : Int) (hx : Hid (atF f n ts lead p = x)) :
    Calls Try.prog 13 #[.pointer (some ⟨g, 0, none⟩), .int .i64 (p : Int)] w fun e w' => e = .returned (.int .u8 x) ∧ w' = w := by
  rw [← hx.out]; exact at_any g a n c f ts lead p w h

theorem step_space {s : Nat → Int} {n q : Nat} {cc k' : Int} {R : Nat × Int} (hA : Hid (adv s (n + 1 - q) q cc k' = R)) (hs : Hid (s q = 32)) (hk : 0 < k') (hq : q < n + 1) :
    Hid (adv s (n + 1 - (q + 1)) (q + 1) (cc + 1) (k' - 1) = R) := by
  show _ = R
  rw [← hA.out, show n + 1 - q = n + 1 - (q + 1) + 1 by omega, adv, if_pos hk, if_pos hs.out]
theorem step_tab {s : Nat → Int} {n q : Nat} {cc k' : Int} {R : Nat × Int} (hA : Hid (adv s (n + 1 - q) q cc k' = R)) (hs : Hid (s q = 9)) (hk : 0 < k') (hq : q < n + 1) (hw : ¬ k' < 4 - cc % 4) :
    Hid (adv s (n + 1 - (q + 1)) (q + 1) (cc + (4 - cc % 4)) (k' - (4 - cc % 4)) = R) := by
  show _ = R
  rw [← hA.out, show n + 1 - q = n + 1 - (q + 1) + 1 by omega, adv, if_pos hk, if_neg (by rw [hs.out]; decide), if_pos hs.out, if_neg hw]
theorem step_part {s : Nat → Int} {n q : Nat} {cc k' : Int} {R : Nat × Int} (hA : Hid (adv s (n + 1 - q) q cc k' = R)) (hs : Hid (s q = 9)) (hk : 0 < k') (hq : q < n + 1) (hw : k' < 4 - cc % 4) :
    R = (q, cc + k') := by
  rw [← hA.out, show n + 1 - q = n + 1 - (q + 1) + 1 by omega, adv, if_pos hk, if_neg (by rw [hs.out]; decide), if_pos hs.out, if_pos hw]
theorem step_other {s : Nat → Int} {m q : Nat} {cc k' x : Int} {R : Nat × Int} (hA : Hid (adv s m q cc k' = R)) (hs : Hid (s q = x)) (h1 : ¬ x = 32) (h2 : ¬ x = 9) : R = (q, cc) := by
  rw [← hA.out]
  cases m with
  | zero => rfl
  | succ m =>
    have e1 : ¬ s q = 32 := by rw [hs.out]; exact h1
    have e2 : ¬ s q = 9 := by rw [hs.out]; exact h2
    rw [adv, if_neg e1, if_neg e2]
    split <;> rfl

set_option maxHeartbeats 1000000 in
set_option maxRecDepth 100000 in
theorem adv_any (g : Nat) (a : Option Addr) (n c : Nat) (f : Nat → Int) (ts lead : Int) (p : Nat) (col k : Int) (w : World) (h : LineAt w g a n c f ts lead)
    (hn : n ≤ 1048576) (hc0 : 0 ≤ col) (hc1 : col ≤ 1100000000) (hp : (p : Int) ≤ 9223372036854775807) (hk : k ≤ 9223372036854775807) :
    Calls Try.prog 12 #[.pointer (some ⟨g, 0, none⟩), .agg #[.int .i64 (p : Int), .int .i64 col], .int .i64 k] w fun e w' =>
      e = .returned (.agg #[.int .i64 ((adv (atF f n ts lead) (n + 1 - p) p col k).1 : Int), .int .i64 (adv (atF f n ts lead) (n + 1 - p) p col k).2]) ∧ Below w.heap.size w w' := by
  obtain ⟨s, hs⟩ : ∃ s, Hid (atF f n ts lead = s) := ⟨_, rfl⟩
  obtain ⟨R, hR⟩ : ∃ R, Hid (adv (atF f n ts lead) (n + 1 - p) p col k = R) := ⟨_, rfl⟩
  rw [hR.out]
  go_enter Try.func12, Try.ntmps12
  go_wp2
  go_loopw [2] (fun kk wr => ∃ (q : Nat) (cc k' : Int), kk = .int .i64 k' ∧ AL w wr q cc ∧ Hid (adv s (n + 1 - q) q cc k' = R) ∧ p ≤ q ∧ (q ≤ n + 1 ∨ q = p) ∧ 0 ≤ cc ∧ cc ≤ col + 4 * ((q : Int) - p) ∧ k' ≤ k) (fun kk _ => (intOf kk).toNat)
  case atStart =>
    refine ⟨p, col, k, rfl, ⟨((Below.refl _ _).alloc (Nat.le_refl _) _).alloc (by simp) _, ?_, ?_, ?_, ?_, ?_, ?_⟩, ?_, Nat.le_refl _, .inr rfl, hc0, by omega, Int.le_refl _⟩
    · simp [go_sem]
    · simp [go_sem]
    · exact ⟨_, by simp [go_sem]; rfl⟩
    · exact ⟨_, by simp [go_sem]; rfl⟩
    · intro o; simp [go_sem]
    · intro o; simp [go_sem]
    · show adv s (n + 1 - p) p col k = R
      rw [← hs.out]; exact hR.out
  case round =>
    obtain ⟨q, cc, k', rfl, hL, hA, hpq, hqn, hcc0, hcc1, hkk⟩ := hrel
    have hline := h.later hL.below
    have e0 := hL.c0
    have e1 := hL.c1
    obtain ⟨v0, d0⟩ := hL.r0
    obtain ⟨v1, d1⟩ := hL.r1
    have f0 := hL.live
    have f1 := hL.live1
    by_cases hk0 : 0 < k'
    · obtain ⟨x, hx⟩ : ∃ x, Hid (atF f n ts lead q = x) := ⟨_, rfl⟩
      have hsx : Hid (s q = x) := by show s q = x; rw [← hs.out]; exact hx
      have hpast := hide (at_past f n ts lead)
      by_cases x32 : x = 32
      · subst x32
        have hq1 : q < n + 1 := by
          rcases Nat.lt_or_ge q (n + 1) with h' | h'
          · exact h'
          · have := hpast.out q h'; rw [hx.out] at this; cases this
        have hq2 : (q : Int) < 9223372036854775807 := by omega
        go_wp2_with fail
        refine (at_is g a n c f ts lead q _ hline _ hx).mono ?_
        rintro e w' ⟨rfl, rfl⟩
        go_wp2
        go_roundw
        case rel => exact ⟨q + 1, cc + 1, k' - 1, rfl, (hL.set0' (q + 1) _ (by omega)).set1 _, step_space hA hsx hk0 hq1, by omega, by omega, by omega, by omega, by omega⟩
        case measure => simp [intOf]; omega
      by_cases x9 : x = 9
      · subst x9
        have hq1 : q < n + 1 := by
          rcases Nat.lt_or_ge q (n + 1) with h' | h'
          · exact h'
          · have := hpast.out q h'; rw [hx.out] at this; cases this
        have hq2 : (q : Int) < 9223372036854775807 := by omega
        clear x32
        by_cases hw : k' < 4 - cc % 4
        · have eR := hide (step_part hA hsx hk0 hq1 hw)
          obtain ⟨m0, m1, m2⟩ := (hL.set1 (cc + k')).res (.int .i64 (q : Int)) (.int .i64 (cc + k'))
          have M2 := hide m2
          clear m2
          go_wp2_with fail
          refine (at_is g a n c f ts lead q _ hline _ hx).mono ?_
          rintro e w' ⟨rfl, rfl⟩
          go_wp2
          refine bodyPost_ret (v := .agg #[.int .i64 (q : Int), .int .i64 (cc + k')]) (by simp [results, Try.results12, go_sem, m0, m1]) rfl ⟨?_, M2⟩
          rw [eR.out]
        · have hS := step_tab hA hsx hk0 hq1 hw
          have hw1 : decide (k' < 4 - cc % 4) = false := by simp; omega
          have HW := hide hw
          clear hw
          go_wp2_with fail
          refine (at_is g a n c f ts lead q _ hline _ hx).mono ?_
          rintro e w' ⟨rfl, rfl⟩
          go_wp2
          have hw := HW.out
          go_roundw
          case rel => exact ⟨q + 1, cc + (4 - cc % 4), k' - (4 - cc % 4), rfl, (hL.set0' (q + 1) _ (by omega)).set1 _, hS, by omega, by omega, by omega, by omega, by omega⟩
          case measure => simp [intOf]; omega
      · have eR := hide (step_other hA hsx x32 x9)
        have x32' : (x == 32) = false := by simp [x32]
        have x9' : (x == 9) = false := by simp [x9]
        obtain ⟨m0, m1, m2⟩ := hL.res (.int .i64 (q : Int)) (.int .i64 cc)
        have M2 := hide m2
        clear m2
        go_wp2_with fail
        refine (at_is g a n c f ts lead q _ hline _ hx).mono ?_
        rintro e w' ⟨rfl, rfl⟩
        go_wp2
        refine bodyPost_ret (v := .agg #[.int .i64 (q : Int), .int .i64 cc]) (by simp [results, Try.results12, go_sem, m0, m1]) rfl ⟨?_, M2⟩
        rw [eR.out]
    · have eR : Hid (R = (q, cc)) := by show R = (q, cc); rw [← hA.out]; exact adv_neg _ _ _ _ _ (by omega)
      obtain ⟨m0, m1, m2⟩ := hL.res (.int .i64 (q : Int)) (.int .i64 cc)
      have M2 := hide m2
      clear m2
      go_wp2
      refine bodyPost_ret (v := .agg #[.int .i64 (q : Int), .int .i64 cc]) (by simp [results, Try.results12, go_sem, m0, m1]) rfl ⟨?_, M2⟩
      rw [eR.out]
end Go.Proofs.Qxb6617721a
