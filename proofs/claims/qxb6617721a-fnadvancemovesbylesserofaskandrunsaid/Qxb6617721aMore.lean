import Derived.Test.Qxb6617721aAdv
namespace Go.Proofs.Qxb6617721a
open Go.RowKit
set_option linter.unusedVariables false

theorem below_drewN {B : Nat} {a w : World} (h : Below B a w) (q : Nat) : Below B a (w.drewN q) := ⟨h.os, h.tape, h.output, h.size, h.block⟩

set_option maxHeartbeats 1000000 in
set_option maxRecDepth 100000 in
theorem zzAdv_any (a : Option Addr) (n c : Nat) (f : Nat → Int) (ts lead : Int) (p : Nat) (col k : Int) (w : World) (h : Row w a n f)
    (hn : n ≤ 1048576) (hc0 : 0 ≤ col) (hc1 : col ≤ 1100000000) (hp : (p : Int) ≤ 9223372036854775807) (hk : k ≤ 9223372036854775807) :
    Calls Try.prog 10 #[.slice a n c, .int .i64 ts, .int .u8 lead, .int .i64 (p : Int), .int .i64 col, .int .i64 k] w fun e w' =>
      e = .returned (.tuple #[.int .i64 ((adv (atF f n ts lead) (n + 1 - p) p col k).1 : Int), .int .i64 (adv (atF f n ts lead) (n + 1 - p) p col k).2]) ∧ Below w.heap.size w w' := by
  obtain ⟨R, hR⟩ : ∃ R, Hid (adv (atF f n ts lead) (n + 1 - p) p col k = R) := ⟨_, rfl⟩
  rw [hR.out]
  go_enter Try.func10, Try.ntmps10
  go_wp2_with fail
  refine (adv_any w.heap.size a n c f ts lead p col k _ ⟨by simp, by simp, by simp, h.later ((Below.refl _ _).alloc (Nat.le_refl _) _)⟩ hn hc0 hc1 hp hk).mono ?_
  rintro e w1 ⟨rfl, hb⟩
  rw [hR.out]
  have hz := hb.size
  simp at hz
  have hB : Below w.heap.size w w1 := ((Below.refl _ _).alloc (Nat.le_refl _) _).trans (hb.mono (by simp))
  have HB := hide hB
  clear hB hb
  go_wp2
  go_quiet (fail)
  go_wp2
  go_ret2
  exact ⟨rfl, below_drewN (HB.out.alloc (by omega) _) _⟩

theorem info5 : (Try.prog.info? 5).map (fun i => (i.zero, i.size, i.bytes)) = some (some (.int .u8 0), 1, 1) := by kernel_rfl
theorem size5 : (Try.prog.info? 5).map (·.size) = some 1 := by kernel_rfl
theorem make22 (n : Nat) (hn : n ≤ 2097152) (w : World) :
    (Instr.makeSlice 22 (.int .i64 (n : Int)) (.int .i64 (n : Int))).run Try.prog w = .ok (.slice (some ⟨w.heap.size, 0, none⟩) n n) (w.alloc (.cells (madeCells #[.int .u8 0] n) 5)) :=
  run_make_row' 22 5 (.int .u8 0) 1 Try.underlying22 info5 rfl .i64 .i64 n (by omega) (by omega) w
theorem neNil22 (w : World) (a : Option Addr) (n c : Nat) : (binOp .neq 22 (.slice a n c) (.slice none 0 0)).run Try.prog w = .ok (.bool (!a.isNone)) w :=
  run_neq_slice_nil_any w 22 5 a n c 0 0 Try.underlying22

theorem below_setCells {B g : Nat} {w0 : World} (hg : B ≤ g) : ∀ (vs : List Value) (o : Nat) (w : World), Below B w0 w → Below B w0 (w.setCells g o vs)
  | [], _, _, h => h
  | v :: r, o, w, h => below_setCells hg r (o + 1) _ (h.setCell (p := ⟨g, o, none⟩) hg v)

theorem copy22 (w : World) (a : Option Addr) (n c : Nat) (f : Nat → Int) (h : Row w a n f) (hn : n ≤ 1048576) :
    ∃ w2, (∀ ty, (Builtin.copy_ #[22, 22] ty #[.slice (some ⟨w.heap.size, 0, none⟩) n n, .slice a n c]).run Try.prog (w.alloc (.cells (madeCells #[.int .u8 0] n) 5)) = .ok (.int .i64 n) w2) ∧
      Row w2 (some ⟨w.heap.size, 0, none⟩) n f ∧ Below w.heap.size w w2 := by
  obtain ⟨hm, h⟩ := h
  rcases h with rfl | ⟨b, off, rfl, hc⟩
  · exact ⟨_, fun ty => run_copy_none (P := Try.prog) _ 22 22 ty 5 _ a 0 0 0 c Try.underlying22 size5 rfl, ⟨hm, .inl rfl⟩, (Below.refl _ _).alloc (Nat.le_refl _) _⟩
  · let cs : List Value := (List.range n).map fun i => .int .u8 (f i)
    have hl : cs.length = n := by simp [cs]
    have hcell : ∀ j, j < n → ((w.alloc (.cells (madeCells #[.int .u8 0] n) 5)).cell? ⟨w.heap.size, 0 + j, none⟩).isSome = true := fun j hj => by
      rw [World.cell?_alloc_new, Array.getElem?_eq_getElem (by rw [size_madeCells]; omega)]; rfl
    have hrun := fun ty => run_copy_cells (P := Try.prog) (w.alloc (.cells (madeCells #[.int .u8 0] n) 5)) 22 22 ty 5 w.heap.size 0 n n ⟨b, off, none⟩ n c cs Try.underlying22 size5 (by rw [hl]; simp)
      (fun j v hv => by
        have hj : j < n := by
          rcases Nat.lt_or_ge j n with h' | h'
          · exact h'
          · rw [List.getElem?_eq_none (by rw [hl]; exact h')] at hv; cases hv
        have e : v = .int .u8 (f j) := by
          simp only [cs, List.getElem?_map, List.getElem?_range hj, Option.map_some, Option.some.injEq] at hv
          exact hv.symm
        subst e
        have hb : b < w.heap.size := World.block_lt_of_cell? _ _ (hc j hj)
        rw [WideShapes.add_plain, World.cell?_alloc_lt _ _ _ hb]
        exact hc j hj)
      (fun j hj => hcell j (by omega)) (fun j hj => World.frozen?_alloc_new _ _ _ _) (fun v hv => by
        simp only [cs, List.mem_map] at hv
        obtain ⟨i, _, rfl⟩ := hv
        rfl)
    refine ⟨_, fun ty => (hrun ty).trans (by rw [hl]; rfl), ⟨hm, .inr ⟨_, _, rfl, fun i hi => ?_⟩⟩, below_setCells (Nat.le_refl _) _ _ _ ((Below.refl _ _).alloc (Nat.le_refl _) _)⟩
    have := World.cell?_setCells_in w.heap.size cs 0 (w.alloc (.cells (madeCells #[.int .u8 0] n) 5)) (fun j hj => hcell j (by omega)) i (by omega)
    rw [this]
    simp [cs]

/-- zzLineBytes' loop -/
structure CLoop (w wr : World) (N k : Nat) (f : Nat → Int) : Prop where
  below : Below w.heap.size w wr
  row : ∃ F, wr.rowIs w.heap.size 5 N F ∧ ∀ i, i < k → F i = .int .u8 (f i)
theorem CLoop.start (w : World) (n : Nat) (f : Nat → Int) : CLoop w (w.alloc (.cells (madeCells #[.int .u8 0] n) 5)) n 0 f :=
  ⟨(Below.refl _ _).alloc (Nat.le_refl _) _, _, World.rowIs_made w _ n 5, fun i hi => by omega⟩
theorem CLoop.step {w wr : World} {n k : Nat} {f : Nat → Int} (h : CLoop w wr n k f) (v : Int) (e : f k = v) : CLoop w (wr.setCell ⟨w.heap.size, k, none⟩ (.int .u8 v)) n (k + 1) f := by
  subst e
  obtain ⟨hb, F, hr, hF⟩ := h
  refine ⟨hb.setCell (Nat.le_refl _) _, _, hr.set k _, fun i hi => ?_⟩
  by_cases e : i = k
  · subst e; simp
  · simp [e]; exact hF i (by omega)
theorem CLoop.done {w wr : World} {n : Nat} {f : Nat → Int} (h : CLoop w wr n n f) (hn : n ≤ maxLen) : Row wr (some ⟨w.heap.size, 0, none⟩) n f := by
  obtain ⟨hb, F, hr, hF⟩ := h
  refine ⟨hn, .inr ⟨_, 0, rfl, fun i hi => ?_⟩⟩
  rw [Nat.zero_add, hr.cell hi, hF i hi]

set_option maxHeartbeats 1000000 in
theorem line_any (a : Option Addr) (n c : Nat) (f : Nat → Int) (ts lead : Int) (w : World) (h : Row w a n f) (hn : n ≤ 1048576) :
    Calls Try.prog 6 #[.slice a n c, .int .i64 ts, .int .u8 lead] w fun e w' => ∃ a' L, e = .returned (.slice a' L L) ∧ Row w' a' L (atF f n ts lead) ∧ Below w.heap.size w w' ∧ Hid (L = if ts = 0 then n else n + 1) := by
  obtain ⟨hm, h⟩ := h
  clear hm
  have hfn : ∀ i, i < n → atF f n ts lead i = f i := fun i hi => by unfold atF; rw [if_pos hi]
  have HF := hide hfn
  clear hfn
  by_cases ht : ts = 0
  · subst ht
    have hmk := make22 n (by omega)
    go_enter Try.func6, Try.ntmps6
    go_wp2
    go_loopw [9] (fun i wr => ∃ k : Nat, k ≤ n ∧ i = .int .i64 k ∧ CLoop w wr n k (atF f n 0 lead)) (fun i _ => n - (intOf i).toNat)
    case atStart => exact ⟨0, Nat.zero_le _, rfl, CLoop.start w n _⟩
    case round =>
      obtain ⟨k, hk, rfl, hL⟩ := hrel
      by_cases hlt : k < n
      · obtain ⟨b, off, rfl, hc⟩ := h.resolve_left (by omega)
        have hbb : b < w.heap.size := World.block_lt_of_cell? _ _ (hc k hlt)
        have e0 : wr.cell? ⟨b, off + k, none⟩ = some (.int .u8 (f k)) := by rw [hL.below.cell (p := ⟨b, _, none⟩) hbb]; exact hc k hlt
        obtain ⟨F, hr, hF⟩ := hL.row
        have e1 := hr.cell hlt
        have hfr := hr.frozen
        clear hF
        go_wp2
        go_roundw
        case rel => exact ⟨k + 1, by omega, by go_num, hL.step _ (HF.out k hlt)⟩
        case measure => simp [intOf]; omega
      · go_wp2
        go_ret
        have e : k = n := by omega
        subst e
        exact ⟨_, _, rfl, hL.done (by unfold maxLen; omega), hL.below, by show _ = _; simp⟩
  · have ht' : (ts != 0) = true := by simp [ht]
    have hmk := make22 (n + 1) (by omega)
    have en : ((n + 1 : Nat) : Int) = (n : Int) + 1 := by omega
    rw [en] at hmk
    clear en
    go_enter Try.func6, Try.ntmps6
    go_wp2
    go_loopw [9] (fun i wr => ∃ k : Nat, k ≤ n ∧ i = .int .i64 k ∧ CLoop w wr (n + 1) k (atF f n ts lead)) (fun i _ => n - (intOf i).toNat)
    case atStart => exact ⟨0, Nat.zero_le _, rfl, CLoop.start w (n + 1) _⟩
    case round =>
      obtain ⟨k, hk, rfl, hL⟩ := hrel
      by_cases hlt : k < n
      · obtain ⟨b, off, rfl, hc⟩ := h.resolve_left (by omega)
        have hbb : b < w.heap.size := World.block_lt_of_cell? _ _ (hc k hlt)
        have e0 : wr.cell? ⟨b, off + k, none⟩ = some (.int .u8 (f k)) := by rw [hL.below.cell (p := ⟨b, _, none⟩) hbb]; exact hc k hlt
        obtain ⟨F, hr, hF⟩ := hL.row
        have e1 := hr.cell (i := k) (by omega)
        have hfr := hr.frozen
        clear hF
        go_wp2
        go_roundw
        case rel => exact ⟨k + 1, by omega, by go_num, hL.step _ (HF.out k hlt)⟩
        case measure => simp [intOf]; omega
      · have e : k = n := by omega
        subst e
        obtain ⟨F, hr, hF⟩ := hL.row
        have e1 := hr.cell (i := k) (by omega)
        have hfr := hr.frozen
        clear hF
        have el : atF f k ts lead k = lead := by unfold atF; rw [if_neg (by omega), if_neg ht, if_pos rfl]
        have EL := hide el
        clear el
        go_wp2
        go_ret
        exact ⟨_, _, rfl, (hL.step lead EL).done (by unfold maxLen; omega), (hL.step lead EL).below, rfl⟩

theorem runE_stop {s : Nat → Int} {m q : Nat} {e : Int} (h : blk (s q) = false) : runE s m q e = e := by
  cases m with
  | zero => rfl
  | succ m => rw [runE, if_neg (by rw [h]; decide)]
theorem runE_step {s : Nat → Int} {M q : Nat} {e : Int} (hq : q < M) (h : blk (s q) = true) : runE s (M - q) q e = runE s (M - (q + 1)) (q + 1) (stp e (s q)) := by
  rw [show M - q = M - (q + 1) + 1 by omega, runE, if_pos h]

set_option maxHeartbeats 1000000 in
theorem run_any (a : Option Addr) (L c : Nat) (s : Nat → Int) (p : Nat) (col : Int) (M : Nat) (w : World) (h : Row w a L s) (hL : L ≤ M) (hM : M ≤ 1048577) (hend : ∀ q, L ≤ q → blk (s q) = false)
    (hc0 : 0 ≤ col) (hc1 : col ≤ 1100000000) (hp : (p : Int) ≤ 9223372036854775807) :
    Calls Try.prog 7 #[.slice a L c, .int .i64 (p : Int), .int .i64 col] w fun e w' => e = .returned (.int .i64 (runE s (M - p) p col)) ∧ w' = w := by
  obtain ⟨_, h⟩ := h
  have HE := hide hend
  clear hend
  obtain ⟨E, hE⟩ : ∃ E, Hid (runE s (M - p) p col = E) := ⟨_, rfl⟩
  rw [hE.out]
  go_enter Try.func7, Try.ntmps7
  go_wp2
  go_loop [7, 8] (fun ev iv => ∃ (q : Nat) (e : Int), ev = .int .i64 e ∧ iv = .int .i64 (q : Int) ∧ Hid (runE s (M - q) q e = E) ∧ p ≤ q ∧ (q ≤ L ∨ q = p) ∧ 0 ≤ e ∧ e ≤ col + 4 * ((q : Int) - p)) (fun _ iv => L - (intOf iv).toNat)
  case atStart => exact ⟨p, col, rfl, rfl, hE, Nat.le_refl _, .inr rfl, hc0, by omega⟩
  case round =>
    obtain ⟨q, e, rfl, rfl, hR, hpq, hqL, he0, he1⟩ := hrel
    by_cases hlt : q < L
    · obtain ⟨b, off, rfl, hc⟩ := h.resolve_left (by omega)
      have e1 := hc q hlt
      clear hc
      obtain ⟨x, hx⟩ : ∃ x, Hid (s q = x) := ⟨_, rfl⟩
      rw [hx.out] at e1
      go_wp2_with fail
      refine (blank_any x _).mono ?_
      rintro e' w' ⟨rfl, rfl⟩
      cases hb : blk x
      · have eE : Hid (E = e) := by show E = e; rw [← hR.out]; exact runE_stop (by rw [hx.out]; exact hb)
        clear hb
        go_wp2
        go_ret
        exact ⟨by rw [eE.out]; rfl, rfl⟩
      · have hst : Hid (runE s (M - (q + 1)) (q + 1) (stp e x) = E) := by
          have hh := runE_step (s := s) (M := M) (q := q) (e := e) (by omega) (by rw [hx.out]; exact hb)
          rw [hx.out] at hh
          exact hh.symm.trans hR.out
        have g1 := stp_gt e x
        have g2 := stp_le e x
        clear hb
        go_wp2_with fail
        refine (stop_any e x _ he0 (by omega)).mono ?_
        rintro e' w' ⟨rfl, rfl⟩
        generalize stp e x = e2 at *
        go_wp2
        go_round
        case rel => exact ⟨q + 1, e2, rfl, by go_num, hst, by omega, by omega, by omega, by omega⟩
        case measure => simp [intOf]; omega
    · have eE : Hid (E = e) := by show E = e; rw [← hR.out]; exact runE_stop (HE.out q (by omega))
      have hlt' : decide ((q : Int) < (L : Int)) = false := by simp; omega
      go_wp2
      go_ret
      exact ⟨by rw [eE.out]; rfl, rfl⟩

/-- some bool is returned -/
def BoolEnd (e : Ending) : Prop := ∃ x, e = .returned (.bool x)
theorem zzBytes5_any (a : Option Addr) (n c : Nat) (ts lead p col k : Int) (w : World) (h : n ≤ maxLen) :
    Calls Try.prog 5 #[.slice a n c, .int .i64 ts, .int .u8 lead, .int .i64 p, .int .i64 col, .int .i64 k] w fun e w' => BoolEnd e ∧ w' = w := by
  unfold maxLen at h
  go_enter Try.func5, Try.ntmps5
  go_wp2
  all_goals (go_ret; exact ⟨⟨_, rfl⟩, rfl⟩)
theorem zzBytes11_any (a : Option Addr) (n c : Nat) (ts lead p col k k' : Int) (w : World) (h : n ≤ maxLen) :
    Calls Try.prog 11 #[.slice a n c, .int .i64 ts, .int .u8 lead, .int .i64 p, .int .i64 col, .int .i64 k, .int .i64 k'] w fun e w' => BoolEnd e ∧ w' = w := by
  unfold maxLen at h
  go_enter Try.func11, Try.ntmps11
  go_wp2
  all_goals (go_ret; exact ⟨⟨_, rfl⟩, rfl⟩)
end Go.Proofs.Qxb6617721a
