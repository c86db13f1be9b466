import Derived.Test.Qxb6617146aMarkC
import Derived.Deep.OwnRows
namespace Go.Proofs.Qxb6617146a
open Go.RowKit
set_option linter.unusedVariables false

theorem info40 : (Try.prog.info? 40).map (fun i => (i.zero, i.size, i.bytes)) = some (some (.agg #[.string ⟨#[]⟩, .string ⟨#[]⟩, .string ⟨#[]⟩, .slice none 0 0, .string ⟨#[]⟩, .int .i64 0]), 6, 96) := by kernel_rfl

/-- the cells that make lays for n branches -/
def madeBr (n : Nat) : Array Value := madeCells #[.string ⟨#[]⟩, .string ⟨#[]⟩, .string ⟨#[]⟩, .slice none 0 0, .string ⟨#[]⟩, .int .i64 0] (n * 6)
theorem size_madeBr (n : Nat) : (madeBr n).size = n * 6 := size_madeCells _ _

theorem make40 (n : Nat) (hn : n ≤ 65536) (w : World) :
    (Instr.makeSlice 34 (.int .i64 (n : Int)) (.int .i64 (n : Int))).run Try.prog w = .ok (.slice (some ⟨w.heap.size, 0, none⟩) n n) (w.alloc (.cells (madeBr n) 40)) := by
  obtain ⟨i, hi, hzz⟩ := Option.map_eq_some_iff.1 info40
  simp only [Prod.mk.injEq] at hzz
  obtain ⟨hz, hs, hb⟩ := hzz
  have hr := run_make (P := Try.prog) w 34 40 i _ Try.underlying34 hi hz .i64 .i64 n n (by omega) (Int.le_refl _) (by rw [hb]; omega) (by omega)
  simp only [Int.toNat_natCast, hs] at hr
  exact hr

/-- a row of n branches in block g, which is the call's own -/
def Own (w : World) (g : Nat) (a : Option Addr) (n : Nat) (f : Nat → Br) : Prop :=
  n = 0 ∨ (a = some ⟨g, 0, none⟩ ∧ (∀ i, i < n → BrAt w g (i * 6) (f i)) ∧ ∀ o, w.frozen? ⟨g, o, none⟩ = false)

/-- what holds in zzToTxn's loop behind k rounds -/
structure TLoop (w wr : World) (n k : Nat) (f : Nat → Br) : Prop where
  below : Below w.heap.size w wr
  size : wr.heap.size = w.heap.size + 1
  done : ∀ i, i < k → BrAt wr w.heap.size (i * 6) (f i)
  cells : ∀ o, o < n * 6 → ∃ v, wr.cell? ⟨w.heap.size, o, none⟩ = some v
  live : ∀ o, wr.frozen? ⟨w.heap.size, o, none⟩ = false

/-- a branch's six cells -/
def Br.row (r : Br) : List Value := [.string r.id, .string r.conf, .string r.canc, .slice r.da r.dl r.dc, .string r.st, .int .i64 r.att]

/-- six stores, one after the other -/
def put6 (w : World) (g o : Nat) (r : Br) : World :=
  (((((w.setCell ⟨g, o, none⟩ (.string r.id)).setCell ⟨g, o + 1, none⟩ (.string r.conf)).setCell ⟨g, o + 2, none⟩ (.string r.canc)).setCell ⟨g, o + 3, none⟩ (.slice r.da r.dl r.dc)).setCell ⟨g, o + 4, none⟩ (.string r.st)).setCell ⟨g, o + 5, none⟩ (.int .i64 r.att)

theorem put6_cells (w : World) (g o : Nat) (r : Br) : put6 w g o r = w.setCells g o r.row := rfl

theorem put6_at (w : World) (g o : Nat) (r : Br) (hc : ∀ j, j < 6 → ∃ v, w.cell? ⟨g, o + j, none⟩ = some v) : BrAt (put6 w g o r) g o r := by
  have h := World.cell?_setCells_in g r.row o w (fun j hj => by obtain ⟨v, hv⟩ := hc j hj; rw [hv]; rfl)
  rw [put6_cells]
  exact ⟨h 0 (by simp [Br.row]), h 1 (by simp [Br.row]), h 2 (by simp [Br.row]), h 3 (by simp [Br.row]), h 4 (by simp [Br.row]), h 5 (by simp [Br.row])⟩

theorem put6_out (w : World) (g o : Nat) (r : Br) (x : Nat) (hx : x < o ∨ o + 6 ≤ x) : (put6 w g o r).cell? ⟨g, x, none⟩ = w.cell? ⟨g, x, none⟩ := by
  rw [put6_cells]
  exact World.cell?_setCells_out g r.row o w ⟨g, x, none⟩ (fun _ _ => hx)

theorem put6_frozen (w : World) (g o : Nat) (r : Br) (x : Addr) : (put6 w g o r).frozen? x = w.frozen? x := by
  rw [put6_cells]; exact World.frozen?_setCells g r.row o w x

theorem put6_size (w : World) (g o : Nat) (r : Br) : (put6 w g o r).heap.size = w.heap.size := by simp [put6]

theorem put6_below {B g : Nat} {w0 w : World} (o : Nat) (r : Br) (h : Below B w0 w) (hg : B ≤ g) : Below B w0 (put6 w g o r) :=
  (((((h.setCell (p := ⟨g, o, none⟩) hg _).setCell (p := ⟨g, o + 1, none⟩) hg _).setCell (p := ⟨g, o + 2, none⟩) hg _).setCell (p := ⟨g, o + 3, none⟩) hg _).setCell (p := ⟨g, o + 4, none⟩) hg _).setCell (p := ⟨g, o + 5, none⟩) hg _

theorem BrAt.other {w : World} {g o o' : Nat} {r r' : Br} (h : BrAt w g o r) (ho : o + 6 ≤ o' ∨ o' + 6 ≤ o) : BrAt (put6 w g o' r') g o r :=
  ⟨by rw [put6_out _ _ _ _ _ (by omega)]; exact h.c0, by rw [put6_out _ _ _ _ _ (by omega)]; exact h.c1, by rw [put6_out _ _ _ _ _ (by omega)]; exact h.c2,
   by rw [put6_out _ _ _ _ _ (by omega)]; exact h.c3, by rw [put6_out _ _ _ _ _ (by omega)]; exact h.c4, by rw [put6_out _ _ _ _ _ (by omega)]; exact h.c5⟩

theorem BrAt.drew {w : World} {g o : Nat} {r : Br} (h : BrAt w g o r) : BrAt w.drew g o r := ⟨h.c0, h.c1, h.c2, h.c3, h.c4, h.c5⟩

theorem TLoop.step {w wr : World} {n k : Nat} {f : Nat → Br} (h : TLoop w wr n k f) (hlt : k < n) : TLoop w (put6 wr w.heap.size (k * 6) (f k)).drew n (k + 1) f where
  below := (put6_below _ _ h.below (Nat.le_refl _)).drew
  size := by rw [World.size_drew, put6_size]; exact h.size
  done := fun i hi => by
    by_cases e : i = k
    · subst e; exact (put6_at _ _ _ _ (fun j hj => h.cells _ (by omega))).drew
    · exact ((h.done i (by omega)).other (by omega)).drew
  cells := fun o ho => by
    rw [World.cell?_drew]
    by_cases hx : o < k * 6 ∨ k * 6 + 6 ≤ o
    · rw [put6_out _ _ _ _ _ hx]; exact h.cells o ho
    · have := put6_at wr w.heap.size (k * 6) (f k) (fun j hj => h.cells _ (by omega))
      obtain ⟨d, rfl⟩ : ∃ d, o = k * 6 + d := ⟨o - k * 6, by omega⟩
      match d, hx with
      | 0, _ => exact ⟨_, this.c0⟩
      | 1, _ => exact ⟨_, this.c1⟩
      | 2, _ => exact ⟨_, this.c2⟩
      | 3, _ => exact ⟨_, this.c3⟩
      | 4, _ => exact ⟨_, this.c4⟩
      | 5, _ => exact ⟨_, this.c5⟩
      | d + 6, hx => omega
  live := fun o => by rw [World.frozen?_drew, put6_frozen]; exact h.live o

theorem TLoop.start (w : World) (n : Nat) (f : Nat → Br) : TLoop w (w.alloc (.cells (madeBr n) 40)) n 0 f where
  below := (Below.refl _ _).alloc (Nat.le_refl _) _
  size := by simp
  done := fun i hi => by omega
  cells := fun o ho => by
    rw [World.cell?_alloc_new]
    exact ⟨_, Array.getElem?_eq_getElem (by rw [size_madeBr]; exact ho)⟩
  live := fun o => World.frozen?_alloc_new _ _ _ _

theorem eqNil29 (w : World) (a : Option Addr) (n c : Nat) : (binOp .eql 29 (.slice a n c) (.slice none 0 0)).run Try.prog w = .ok (.bool a.isNone) w :=
  Lib.run_eql_slice_nil w 29 44 a n c 0 0 Try.underlying29

set_option maxHeartbeats 400000 in
theorem toTxn_any (a : Option Addr) (n c : Nat) (f : Nat → Br) (w : World) (h : Brs w a n f) (hn : n ≤ 65536) :
    Calls Try.prog 14 #[.slice a n c] w fun e w' => ∃ a', e = .returned (.slice a' n n) ∧ Own w' w.heap.size a' n f ∧ Below w.heap.size w w' := by
  obtain ⟨hm, h⟩ := h
  clear hm
  have hmk := make40 n hn
  have heq := eqNil29
  rcases h with rfl | ⟨b, off, rfl, hc⟩
  · cases a with
    | none =>
      go_enter Try.func14, Try.ntmps14
      go_wp2
      go_ret
      exact ⟨none, rfl, .inl rfl, Below.refl _ _⟩
    | some x =>
      have hmk0 := make40 0 (by omega)
      simp only [Int.natCast_zero] at hmk0
      go_enter Try.func14, Try.ntmps14
      go_wp2
      go_loop [4] (fun i => i = .int .i64 0) (fun i => 0)
      case atStart => rfl
      case round =>
        subst hrel
        go_wp2
        go_ret
        exact ⟨_, rfl, .inl rfl, (Below.refl _ _).alloc (Nat.le_refl _) _⟩
  · go_enter Try.func14, Try.ntmps14
    go_wp2
    go_loopw [4] (fun i wr => ∃ k : Nat, k ≤ n ∧ i = .int .i64 k ∧ TLoop w wr n k f) (fun i _ => n - (intOf i).toNat)
    case atStart => exact ⟨0, Nat.zero_le _, rfl, TLoop.start w n f⟩
    case round =>
      obtain ⟨k, hk, rfl, hL⟩ := hrel
      by_cases hlt : k < n
      · have hbb : b < w.heap.size := World.block_lt_of_cell? _ _ (hc k hlt).c0
        have e0 : wr.cell? ⟨b, off + k * 6, none⟩ = some (.string (f k).id) := by rw [hL.below.cell (p := ⟨b, _, none⟩) hbb]; exact (hc k hlt).c0
        have e1 : wr.cell? ⟨b, off + k * 6 + 1, none⟩ = some (.string (f k).conf) := by rw [hL.below.cell (p := ⟨b, _, none⟩) hbb]; exact (hc k hlt).c1
        have e2 : wr.cell? ⟨b, off + k * 6 + 2, none⟩ = some (.string (f k).canc) := by rw [hL.below.cell (p := ⟨b, _, none⟩) hbb]; exact (hc k hlt).c2
        have e3 : wr.cell? ⟨b, off + k * 6 + 3, none⟩ = some (.slice (f k).da (f k).dl (f k).dc) := by rw [hL.below.cell (p := ⟨b, _, none⟩) hbb]; exact (hc k hlt).c3
        have e4 : wr.cell? ⟨b, off + k * 6 + 4, none⟩ = some (.string (f k).st) := by rw [hL.below.cell (p := ⟨b, _, none⟩) hbb]; exact (hc k hlt).c4
        have e5 : wr.cell? ⟨b, off + k * 6 + 5, none⟩ = some (.int .i64 (f k).att) := by rw [hL.below.cell (p := ⟨b, _, none⟩) hbb]; exact (hc k hlt).c5
        obtain ⟨v0, d0⟩ := hL.cells (k * 6) (by omega)
        obtain ⟨v1, d1⟩ := hL.cells (k * 6 + 1) (by omega)
        obtain ⟨v2, d2⟩ := hL.cells (k * 6 + 2) (by omega)
        obtain ⟨v3, d3⟩ := hL.cells (k * 6 + 3) (by omega)
        obtain ⟨v4, d4⟩ := hL.cells (k * 6 + 4) (by omega)
        obtain ⟨v5, d5⟩ := hL.cells (k * 6 + 5) (by omega)
        have hfr := hL.live
        go_wp2
        go_region
        go_wp2
        go_roundw
        case rel => exact ⟨k + 1, by omega, by go_num, hL.step hlt⟩
        case measure => simp [intOf]; omega
      · go_wp2
        go_ret
        have e : n = k := by omega
        exact ⟨_, rfl, .inr ⟨rfl, fun i hi => hL.done i (by omega), hL.live⟩, hL.below⟩
end Go.Proofs.Qxb6617146a
