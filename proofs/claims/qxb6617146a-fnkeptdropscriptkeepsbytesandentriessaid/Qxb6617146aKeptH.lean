import Derived.Test.Qxb6617146aKeptG
import Derived.Test.Qxb6617146aKeptE
import Derived.Test.Qxb6617146aKeptA
namespace Go.Proofs.Qxb6617146a
open Go.RowKit Go.Maps
set_option linter.unusedVariables false

/-- the slice that is put into the map at place x -/
def vOf (H : Nat → Hd) (A : Nat → Option Addr) (x : Nat) : Value := .slice (A x) (H x).n (H x).n
theorem vOf_upd (H : Nat → Hd) (A : Nat → Option Addr) (k : Nat) (a : Option Addr) : upd (vOf H A) k (.slice a (H k).n (H k).n) = vOf H (upd A k a) := by
  funext x
  unfold vOf
  by_cases e : x = k
  · subst e; rw [upd_at, upd_at]
  · rw [upd_off _ _ e, upd_off _ _ e]

/-- the map behind k rounds -/
structure ML (w wr : World) (n B k : Nat) (f : Nat → ByteArray) (H : Nat → Hd) (ck cl cp : Nat → Value) (A : Nat → Option Addr) (g : Nat → Nat) (D : DataW Value) : Prop where
  rows : Rows3 w wr n ck cl cp
  base : w.heap.size + 3 ≤ B
  map : wr.ownsMap Try.prog 9 rd B k D
  mapI : MapI f k (vOf H A) D
  own : ∀ x, x < k → Own wr (g x) (A x) (H x).n (H x).r ∧ (0 < (H x).n → B < g x)
theorem ML.later {w wr wr' : World} {n B k : Nat} {f : Nat → ByteArray} {H : Nat → Hd} {ck cl cp : Nat → Value} {A : Nat → Option Addr} {g : Nat → Nat} {D : DataW Value} (h : ML w wr n B k f H ck cl cp A g D) (hb : Below wr.heap.size wr wr') : ML w wr' n B k f H ck cl cp A g D :=
  ⟨h.rows.later hb, h.base, own_block h.map (hb.block B h.map.lt), h.mapI, fun x hx => ⟨(h.own x hx).1.later hb, (h.own x hx).2⟩⟩
def MLx (w wr : World) (n B k : Nat) (f : Nat → ByteArray) (H : Nat → Hd) (ck cl cp : Nat → Value) : Prop := ∃ A g D, ML w wr n B k f H ck cl cp A g D
theorem MLx.later {w wr wr' : World} {n B k : Nat} {f : Nat → ByteArray} {H : Nat → Hd} {ck cl cp : Nat → Value} (h : MLx w wr n B k f H ck cl cp) (hb : Below wr.heap.size wr wr') : MLx w wr' n B k f H ck cl cp :=
  let ⟨A, g, D, h⟩ := h; ⟨A, g, D, h.later hb⟩

theorem ML.step {w wr : World} {n B k : Nat} {f : Nat → ByteArray} {H : Nat → Hd} {ck cl cp : Nat → Value} {A : Nat → Option Addr} {g : Nat → Nat} {D : DataW Value} (h : ML w wr n B k f H ck cl cp A g D) {a : Option Addr} {g' : Nat}
    (ho : Own wr g' a (H k).n (H k).r) (hg : B < g') (hs : (f k).size ≤ 1048576) (hk : k ≤ 65536) :
    ∃ w2, (Instr.mapUpdate 51 (.map (some B)) (.string (f k)) (.slice a (H k).n (H k).n)).run Try.prog wr = .ok () w2 ∧ MLx w w2 n B (k + 1) f H ck cl cp := by
  obtain ⟨w2, hr, hm, ht⟩ := h.map.store key9 Try.underlying51 (by unfold maxLen; omega) (keyS hs) (val := .slice a (H k).n (H k).n) (d := .held (.slice a (H k).n (H k).n)) (ps := []) rfl
  have gr := ht.grown
  have kp : Keep B wr w2 := ⟨gr.os, gr.tape, gr.output, gr.size, fun i hi hne => gr.block i hi (by intro e; injection e with e; exact hne e)⟩
  refine ⟨w2, hr, upd A k a, upd g k g', _, ⟨h.rows.blocks (kp.below h.base h.rows.size), h.base, hm, ?_, fun x hx => ?_⟩⟩
  · rw [← vOf_upd]; exact h.mapI.step (h.map.tidy key9) _
  · by_cases e : x = k
    · subst e; rw [upd_at, upd_at]; exact ⟨ho.keep kp (by omega), fun _ => hg⟩
    · rw [upd_off _ _ e, upd_off _ _ e]
      obtain ⟨o1, o2⟩ := h.own x (by omega)
      exact ⟨o1.keep' kp (fun hn => by have := o2 hn; omega), o2⟩

/-- zzToTxn, and the store that follows it -/
theorem toTxn_ml {w : World} {n B k : Nat} {f : Nat → ByteArray} {H : Nat → Hd} {ck cl cp : Nat → Value} {b off b' off' : Nat} (hb : Brs w (H k).a (H k).n (H k).r) (hn : (H k).n ≤ 65536) (hs : (f k).size ≤ 1048576) (hk : k ≤ 65536)
    (c1 : w.cell? ⟨b, off + k, none⟩ = some (.string (f k))) (c2 : w.cell? ⟨b', off' + k, none⟩ = some (.slice (H k).a (H k).n (H k).c)) (W : World) (h : MLx w W n B k f H ck cl cp) :
    Calls Try.prog 14 #[.slice (H k).a (H k).n (H k).c] W fun e w' => ∃ a w2, e = .returned (.slice a (H k).n (H k).n) ∧ w'.cell? ⟨b, off + k, none⟩ = some (.string (f k)) ∧ w'.cell? ⟨b', off' + k, none⟩ = some (.slice (H k).a (H k).n (H k).c) ∧
      (Instr.mapUpdate 51 (.map (some B)) (.string (f k)) (.slice a (H k).n (H k).n)).run Try.prog w' = .ok () w2 ∧ MLx w w2 n B (k + 1) f H ck cl cp := by
  obtain ⟨A, g, D, h⟩ := h
  refine (toTxn_ex _ _ _ _ _ (hb.later h.rows.below) hn).mono ?_
  rintro e w' ⟨a, g', rfl, ho, hbl, hg⟩
  have hB := h.map.lt
  obtain ⟨w2, hr, hx⟩ := (h.later hbl).step ho (by omega) hs hk
  have bl := (h.later hbl).rows.below
  refine ⟨a, w2, rfl, ?_, ?_, hr, hx⟩
  · rw [bl.cell (p := ⟨b, off + k, none⟩) (World.block_lt_of_cell? _ _ c1)]; exact c1
  · rw [bl.cell (p := ⟨b', off' + k, none⟩) (World.block_lt_of_cell? _ _ c2)]; exact c2

/-- what lies in memory while the gids are dropped -/
structure Mem (w wr : World) (n B gz N : Nat) (mv : Value) (H : Nat → Hd) (ck cl cp : Nat → Value) (A : Nat → Option Addr) (g : Nat → Nat) (D : DataW Value) (y : Int) : Prop where
  rows : Rows3 w wr n ck cl cp
  kept : Kept wr gz mv y
  map : Mp wr B mv N D
  own : ∀ x, x < n → Own wr (g x) (A x) (H x).n (H x).r
structure Fx (w : World) (n B gz : Nat) (mv : Value) (H : Nat → Hd) (g : Nat → Nat) : Prop where
  hB : w.heap.size + 3 ≤ B
  hz : w.heap.size + 3 ≤ gz
  hBz : mv = .map (some B) → B ≠ gz
  hg : ∀ x, x < n → 0 < (H x).n → g x ≠ gz ∧ g x ≠ B ∧ w.heap.size + 3 ≤ g x

theorem Own.keep2 {w w' : World} {g p q : Nat} {a : Option Addr} {n : Nat} {f : Nat → Br} (h : Own w g a n f) (hb : Keep2 p q w w') (hk : 0 < n → g ≠ p ∧ g ≠ q) : Own w' g a n f := by
  rcases h with h | ⟨e, hc, hl⟩
  · exact .inl h
  · by_cases hn : n = 0
    · exact .inl hn
    have hg : g < w.heap.size := World.block_lt_of_cell? _ _ (hc 0 (by omega)).c0
    obtain ⟨k1, k2⟩ := hk (by omega)
    have he := hb.block g hg k1 k2
    exact .inr ⟨e, fun i hi => (hc i hi).later fun x => World.cell?_of_block (w := w) (a := ⟨g, x, none⟩) he, fun o => by rw [World.frozen?_of_block (w := w) (a := ⟨g, o, none⟩) he]; exact hl o⟩

section
variable {w wr wr' : World} {n B gz N : Nat} {mv : Value} {H : Nat → Hd} {ck cl cp : Nat → Value} {A : Nat → Option Addr} {g : Nat → Nat} {D D' : DataW Value} {y y' : Int}
theorem Mem.later (h : Mem w wr n B gz N mv H ck cl cp A g D y) (hb : Below wr.heap.size wr wr') : Mem w wr' n B gz N mv H ck cl cp A g D y :=
  ⟨h.rows.later hb, h.kept.later hb, h.map.later hb, fun x hx => (h.own x hx).later hb⟩
theorem Mem.drop (h : Mem w wr n B gz N mv H ck cl cp A g D y) (fx : Fx w n B gz mv H g) (k1 : Kept wr' gz mv y') (m1 : Mp wr' B mv N D') (kp : Keep2 gz B wr wr') : Mem w wr' n B gz N mv H ck cl cp A g D' y' :=
  ⟨h.rows.blocks ⟨kp.os, kp.tape, kp.output, kp.size, fun i hi => kp.block i (by have := h.rows.size; omega) (by have := fx.hz; omega) (by have := fx.hB; omega)⟩, k1, m1,
   fun x hx => (h.own x hx).keep2 kp (fun hn => ⟨(fx.hg x hx hn).1, (fx.hg x hx hn).2.1⟩)⟩
theorem Mem.setP (h : Mem w wr n B gz N mv H ck cl cp A g D y) (fx : Fx w n B gz mv H g) (v : Value) {j : Nat} (hj : j < n) : Mem w (wr.setCell ⟨w.heap.size + 2, j, none⟩ v) n B gz N mv H ck cl (upd cp j v) A g D y := by
  have kp : Keep (w.heap.size + 2) wr (wr.setCell ⟨w.heap.size + 2, j, none⟩ v) := (Keep.refl _ _).setCell _ _
  exact ⟨h.rows.setP v hj, h.kept.keep kp (by have := fx.hz; omega), h.map.keep kp (fun _ => by have := fx.hB; omega), fun x hx => (h.own x hx).keep' kp (fun hn => by have := (fx.hg x hx hn).2.2; omega)⟩
end
theorem drewN_below (w : World) (q : Nat) : Below w.heap.size w (w.drewN q) := below_drewN (Below.refl _ _) q
end Go.Proofs.Qxb6617146a
