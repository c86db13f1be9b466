import Derived.Test.Qxb6617146aKeptF
import Derived.ArgAppend
namespace Go.Proofs.Qxb6617146a
open Go.RowKit Go.Maps
set_option linter.unusedVariables false

theorem info3 : (Try.prog.info? 3).map (fun i => (i.zero, i.size, i.bytes)) = some (some (.int .i64 0), 1, 8) := by kernel_rfl
theorem info4 : (Try.prog.info? 4).map (fun i => (i.zero, i.size, i.bytes)) = some (some (.bool false), 1, 1) := by kernel_rfl

theorem make_cap {t e : TypeId} {z : Value} {by_ : Nat} (ht : Try.prog.underlying t = some (.slice e)) (hi : (Try.prog.info? e).map (fun i => (i.zero, i.size, i.bytes)) = some (some z, 1, by_)) (hb : by_ ≤ 16) (n : Nat) (hn : n ≤ 65536) (w : World) :
    (Instr.makeSlice t (.int .i64 0) (.int .i64 (n : Int))).run Try.prog w = .ok (.slice (some ⟨w.heap.size, 0, none⟩) 0 n) (w.alloc (.cells (madeCells z.cells n) e)) := by
  obtain ⟨i, hi, hzz⟩ := Option.map_eq_some_iff.1 hi
  simp only [Prod.mk.injEq] at hzz
  obtain ⟨hz, hs, hby⟩ := hzz
  have h1 : (i.bytes : Int) * n ≤ 281474976710656 := by
    rw [hby]
    have : ((by_ : Int)) * n ≤ 16 * 65536 := Int.mul_le_mul (by omega) (by omega) (by omega) (by omega)
    omega
  have hr := run_make (P := Try.prog) w t e i _ ht hi hz .i64 .i64 0 n (by omega) (by omega) h1 (by omega)
  simp only [Int.toNat_natCast, hs, Int.toNat_zero, Nat.mul_one] at hr
  exact hr

theorem app_at {t e : TypeId} {z : Value} {by_ : Nat} (ht : Try.prog.underlying t = some (.slice e)) (hi : (Try.prog.info? e).map (fun i => (i.zero, i.size, i.bytes)) = some (some z, 1, by_)) (W : World) (g m n g' : Nat) (v : Value)
    (hv : W.cell? ⟨g', 0, none⟩ = some v) (h1 : v.oneCell' = true) (hm : m < n) (hc : (W.cell? ⟨g, m, none⟩).isSome = true) (hf : W.frozen? ⟨g, m, none⟩ = false) (ty : TypeId) :
    (Builtin.append_ #[t, t] ty #[.slice (some ⟨g, 0, none⟩) m n, .slice (some ⟨g', 0, none⟩) 1 1]).run Try.prog W = .ok (.slice (some ⟨g, 0, none⟩) (m + 1) n) (W.setCell ⟨g, m, none⟩ v) := by
  obtain ⟨i, hi, hzz⟩ := Option.map_eq_some_iff.1 hi
  simp only [Prod.mk.injEq] at hzz
  obtain ⟨hz, hs, hby⟩ := hzz
  have h := run_append_room_cells (P := Try.prog) W t ty e i ht hi g 0 m n ⟨g', 0, none⟩ 1 1 [v] (by simp [hs]) (fun j u hj => by
      match j, hj with
      | 0, hj => simp at hj; subst hj; simpa [Addr.add] using hv
      | j + 1, hj => simp at hj)
    (fun u hu => by simp at hu; subst hu; exact h1) (by omega)
    (fun j hj => by simp at hj; subst hj; simpa [hs] using hc) (fun j hj => by simp at hj; subst hj; simpa [hs] using hf)
  rw [hs] at h
  simpa [World.setCells] using h

/-- three rows of n cells, of the call's own, one after the other -/
structure Rows3 (w wr : World) (n : Nat) (ck cl cp : Nat → Value) : Prop where
  below : Below w.heap.size w wr
  size : w.heap.size + 3 ≤ wr.heap.size
  k : ∀ j, j < n → wr.cell? ⟨w.heap.size, j, none⟩ = some (ck j)
  l : ∀ j, j < n → wr.cell? ⟨w.heap.size + 1, j, none⟩ = some (cl j)
  p : ∀ j, j < n → wr.cell? ⟨w.heap.size + 2, j, none⟩ = some (cp j)
  live : ∀ b o, b < 3 → wr.frozen? ⟨w.heap.size + b, o, none⟩ = false

theorem made_cell (z : Value) (hz : z.cells = #[z]) (n j : Nat) (hj : j < n) : (madeCells z.cells n)[j]? = some z := by
  rw [hz]
  simp [madeCells, hj, Nat.mod_one]

theorem frozen_lt (w : World) (o : Obj) (a : Addr) (h : a.block < w.heap.size) : (w.alloc o).frozen? a = w.frozen? a := ((Below.refl _ w).alloc (Nat.le_refl _) o).frozen (p := a) h

theorem Rows3.start (w : World) (n : Nat) : Rows3 w (((w.alloc (.cells (madeCells (Value.string ⟨#[]⟩).cells n) 9)).alloc (.cells (madeCells (Value.int .i64 0).cells n) 3)).alloc (.cells (madeCells (Value.bool false).cells n) 4)) n
    (fun _ => .string ⟨#[]⟩) (fun _ => .int .i64 0) (fun _ => .bool false) where
  below := (((Below.refl _ _).alloc (Nat.le_refl _) _).alloc (by simp) _).alloc (by simp; omega) _
  size := by simp
  k := fun j hj => by
    rw [World.cell?_alloc_lt _ _ _ (by simp; omega), World.cell?_alloc_lt _ _ _ (by simp), World.cell?_alloc_new]
    exact made_cell _ rfl n j hj
  l := fun j hj => by
    have e := World.size_alloc w (.cells (madeCells (Value.string ⟨#[]⟩).cells n) 9)
    rw [World.cell?_alloc_lt _ _ _ (by simp), ← e, World.cell?_alloc_new]
    exact made_cell _ rfl n j hj
  p := fun j hj => by
    have e : ((w.alloc (.cells (madeCells (Value.string ⟨#[]⟩).cells n) 9)).alloc (.cells (madeCells (Value.int .i64 0).cells n) 3)).heap.size = w.heap.size + 2 := by simp
    rw [← e, World.cell?_alloc_new]
    exact made_cell _ rfl n j hj
  live := fun b o hb => by
    have e1 := World.size_alloc w (.cells (madeCells (Value.string ⟨#[]⟩).cells n) 9)
    have e2 : ((w.alloc (.cells (madeCells (Value.string ⟨#[]⟩).cells n) 9)).alloc (.cells (madeCells (Value.int .i64 0).cells n) 3)).heap.size = w.heap.size + 2 := by simp
    match b, hb with
    | 0, _ => rw [frozen_lt _ _ _ (by simp; omega), frozen_lt _ _ _ (by simp)]; exact World.frozen?_alloc_new _ _ _ _
    | 1, _ => rw [frozen_lt _ _ _ (by simp), ← e1]; exact World.frozen?_alloc_new _ _ _ _
    | 2, _ => rw [← e2]; exact World.frozen?_alloc_new _ _ _ _
    | b + 3, hb => omega

/-- blocks that are kept keep the rows -/
theorem Rows3.blocks {w wr wr' : World} {n : Nat} {ck cl cp : Nat → Value} (h : Rows3 w wr n ck cl cp) (hb : Below (w.heap.size + 3) wr wr') : Rows3 w wr' n ck cl cp where
  below := h.below.trans (hb.mono (by omega))
  size := Nat.le_trans h.size hb.size
  k := fun j hj => by rw [hb.cell (p := ⟨_, j, none⟩) (by show w.heap.size < _; omega)]; exact h.k j hj
  l := fun j hj => by rw [hb.cell (p := ⟨_, j, none⟩) (by show w.heap.size + 1 < _; omega)]; exact h.l j hj
  p := fun j hj => by rw [hb.cell (p := ⟨_, j, none⟩) (by show w.heap.size + 2 < _; omega)]; exact h.p j hj
  live := fun b o hb3 => by rw [hb.frozen (p := ⟨_, o, none⟩) (by show w.heap.size + b < _; omega)]; exact h.live b o hb3
theorem Rows3.later {w wr wr' : World} {n : Nat} {ck cl cp : Nat → Value} (h : Rows3 w wr n ck cl cp) (hb : Below wr.heap.size wr wr') : Rows3 w wr' n ck cl cp :=
  h.blocks (hb.mono h.size)

theorem set_row {w : World} {g n m : Nat} {c : Nat → Value} (h : ∀ j, j < n → w.cell? ⟨g, j, none⟩ = some (c j)) (v : Value) (hm : m < n) : ∀ j, j < n → (w.setCell ⟨g, m, none⟩ v).cell? ⟨g, j, none⟩ = some (upd c m v j) := fun j hj => by
  by_cases e : j = m
  · subst e; rw [upd_at]; exact World.cell?_setCell_same _ _ _ (h j hj)
  · rw [upd_off _ _ e, cell_off _ _ _ _ _ e]; exact h j hj
theorem set_far {w : World} {g g' n m : Nat} {c : Nat → Value} (h : ∀ j, j < n → w.cell? ⟨g, j, none⟩ = some (c j)) (v : Value) (hg : g ≠ g') : ∀ j, j < n → (w.setCell ⟨g', m, none⟩ v).cell? ⟨g, j, none⟩ = some (c j) := fun j hj => by
  rw [World.cell?_setCell_other _ _ _ _ (by intro e; injection e with e _; exact hg e.symm)]; exact h j hj
theorem Rows3.setK {w wr : World} {n m : Nat} {ck cl cp : Nat → Value} (h : Rows3 w wr n ck cl cp) (v : Value) (hm : m < n) : Rows3 w (wr.setCell ⟨w.heap.size, m, none⟩ v) n (upd ck m v) cl cp where
  below := h.below.setCell (p := ⟨w.heap.size, m, none⟩) (Nat.le_refl _) v
  size := by simpa using h.size
  k := set_row h.k v hm
  l := set_far h.l v (by omega)
  p := set_far h.p v (by omega)
  live := fun b o hb => by rw [World.frozen?_setCell]; exact h.live b o hb
theorem Rows3.setL {w wr : World} {n m : Nat} {ck cl cp : Nat → Value} (h : Rows3 w wr n ck cl cp) (v : Value) (hm : m < n) : Rows3 w (wr.setCell ⟨w.heap.size + 1, m, none⟩ v) n ck (upd cl m v) cp where
  below := h.below.setCell (p := ⟨w.heap.size + 1, m, none⟩) (by show w.heap.size ≤ w.heap.size + 1; omega) v
  size := by simpa using h.size
  k := set_far h.k v (by omega)
  l := set_row h.l v hm
  p := set_far h.p v (by omega)
  live := fun b o hb => by rw [World.frozen?_setCell]; exact h.live b o hb
theorem Rows3.setP {w wr : World} {n m : Nat} {ck cl cp : Nat → Value} (h : Rows3 w wr n ck cl cp) (v : Value) (hm : m < n) : Rows3 w (wr.setCell ⟨w.heap.size + 2, m, none⟩ v) n ck cl (upd cp m v) where
  below := h.below.setCell (p := ⟨w.heap.size + 2, m, none⟩) (by show w.heap.size ≤ w.heap.size + 2; omega) v
  size := by simpa using h.size
  k := set_far h.k v (by omega)
  l := set_far h.l v (by omega)
  p := set_row h.p v hm
  live := fun b o hb => by rw [World.frozen?_setCell]; exact h.live b o hb

/-- the table in the three rows behind k rounds -/
structure TL (w wr : World) (n k m : Nat) (f K : Nat → ByteArray) (L : Nat → Nat) (ck cl cp : Nat → Value) : Prop where
  rows : Rows3 w wr n ck cl cp
  hk : ∀ j, j < m → ck j = .string (K j)
  hl : ∀ j, j < m → cl j = .int .i64 (L j)
  hp : ∀ j, j < m → cp j = .bool true
  tab : Tab f k m K L

theorem TL.strs {w wr : World} {n k m : Nat} {f K : Nat → ByteArray} {L : Nat → Nat} {ck cl cp : Nat → Value} (h : TL w wr n k m f K L ck cl cp) (hk : k ≤ n) (hn : n ≤ 65536) : Strs wr (some ⟨w.heap.size, 0, none⟩) m K :=
  ⟨by have := h.tab.le; unfold maxLen; omega, .inr ⟨_, 0, rfl, fun j hj => by rw [Nat.zero_add, h.rows.k j (by have := h.tab.le; omega), h.hk j hj]⟩⟩
theorem TL.hit {w wr : World} {n k m j : Nat} {f K : Nat → ByteArray} {L : Nat → Nat} {ck cl cp : Nat → Value} (h : TL w wr n k m f K L ck cl cp) (hkn : k < n) (hj : j < m) (e : K j = f k) :
    TL w (wr.setCell ⟨w.heap.size + 1, j, none⟩ (.int .i64 k)) n (k + 1) m f K (upd L j k) ck (upd cl j (.int .i64 k)) cp where
  rows := h.rows.setL _ (by have := h.tab.le; omega)
  hk := h.hk
  hl := fun j' hj' => by
    by_cases ej : j' = j
    · subst ej; rw [upd_at, upd_at]
    · rw [upd_off _ _ ej, upd_off _ _ ej]; exact h.hl j' hj'
  hp := h.hp
  tab := h.tab.hit hj e
theorem TL.miss {w wr wr' : World} {n k m : Nat} {f K : Nat → ByteArray} {L : Nat → Nat} {ck cl cp : Nat → Value} (h : TL w wr n k m f K L ck cl cp) (e : ∀ j, j < m → K j ≠ f k)
    (hr : Rows3 w wr' n (upd ck m (.string (f k))) (upd cl m (.int .i64 k)) (upd cp m (.bool true))) :
    TL w wr' n (k + 1) (m + 1) f (upd K m (f k)) (upd L m k) (upd ck m (.string (f k))) (upd cl m (.int .i64 k)) (upd cp m (.bool true)) where
  rows := hr
  hk := fun j hj => by
    by_cases ej : j = m
    · subst ej; rw [upd_at, upd_at]
    · rw [upd_off _ _ ej, upd_off _ _ ej]; exact h.hk j (by omega)
  hl := fun j hj => by
    by_cases ej : j = m
    · subst ej; rw [upd_at, upd_at]
    · rw [upd_off _ _ ej, upd_off _ _ ej]; exact h.hl j (by omega)
  hp := fun j hj => by
    by_cases ej : j = m
    · subst ej; rw [upd_at]
    · rw [upd_off _ _ ej]; exact h.hp j (by omega)
  tab := h.tab.miss e

theorem makeMap_hint (n : Nat) (w : World) : (Instr.makeMap 51 (some (.int .i64 (n : Int)))).run Try.prog w = .ok (.map (some w.heap.size)) (w.alloc (.map #[] 0)) := by
  simp [Instr.makeMap, run_underlying Try.underlying51, asInt]
  rfl

/-- the three appends of a new key: their worlds -/
theorem TL.push {w wr : World} {n k m : Nat} {f K : Nat → ByteArray} {L : Nat → Nat} {ck cl cp : Nat → Value} (h : TL w wr n k m f K L ck cl cp) (hkn : k < n) (e : ∀ j, j < m → K j ≠ f k) :
    ∃ W1 W2 W3,
      (∀ ty, (Builtin.append_ #[28, 28] ty #[.slice (some ⟨w.heap.size, 0, none⟩) m n, .slice (some ⟨wr.heap.size, 0, none⟩) 1 1]).run Try.prog (wr.alloc (.cells #[.string (f k)] 9)) = .ok (.slice (some ⟨w.heap.size, 0, none⟩) (m + 1) n) W1) ∧
      (∀ ty, (Builtin.append_ #[49, 49] ty #[.slice (some ⟨w.heap.size + 1, 0, none⟩) m n, .slice (some ⟨W1.heap.size, 0, none⟩) 1 1]).run Try.prog (W1.alloc (.cells #[.int .i64 k] 3)) = .ok (.slice (some ⟨w.heap.size + 1, 0, none⟩) (m + 1) n) W2) ∧
      (∀ ty, (Builtin.append_ #[50, 50] ty #[.slice (some ⟨w.heap.size + 2, 0, none⟩) m n, .slice (some ⟨W2.heap.size, 0, none⟩) 1 1]).run Try.prog (W2.alloc (.cells #[.bool true] 4)) = .ok (.slice (some ⟨w.heap.size + 2, 0, none⟩) (m + 1) n) W3) ∧
      (∀ (b off i : Nat) (v : Value), b < w.heap.size → wr.cell? ⟨b, off + i, none⟩ = some v → W1.cell? ⟨b, off + i, none⟩ = some v ∧ W2.cell? ⟨b, off + i, none⟩ = some v) ∧
      TL w W3 n (k + 1) (m + 1) f (upd K m (f k)) (upd L m k) (upd ck m (.string (f k))) (upd cl m (.int .i64 k)) (upd cp m (.bool true)) := by
  have hm : m < n := by have := h.tab.le; omega
  have r0 := h.rows.later ((Below.refl _ _).alloc (Nat.le_refl _) (.cells #[.string (f k)] 9))
  have a1 := app_at Try.underlying28 info9 (wr.alloc (.cells #[.string (f k)] 9)) w.heap.size m n wr.heap.size (.string (f k)) (by simp) rfl hm (by rw [r0.k m hm]; rfl) (r0.live 0 m (by omega))
  obtain ⟨W1, hW1⟩ : ∃ W1, (wr.alloc (.cells #[.string (f k)] 9)).setCell ⟨w.heap.size, m, none⟩ (.string (f k)) = W1 := ⟨_, rfl⟩
  have r1 := r0.setK (.string (f k)) hm
  rw [hW1] at a1 r1
  have r1' := r1.later ((Below.refl _ _).alloc (Nat.le_refl _) (.cells #[.int .i64 k] 3))
  have a2 := app_at Try.underlying49 info3 (W1.alloc (.cells #[.int .i64 k] 3)) (w.heap.size + 1) m n W1.heap.size (.int .i64 k) (by simp) rfl hm (by rw [r1'.l m hm]; rfl) (r1'.live 1 m (by omega))
  obtain ⟨W2, hW2⟩ : ∃ W2, (W1.alloc (.cells #[.int .i64 k] 3)).setCell ⟨w.heap.size + 1, m, none⟩ (.int .i64 k) = W2 := ⟨_, rfl⟩
  have r2 := r1'.setL (.int .i64 k) hm
  rw [hW2] at a2 r2
  have r2' := r2.later ((Below.refl _ _).alloc (Nat.le_refl _) (.cells #[.bool true] 4))
  have a3 := app_at Try.underlying50 info4 (W2.alloc (.cells #[.bool true] 4)) (w.heap.size + 2) m n W2.heap.size (.bool true) (by simp) rfl hm (by rw [r2'.p m hm]; rfl) (r2'.live 2 m (by omega))
  have r3 := r2'.setP (.bool true) hm
  refine ⟨W1, W2, _, a1, a2, a3, fun b off i v hb hv => ?_, h.miss e r3⟩
  have e0 : w.cell? ⟨b, off + i, none⟩ = some v := by rw [← h.rows.below.cell (p := ⟨b, off + i, none⟩) hb]; exact hv
  exact ⟨by rw [r1.below.cell (p := ⟨b, off + i, none⟩) hb]; exact e0, by rw [r2.below.cell (p := ⟨b, off + i, none⟩) hb]; exact e0⟩
end Go.Proofs.Qxb6617146a
