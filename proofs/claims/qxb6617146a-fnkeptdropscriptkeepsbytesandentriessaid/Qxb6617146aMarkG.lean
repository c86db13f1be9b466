import Derived.Test.Qxb6617146aMarkD
import Derived.Test.Qxb6617146aMarkF
import Derived.Laws.IdiomCopy
namespace Go.Proofs.Qxb6617146a
open Go.RowKit
set_option linter.unusedVariables false

theorem info9 : (Try.prog.info? 9).map (fun i => (i.zero, i.size, i.bytes)) = some (some (.string ⟨#[]⟩), 1, 16) := by kernel_rfl
theorem size9 : (Try.prog.info? 9).map (·.size) = some 1 := by kernel_rfl
def madeStr (n : Nat) : Array Value := madeCells #[.string ⟨#[]⟩] n

theorem make28 (n : Nat) (hn : n ≤ 65536) (w : World) :
    (Instr.makeSlice 28 (.int .i64 (n : Int)) (.int .i64 (n : Int))).run Try.prog w = .ok (.slice (some ⟨w.heap.size, 0, none⟩) n n) (w.alloc (.cells (madeStr n) 9)) :=
  run_make_row' 28 9 (.string ⟨#[]⟩) 16 Try.underlying28 info9 rfl .i64 .i64 n (by omega) (by omega) w

theorem below_setCells {B g : Nat} {w0 : World} (hg : B ≤ g) : ∀ (vs : List Value) (o : Nat) (w : World), Below B w0 w → Below B w0 (w.setCells g o vs)
  | [], _, _, h => h
  | v :: r, o, w, h => below_setCells hg r (o + 1) _ (h.setCell (p := ⟨g, o, none⟩) hg v)

theorem copy28 (w : World) (a : Option Addr) (n c : Nat) (f : Nat → ByteArray) (h : Strs w a n f) (hn : n ≤ 65536) :
    ∃ w2, (∀ ty, (Builtin.copy_ #[28, 28] ty #[.slice (some ⟨w.heap.size, 0, none⟩) n n, .slice a n c]).run Try.prog (w.alloc (.cells (madeStr n) 9)) = .ok (.int .i64 n) w2) ∧
      Strs w2 (some ⟨w.heap.size, 0, none⟩) n f ∧ Below w.heap.size w w2 ∧ w2.heap.size = w.heap.size + 1 := by
  obtain ⟨hm, h⟩ := h
  rcases h with rfl | ⟨b, off, rfl, hc⟩
  · exact ⟨_, fun ty => run_copy_none (P := Try.prog) _ 28 28 ty 9 _ a 0 0 0 c Try.underlying28 size9 rfl, ⟨hm, .inl rfl⟩, (Below.refl _ _).alloc (Nat.le_refl _) _, by simp⟩
  · let cs : List Value := (List.range n).map fun i => .string (f i)
    have hl : cs.length = n := by simp [cs]
    have hcell : ∀ j, j < n → ((w.alloc (.cells (madeStr n) 9)).cell? ⟨w.heap.size, 0 + j, none⟩).isSome = true := fun j hj => by
      rw [World.cell?_alloc_new, Array.getElem?_eq_getElem (by rw [madeStr, size_madeCells]; omega)]; rfl
    have hrun := fun ty => run_copy_cells (P := Try.prog) (w.alloc (.cells (madeStr n) 9)) 28 28 ty 9 w.heap.size 0 n n ⟨b, off, none⟩ n c cs Try.underlying28 size9 (by rw [hl]; simp)
      (fun j v hv => by
        have hj : j < n := by
          rcases Nat.lt_or_ge j n with h' | h'
          · exact h'
          · rw [List.getElem?_eq_none (by rw [hl]; exact h')] at hv; cases hv
        have e : v = .string (f j) := by
          simp only [cs, List.getElem?_map, List.getElem?_range hj, Option.map_some, Option.some.injEq] at hv
          exact hv.symm
        subst e
        have hb : b < w.heap.size := World.block_lt_of_cell? _ _ (hc j hj)
        rw [WideShapes.add_plain, World.cell?_alloc_lt _ _ _ hb]
        exact hc j hj)
      (fun j hj => hcell j (by omega)) (fun j hj => World.frozen?_alloc_new _ _ _ _) (fun v hv => by
        simp only [cs, List.mem_map] at hv
        obtain ⟨i, _, rfl⟩ := hv
        rfl)
    refine ⟨_, fun ty => (hrun ty).trans (by rw [hl]; rfl), ⟨hm, .inr ⟨_, _, rfl, fun i hi => ?_⟩⟩, below_setCells (Nat.le_refl _) _ _ _ ((Below.refl _ _).alloc (Nat.le_refl _) _), ?_⟩
    · have := World.cell?_setCells_in w.heap.size cs 0 (w.alloc (.cells (madeStr n) 9)) (fun j hj => hcell j (by omega)) i (by omega)
      rw [this]
      simp [cs]
    · have : ∀ (vs : List Value) (o : Nat) (w : World) (g : Nat), (w.setCells g o vs).heap.size = w.heap.size := by
        intro vs
        induction vs with
        | nil => intro o w g; rfl
        | cons v r ih => intro o w g; rw [World.setCells, ih, World.size_setCell]
      rw [this, World.size_alloc]

theorem neNil28 (w : World) (a : Option Addr) (n c : Nat) : (binOp .neq 28 (.slice a n c) (.slice none 0 0)).run Try.prog w = .ok (.bool (!a.isNone)) w :=
  run_neq_slice_nil_any w 28 9 a n c 0 0 Try.underlying28
end Go.Proofs.Qxb6617146a
