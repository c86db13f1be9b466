import Derived.Test.Qxb6617146aMarkG
import Derived.Deep.DeepCutAuto
import Derived.Deep.RegionHeld3
import Derived.Deep.RegionWith
namespace Go.Proofs.Qxb6617146a
open Go.RowKit
set_option linter.unusedVariables false

/-- where a cut from l on lies -/
def cutA (a : Option Addr) (m l s : Nat) : Option Addr := if m = l then a else a.map (·.add (l * s))

theorem size28 (w : World) : (sizeOf (Try.prog.elem 28)).run Try.prog w = .ok 1 w := by kernel_rfl
theorem size29 (w : World) : (sizeOf (Try.prog.elem 29)).run Try.prog w = .ok 6 w := by kernel_rfl
theorem und28 : Try.prog.underlying 28 = some (.slice (Try.prog.elem 28)) := by kernel_rfl
theorem und29 : Try.prog.underlying 29 = some (.slice (Try.prog.elem 29)) := by kernel_rfl

theorem slice28_h (w : World) (a : Option Addr) (n c i : Nat) (hi : i ≤ c) :
    (Instr.slice 28 (.slice a n c) none (some (.int .i64 (i : Int))) none).run Try.prog w = .ok (.slice (cutA a c 0 1) i c) w := by
  rw [run_slice_h w 28 a n c und28 .i64 i (by omega) (by omega), size28]
  simp [Result.andThen, sliced, cutA]
theorem slice28_l (w : World) (a : Option Addr) (n c i : Nat) (hi : i ≤ n) :
    (Instr.slice 28 (.slice a n c) (some (.int .i64 (i : Int))) none none).run Try.prog w = .ok (.slice (cutA a c i 1) (n - i) (c - i)) w := by
  rw [run_slice_l w 28 a n c und28 .i64 i (by omega) (by omega), size28]
  simp [Result.andThen, sliced, cutA]
theorem slice29_h (w : World) (a : Option Addr) (n c i : Nat) (hi : i ≤ c) :
    (Instr.slice 29 (.slice a n c) none (some (.int .i64 (i : Int))) none).run Try.prog w = .ok (.slice (cutA a c 0 6) i c) w := by
  rw [run_slice_h w 29 a n c und29 .i64 i (by omega) (by omega), size29]
  simp [Result.andThen, sliced, cutA]
theorem slice29_l (w : World) (a : Option Addr) (n c i : Nat) (hi : i ≤ n) :
    (Instr.slice 29 (.slice a n c) (some (.int .i64 (i : Int))) none none).run Try.prog w = .ok (.slice (cutA a c i 6) (n - i) (c - i)) w := by
  rw [run_slice_l w 29 a n c und29 .i64 i (by omega) (by omega), size29]
  simp [Result.andThen, sliced, cutA]

theorem cutA_some (b off m l s : Nat) (h : m ≠ l) : cutA (some ⟨b, off, none⟩) m l s = some ⟨b, off + l * s, none⟩ := by
  simp [cutA, h, WideShapes.add_plain]
theorem cutA_zero (b off m s : Nat) : cutA (some ⟨b, off, none⟩) m 0 s = some ⟨b, off, none⟩ := by
  by_cases h : m = 0
  · simp [cutA, h]
  · rw [cutA_some _ _ _ _ _ h]; simp

theorem Strs.head {w : World} {a : Option Addr} {n : Nat} {f : Nat → ByteArray} (h : Strs w a n f) (c : Nat) {i : Nat} (hi : i ≤ n) : Strs w (cutA a c 0 1) i f := by
  obtain ⟨hm, h⟩ := h
  refine ⟨by omega, ?_⟩
  rcases h with rfl | ⟨b, off, rfl, hc⟩
  · exact .inl (by omega)
  · exact .inr ⟨b, off, cutA_zero _ _ _ _, fun j hj => hc j (by omega)⟩
theorem Strs.tail {w : World} {a : Option Addr} {n c : Nat} {f : Nat → ByteArray} (h : Strs w a n f) (hnc : n ≤ c) {i : Nat} (hi : i ≤ n) : Strs w (cutA a c i 1) (n - i) (fun j => f (i + j)) := by
  obtain ⟨hm, h⟩ := h
  refine ⟨by omega, ?_⟩
  by_cases e : i = n
  · exact .inl (by omega)
  · rcases h with rfl | ⟨b, off, rfl, hc⟩
    · omega
    · refine .inr ⟨b, off + i * 1, cutA_some _ _ _ _ _ (by omega), fun j hj => ?_⟩
      have := hc (i + j) (by omega)
      rwa [show off + i * 1 + j = off + (i + j) by omega]
theorem Strs.take {w : World} {a : Option Addr} {n : Nat} {f : Nat → ByteArray} (h : Strs w a n f) {i : Nat} (hi : i ≤ n) : Strs w a i f := by
  obtain ⟨hm, h⟩ := h
  refine ⟨by omega, ?_⟩
  rcases h with rfl | ⟨b, off, rfl, hc⟩
  · exact .inl (by omega)
  · exact .inr ⟨b, off, rfl, fun j hj => hc j (by omega)⟩
theorem Brs.take {w : World} {a : Option Addr} {n : Nat} {f : Nat → Br} (h : Brs w a n f) {i : Nat} (hi : i ≤ n) : Brs w a i f := by
  obtain ⟨hm, h⟩ := h
  refine ⟨by omega, ?_⟩
  rcases h with rfl | ⟨b, off, rfl, hc⟩
  · exact .inl (by omega)
  · exact .inr ⟨b, off, rfl, fun j hj => hc j (by omega)⟩
theorem Brs.head {w : World} {a : Option Addr} {n : Nat} {f : Nat → Br} (h : Brs w a n f) (c : Nat) {i : Nat} (hi : i ≤ n) : Brs w (cutA a c 0 6) i f := by
  obtain ⟨hm, h⟩ := h
  refine ⟨by omega, ?_⟩
  rcases h with rfl | ⟨b, off, rfl, hc⟩
  · exact .inl (by omega)
  · exact .inr ⟨b, off, cutA_zero _ _ _ _, fun j hj => hc j (by omega)⟩
theorem Brs.tail {w : World} {a : Option Addr} {n c : Nat} {f : Nat → Br} (h : Brs w a n f) (hnc : n ≤ c) {i : Nat} (hi : i ≤ n) : Brs w (cutA a c i 6) (n - i) (fun j => f (i + j)) := by
  obtain ⟨hm, h⟩ := h
  refine ⟨by omega, ?_⟩
  by_cases e : i = n
  · exact .inl (by omega)
  · rcases h with rfl | ⟨b, off, rfl, hc⟩
    · omega
    · refine .inr ⟨b, off + i * 6, cutA_some _ _ _ _ _ (by omega), fun j hj => ?_⟩
      have := hc (i + j) (by omega)
      rwa [show off + i * 6 + j * 6 = off + (i + j) * 6 by omega]

theorem BrAt.later {w w' : World} {g o : Nat} {r : Br} (h : BrAt w g o r) (hc : ∀ x, w'.cell? ⟨g, x, none⟩ = w.cell? ⟨g, x, none⟩) : BrAt w' g o r :=
  ⟨by rw [hc]; exact h.c0, by rw [hc]; exact h.c1, by rw [hc]; exact h.c2, by rw [hc]; exact h.c3, by rw [hc]; exact h.c4, by rw [hc]; exact h.c5⟩

theorem Brs.later {w w' : World} {a : Option Addr} {n : Nat} {f : Nat → Br} (h : Brs w a n f) (hb : Below w.heap.size w w') : Brs w' a n f := by
  obtain ⟨hm, h⟩ := h
  refine ⟨hm, ?_⟩
  rcases h with h | ⟨b, off, e, hc⟩
  · exact .inl h
  · exact .inr ⟨b, off, e, fun i hi => (hc i hi).later fun x => hb.cell (p := ⟨b, x, none⟩) (show b < w.heap.size from World.block_lt_of_cell? w ⟨b, off + i * 6, none⟩ (hc i hi).c0)⟩
theorem Strs.later {w w' : World} {a : Option Addr} {n : Nat} {f : Nat → ByteArray} (h : Strs w a n f) (hb : Below w.heap.size w w') : Strs w' a n f := by
  obtain ⟨hm, h⟩ := h
  refine ⟨hm, ?_⟩
  rcases h with h | ⟨b, off, e, hc⟩
  · exact .inl h
  · exact .inr ⟨b, off, e, fun i hi => by rw [hb.cell (p := ⟨b, off + i, none⟩) (World.block_lt_of_cell? _ _ (hc i hi))]; exact hc i hi⟩
theorem Own.later {w w' : World} {g : Nat} {a : Option Addr} {n : Nat} {f : Nat → Br} (h : Own w g a n f) (hb : Below w.heap.size w w') : Own w' g a n f := by
  rcases h with h | ⟨e, hc, hl⟩
  · exact .inl h
  · by_cases hn : n = 0
    · exact .inl hn
    have hg : g < w.heap.size := World.block_lt_of_cell? _ _ (hc 0 (by omega)).c0
    exact .inr ⟨e, fun i hi => (hc i hi).later fun x => hb.cell (p := ⟨g, x, none⟩) hg, fun o => by rw [hb.frozen (p := ⟨g, o, none⟩) hg]; exact hl o⟩
theorem Own.keep {w w' : World} {g k : Nat} {a : Option Addr} {n : Nat} {f : Nat → Br} (h : Own w g a n f) (hb : Keep k w w') (hk : g ≠ k) : Own w' g a n f := by
  rcases h with h | ⟨e, hc, hl⟩
  · exact .inl h
  · by_cases hn : n = 0
    · exact .inl hn
    have hg : g < w.heap.size := World.block_lt_of_cell? _ _ (hc 0 (by omega)).c0
    exact .inr ⟨e, fun i hi => (hc i hi).later fun x => hb.cell hg hk, fun o => by rw [hb.frozen hg hk]; exact hl o⟩
theorem Own.lt {w : World} {g : Nat} {a : Option Addr} {n : Nat} {f : Nat → Br} (h : Own w g a n f) (hn : 0 < n) : g < w.heap.size := by
  rcases h with h | ⟨e, hc, hl⟩
  · omega
  · exact World.block_lt_of_cell? _ _ (hc 0 hn).c0
theorem Own.past {w : World} {g k : Nat} {a : Option Addr} {n : Nat} {f : Nat → Br} (h : Own w g a n f) (hk : w.heap.size ≤ k) : 0 < n → g ≠ k :=
  fun hn => by have := h.lt hn; omega
theorem Own.keep' {w w' : World} {g k : Nat} {a : Option Addr} {n : Nat} {f : Nat → Br} (h : Own w g a n f) (hb : Keep k w w') (hk : 0 < n → g ≠ k) : Own w' g a n f := by
  rcases h with h | ⟨e, hc, hl⟩
  · exact .inl h
  · by_cases hn : n = 0
    · exact .inl hn
    have hg : g < w.heap.size := World.block_lt_of_cell? _ _ (hc 0 (by omega)).c0
    exact Own.keep (.inr ⟨e, hc, hl⟩) hb (hk (by omega))
theorem Off.cut {a : Option Addr} {g : Nat} (h : Off a g) (m l s : Nat) : Off (cutA a m l s) g := by
  intro x hx
  unfold cutA at hx
  split at hx
  · exact h x hx
  · cases a with
    | none => cases hx
    | some y =>
      simp only [Option.map_some, Option.some.injEq] at hx
      subst hx
      have := h y rfl
      unfold Addr.add
      split <;> exact this

theorem toTxn_ex (a : Option Addr) (n c : Nat) (f : Nat → Br) (w : World) (h : Brs w a n f) (hn : n ≤ 65536) :
    Calls Try.prog 14 #[.slice a n c] w fun e w' => ∃ a' g, e = .returned (.slice a' n n) ∧ Own w' g a' n f ∧ Below w.heap.size w w' ∧ w.heap.size ≤ g :=
  (toTxn_any a n c f w h hn).mono fun e w' ⟨a', he, ho, hb⟩ => ⟨a', _, he, ho, hb, Nat.le_refl _⟩

/-- what the laws carry along between two calls: the ids, and that what was there has not turned -/
structure St (w0 W : World) (B : Nat) (A : Option Addr) (n : Nat) (f : Nat → ByteArray) : Prop where
  below : Below w0.heap.size w0 W
  strs : Strs W A n f
  off : ∀ x, A = some x → x.block < B
  base : w0.heap.size ≤ B
  size : B ≤ W.heap.size

theorem St.txn {w0 W W' : World} {B : Nat} {A : Option Addr} {n : Nat} {f : Nat → ByteArray} (h : St w0 W B A n f) (hb : Below W.heap.size W W') : St w0 W' B A n f :=
  ⟨h.below.trans (hb.mono (Nat.le_trans h.base h.size)), h.strs.later hb, h.off, h.base, Nat.le_trans h.size hb.size⟩
theorem St.offs {w0 W : World} {B g : Nat} {A : Option Addr} {n : Nat} {f : Nat → ByteArray} (h : St w0 W B A n f) (hg : B ≤ g) : Off A g :=
  fun x hx => by have := h.off x hx; omega
theorem St.app {w0 W W' : World} {B g : Nat} {A : Option Addr} {n : Nat} {f : Nat → ByteArray} (h : St w0 W B A n f) (hk : Keep g W W') (hg : B ≤ g) : St w0 W' B A n f :=
  ⟨h.below.trans (hk.below (Nat.le_trans h.base hg) (Nat.le_trans h.base h.size)), h.strs.keep hk (h.offs hg), h.off, h.base, Nat.le_trans h.size hk.size⟩
end Go.Proofs.Qxb6617146a
