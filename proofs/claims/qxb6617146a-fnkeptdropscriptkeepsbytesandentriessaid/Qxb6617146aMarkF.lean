import Derived.Test.Qxb6617146aMarkE
namespace Go.Proofs.Qxb6617146a
open Go.RowKit
set_option linter.unusedVariables false

/-- every block that lay there, but g, is as it was -/
structure Keep (g : Nat) (w w' : World) : Prop where
  os : w'.os = w.os
  tape : w'.tape = w.tape
  output : w'.output = w.output
  size : w.heap.size ≤ w'.heap.size
  block : ∀ k, k < w.heap.size → k ≠ g → w'.heap[k]? = w.heap[k]?

theorem Keep.refl (g : Nat) (w : World) : Keep g w w := ⟨rfl, rfl, rfl, Nat.le_refl _, fun _ _ _ => rfl⟩
theorem Keep.of_below {g : Nat} {w w' : World} (h : Below w.heap.size w w') : Keep g w w' := ⟨h.os, h.tape, h.output, h.size, fun k hk _ => h.block k hk⟩
theorem Keep.trans {g : Nat} {a b c : World} (h : Keep g a b) (k : Keep g b c) : Keep g a c :=
  ⟨k.os.trans h.os, k.tape.trans h.tape, k.output.trans h.output, Nat.le_trans h.size k.size, fun i hi hg => (k.block i (Nat.lt_of_lt_of_le hi h.size) hg).trans (h.block i hi hg)⟩
theorem Keep.drewN {g : Nat} {a w : World} (h : Keep g a w) (q : Nat) : Keep g a (w.drewN q) := ⟨h.os, h.tape, h.output, h.size, h.block⟩
theorem Keep.drew {g : Nat} {a w : World} (h : Keep g a w) : Keep g a w.drew := ⟨h.os, h.tape, h.output, h.size, h.block⟩
theorem Keep.setCell {g : Nat} {a w : World} (h : Keep g a w) (o : Nat) (v : Value) : Keep g a (w.setCell ⟨g, o, none⟩ v) :=
  h.trans ⟨rfl, rfl, rfl, by simp, fun k hk hg => Below.heap_setCell _ _ _ _ hg⟩
theorem Keep.below {g B : Nat} {w w' : World} (h : Keep g w w') (hg : B ≤ g) (hB : B ≤ w.heap.size) : Below B w w' :=
  ⟨h.os, h.tape, h.output, h.size, fun k hk => h.block k (by omega) (by omega)⟩
theorem Keep.cell {g : Nat} {w w' : World} (h : Keep g w w') {b o : Nat} (hb : b < w.heap.size) (hg : b ≠ g) : w'.cell? ⟨b, o, none⟩ = w.cell? ⟨b, o, none⟩ :=
  World.cell?_of_block (w := w) (a := ⟨b, o, none⟩) (h.block b hb hg)
theorem Keep.frozen {g : Nat} {w w' : World} (h : Keep g w w') {b o : Nat} (hb : b < w.heap.size) (hg : b ≠ g) : w'.frozen? ⟨b, o, none⟩ = w.frozen? ⟨b, o, none⟩ :=
  World.frozen?_of_block (w := w) (a := ⟨b, o, none⟩) (h.block b hb hg)

/-- the slice's block is not g -/
def Off (a : Option Addr) (g : Nat) : Prop := ∀ x, a = some x → x.block ≠ g

theorem Strs.keep {w w' : World} {g : Nat} {a : Option Addr} {n : Nat} {f : Nat → ByteArray} (h : Strs w a n f) (hk : Keep g w w') (hg : Off a g) : Strs w' a n f := by
  obtain ⟨hm, h⟩ := h
  refine ⟨hm, ?_⟩
  rcases h with h | ⟨b, off, e, hc⟩
  · exact .inl h
  · exact .inr ⟨b, off, e, fun i hi => by rw [hk.cell (World.block_lt_of_cell? _ _ (hc i hi)) (show b ≠ g from hg _ e)]; exact hc i hi⟩

/-- a branch behind a mark -/
def mk (f : Nat → ByteArray) (n : Nat) (st : ByteArray) (r : Br) : Br := if has f r.id n then r.at st else r

/-- behind k rounds of apply -/
structure ALoop (w wr : World) (g m k : Nat) (r r' : Nat → Br) : Prop where
  keep : Keep g w wr
  done : ∀ i, i < k → BrAt wr g (i * 6) (r' i)
  rest : ∀ i, k ≤ i → i < m → BrAt wr g (i * 6) (r i)
  live : ∀ o, wr.frozen? ⟨g, o, none⟩ = false

theorem BrAt.drewN {w : World} {g o : Nat} {r : Br} (h : BrAt w g o r) (q : Nat) : BrAt (w.drewN q) g o r := ⟨h.c0, h.c1, h.c2, h.c3, h.c4, h.c5⟩

theorem cell_off (w : World) (g o x : Nat) (v : Value) (h : x ≠ o) : (w.setCell ⟨g, o, none⟩ v).cell? ⟨g, x, none⟩ = w.cell? ⟨g, x, none⟩ :=
  World.cell?_setCell_other _ _ _ _ (by intro e; injection e with _ e; exact h e.symm)

theorem BrAt.mark {w : World} {g o : Nat} {r : Br} (h : BrAt w g o r) (s : ByteArray) : BrAt (w.setCell ⟨g, o + 4, none⟩ (.string s)) g o (r.at s) :=
  ⟨by rw [cell_off _ _ _ _ _ (by omega)]; exact h.c0, by rw [cell_off _ _ _ _ _ (by omega)]; exact h.c1, by rw [cell_off _ _ _ _ _ (by omega)]; exact h.c2,
   by rw [cell_off _ _ _ _ _ (by omega)]; exact h.c3, World.cell?_setCell_same _ _ _ h.c4, by rw [cell_off _ _ _ _ _ (by omega)]; exact h.c5⟩
theorem BrAt.far {w : World} {g o o' : Nat} {r : Br} (h : BrAt w g o r) (s : ByteArray) (ho : o + 6 ≤ o' ∨ o' + 6 ≤ o) : BrAt (w.setCell ⟨g, o' + 4, none⟩ (.string s)) g o r :=
  ⟨by rw [cell_off _ _ _ _ _ (by omega)]; exact h.c0, by rw [cell_off _ _ _ _ _ (by omega)]; exact h.c1, by rw [cell_off _ _ _ _ _ (by omega)]; exact h.c2,
   by rw [cell_off _ _ _ _ _ (by omega)]; exact h.c3, by rw [cell_off _ _ _ _ _ (by omega)]; exact h.c4, by rw [cell_off _ _ _ _ _ (by omega)]; exact h.c5⟩

theorem ALoop.drewN {w wr : World} {g m k : Nat} {r r' : Nat → Br} (h : ALoop w wr g m k r r') (q : Nat) : ALoop w (wr.drewN q) g m k r r' :=
  ⟨h.keep.drewN q, fun i hi => (h.done i hi).drewN q, fun i hi hm => (h.rest i hi hm).drewN q, h.live⟩

theorem ALoop.hit {w wr : World} {g m k : Nat} {r r' : Nat → Br} (h : ALoop w wr g m k r r') (s : ByteArray) (hk : k < m) (e : r' k = (r k).at s) :
    ALoop w (wr.setCell ⟨g, k * 6 + 4, none⟩ (.string s)) g m (k + 1) r r' where
  keep := h.keep.setCell _ _
  done := fun i hi => by
    by_cases ei : i = k
    · subst ei; rw [e]; exact (h.rest i (Nat.le_refl _) hk).mark s
    · exact (h.done i (by omega)).far s (by omega)
  rest := fun i hi hm => (h.rest i (by omega) hm).far s (by omega)
  live := fun o => by rw [World.frozen?_setCell]; exact h.live o

theorem ALoop.miss {w wr : World} {g m k : Nat} {r r' : Nat → Br} (h : ALoop w wr g m k r r') (hk : k < m) (e : r' k = r k) : ALoop w wr g m (k + 1) r r' where
  keep := h.keep
  done := fun i hi => by
    by_cases ei : i = k
    · subst ei; rw [e]; exact h.rest i (Nat.le_refl _) hk
    · exact h.done i (by omega)
  rest := fun i hi hm => h.rest i (by omega) hm
  live := h.live

theorem ALoop.start {w : World} {g m : Nat} {r r' : Nat → Br} (o : Obj) (hg : g < w.heap.size) (hb : ∀ i, i < m → BrAt w g (i * 6) (r i)) (hl : ∀ o, w.frozen? ⟨g, o, none⟩ = false) :
    ALoop (w.alloc o) (w.alloc o) g m 0 r r' where
  keep := Keep.refl _ _
  done := fun i hi => by omega
  rest := fun i _ hm => by
    have h := hb i hm
    have hc : ∀ x, (w.alloc o).cell? ⟨g, x, none⟩ = w.cell? ⟨g, x, none⟩ := fun x => World.cell?_alloc_lt _ _ _ hg
    exact ⟨by rw [hc]; exact h.c0, by rw [hc]; exact h.c1, by rw [hc]; exact h.c2, by rw [hc]; exact h.c3, by rw [hc]; exact h.c4, by rw [hc]; exact h.c5⟩
  live := fun x => by rw [World.frozen?_alloc_old _ _ _ (show g ≠ w.heap.size by omega)]; exact hl x

set_option maxHeartbeats 400000 in
theorem apply_any (gid st : ByteArray) (a : Option Addr) (n c : Nat) (f : Nat → ByteArray) (a' : Option Addr) (g m c' : Nat) (r : Nat → Br) (w : World)
    (h : Strs w a n f) (ho : Own w g a' m r) (hoff : Off a g) (hm : m ≤ 65536) :
    Calls Try.prog 29 #[.agg #[.string gid, .slice a n c, .string st], .slice a' m c'] w fun e w' =>
      e = .returned (.tuple #[]) ∧ Own w' g a' m (fun i => mk f n st (r i)) ∧ Keep g w w' := by
  rcases ho with rfl | ⟨rfl, hb, hl⟩
  · go_enter Try.func29, Try.ntmps29
    go_wp2
    go_loop [7] (fun i => i = .int .i64 0) (fun i => 0)
    case atStart => rfl
    case round =>
      subst hrel
      go_wp2
      go_end0
      exact ⟨rfl, .inl rfl, Keep.of_below ((Below.refl _ _).alloc (Nat.le_refl _) _)⟩
  · by_cases hm0 : m = 0
    · subst hm0
      go_enter Try.func29, Try.ntmps29
      go_wp2
      go_loop [7] (fun i => i = .int .i64 0) (fun i => 0)
      case atStart => rfl
      case round =>
        subst hrel
        go_wp2
        go_end0
        exact ⟨rfl, .inl rfl, Keep.of_below ((Below.refl _ _).alloc (Nat.le_refl _) _)⟩
    have hgw : g < w.heap.size := World.block_lt_of_cell? _ _ (hb 0 (by omega)).c0
    have HB : Hid (∀ i, i < m → BrAt w g (i * 6) (r i)) := hb
    have HL : Hid (∀ o, w.frozen? ⟨g, o, none⟩ = false) := hl
    clear hb hl
    go_enter Try.func29, Try.ntmps29
    go_wp2
    go_loopw [7] (fun i wr => ∃ k : Nat, k ≤ m ∧ i = .int .i64 k ∧ ALoop (w.alloc (.cells #[.string gid, .slice a n c, .string st] 64)) wr g m k r (fun i => mk f n st (r i))) (fun i _ => m - (intOf i).toNat)
    case atStart => exact ⟨0, Nat.zero_le _, rfl, ALoop.start _ hgw HB HL⟩
    case round =>
      obtain ⟨k, hk, rfl, hL⟩ := hrel
      by_cases hlt : k < m
      · have cb1 : wr.cell? ⟨w.heap.size, 1, none⟩ = some (.slice a n c) := by rw [hL.keep.cell (by simp) (by omega)]; simp
        have cb2 : wr.cell? ⟨w.heap.size, 2, none⟩ = some (.string st) := by rw [hL.keep.cell (by simp) (by omega)]; simp
        have hs : Strs wr a n f := (h.keep (Keep.of_below ((Below.refl _ _).alloc (Nat.le_refl _) _)) hoff).keep hL.keep hoff
        have e0 := (hL.rest k (Nat.le_refl _) hlt).c0
        have e4 := (hL.rest k (Nat.le_refl _) hlt).c4
        have hfr := hL.live
        go_wp2
        go_quiet ((go_at_call 32; exact Calls.quiet_of_same (contains_any a n c f (r k).id _ (by exact hs))))
        go_wp2
        · have hh : has f (r k).id n = true := by assumption
          go_roundw
          case rel => exact ⟨k + 1, by omega, by go_num, (hL.drewN _).hit st hlt (by simp only [mk, hh]; rfl)⟩
          case measure => simp [intOf]; omega
        · have hh : has f (r k).id n = false := by assumption
          go_roundw
          case rel => exact ⟨k + 1, by omega, by go_num, (hL.drewN _).miss hlt (by simp only [mk, hh]; rfl)⟩
          case measure => simp [intOf]; omega
      · go_wp2
        go_end0
        have e : m = k := by omega
        exact ⟨rfl, .inr ⟨rfl, fun i hi => hL.done i (by omega), hL.live⟩, (Keep.of_below ((Below.refl _ _).alloc (Nat.le_refl _) _)).trans hL.keep⟩

/-- ZZApply -/
theorem zzApply_any (gid st : ByteArray) (a : Option Addr) (n c : Nat) (f : Nat → ByteArray) (a' : Option Addr) (g m c' : Nat) (r : Nat → Br) (w : World)
    (h : Strs w a n f) (ho : Own w g a' m r) (hoff : Off a g) (hm : m ≤ 65536) :
    Calls Try.prog 15 #[.string gid, .slice a n c, .string st, .slice a' m c'] w fun e w' =>
      e = .returned (.tuple #[]) ∧ Own w' g a' m (fun i => mk f n st (r i)) ∧ Keep g w w' := by
  go_enter Try.func15, Try.ntmps15
  go_wp2_with fail
  refine (apply_any gid st a n c f a' g m c' r _ h ho hoff hm).mono ?_
  rintro e w' ⟨rfl, h1, h2⟩
  go_wp2
  go_end0
  exact ⟨rfl, h1, h2⟩
end Go.Proofs.Qxb6617146a
