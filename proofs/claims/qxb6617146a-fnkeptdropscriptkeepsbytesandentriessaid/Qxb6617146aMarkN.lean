import Derived.Test.Qxb6617146aMarkM
import Derived.Deep.Slices
import Derived.SliceStrings
import Derived.ChangeSlices
namespace Go.Proofs.Qxb6617146a
open Go.RowKit
set_option linter.unusedVariables false

theorem cells9 : Try.prog.cellsOf 9 = 1 := by kernel_rfl
theorem cells5 : Try.prog.cellsOf 5 = 1 := by kernel_rfl
theorem cells37 : Try.prog.cellsOf 37 = 1 := by kernel_rfl
theorem cells3 : Try.prog.cellsOf 3 = 1 := by kernel_rfl
theorem cells44 : Try.prog.cellsOf 44 = 6 := by kernel_rfl
theorem cells29 : Try.prog.cellsOf 29 = 1 := by kernel_rfl

section
variable {H : Type} {enc : TypeId × Value → H} {w : World}

/-- an address at which a cell is read is plain -/
theorem plain_of {x : Addr} {v : Value} (h : w.cell? (x.add 0) = some v) : ∃ b off, x = ⟨b, off, none⟩ := by
  obtain ⟨b, off, spot⟩ := x
  have e : (⟨b, off, spot⟩ : Addr).add 0 = ⟨b, off, spot⟩ := by simp [Addr.add]
  rw [e] at h
  obtain rfl : spot = none := World.cell?_spot h
  exact ⟨b, off, rfl⟩

theorem open_strs {fuel : Nat} {a : Option Addr} {n c : Nat} {x : DataW H × List MemPlace} (h : DataW.trod enc Try.prog w 0 (fun _ => true) true fuel 28 [.slice a n c] = some x) :
    ∃ f, Strs w a n f ∧ n ≤ c ∧ (a = none → n = 0) := by
  rcases ChangeShapes.open_strings Try.underlying28 Try.underlying9 cells9 h with ⟨hcs, _⟩ | ⟨y, l, cp, ss, hcs, _, hl, hm, hz, _, hcell, _⟩
  · simp only [List.cons.injEq, Value.slice.injEq, and_true] at hcs
    obtain ⟨rfl, rfl, rfl⟩ := hcs
    exact ⟨fun _ => ⟨#[]⟩, ⟨Nat.zero_le _, .inl rfl⟩, Nat.le_refl _, fun _ => rfl⟩
  · simp only [List.cons.injEq, Value.slice.injEq, and_true] at hcs
    obtain ⟨rfl, rfl, rfl⟩ := hcs
    simp only [if_true] at hz
    refine ⟨fun i => ss.getD i ByteArray.empty, ⟨by omega, ?_⟩, hl, fun h => by cases h⟩
    by_cases hn : n = 0
    · exact .inl hn
    obtain ⟨b, off, rfl⟩ := plain_of (hcell 0 (by omega))
    exact .inr ⟨b, off, rfl, fun i hi => by rw [← WideShapes.add_plain]; exact hcell i (by omega)⟩

theorem open_bytes {fuel : Nat} {v : Value} {x : DataW H × List MemPlace} (h : DataW.trod enc Try.prog w 0 (fun _ => true) true fuel 37 [v] = some x) :
    ∃ a n c, v = .slice a n c ∧ Bytes w a n := by
  rcases ChangeShapes.open_ints Try.underlying37 Try.underlying5 cells5 h with ⟨hcs, _⟩ | ⟨y, l, cp, zs, hcs, _, hl, hm, hz, _, hcell, _⟩
  · simp only [List.cons.injEq, and_true] at hcs
    exact ⟨none, 0, 0, hcs, Nat.zero_le _, .inl rfl⟩
  · simp only [List.cons.injEq, and_true] at hcs
    simp only [if_true] at hz
    refine ⟨_, _, _, hcs, by omega, ?_⟩
    by_cases hn : l = 0
    · exact .inl hn
    obtain ⟨b, off, rfl⟩ := plain_of (hcell 0 (by omega))
    exact .inr ⟨b, off, rfl, fun i hi => ⟨_, by rw [← WideShapes.add_plain]; exact hcell i (by omega)⟩⟩

theorem list6 {α : Type} {l : List α} (h : l.length = 6) : ∃ c0 c1 c2 c3 c4 c5, l = [c0, c1, c2, c3, c4, c5] := by
  match l, h with
  | [c0, c1, c2, c3, c4, c5], _ => exact ⟨c0, c1, c2, c3, c4, c5, rfl⟩

theorem open_br {fuel : Nat} {cs : List Value} {x : DataW H × List MemPlace} (h : DataW.trod enc Try.prog w 0 (fun _ => true) true fuel 44 cs = some x) :
    ∃ y : Br, cs = y.row ∧ Bytes w y.da y.dl := by
  obtain ⟨xs, n, _, _, hl, hlen, hf⟩ := DataW.trod_struct Try.underlying44 h
  rw [cells44] at hl
  obtain ⟨c0, c1, c2, c3, c4, c5, rfl⟩ := list6 hl
  obtain ⟨y0, y1, y2, y3, y4, y5, rfl⟩ := list6 hlen
  have f0 : DataW.trod enc Try.prog w 0 (fun _ => true) true n 9 [c0] = some y0 := by simpa [cells9] using hf 0 _ rfl
  have f1 : DataW.trod enc Try.prog w 0 (fun _ => true) true n 9 [c1] = some y1 := by simpa [cells9] using hf 1 _ rfl
  have f2 : DataW.trod enc Try.prog w 0 (fun _ => true) true n 9 [c2] = some y2 := by simpa [cells9] using hf 2 _ rfl
  have f3 : DataW.trod enc Try.prog w 0 (fun _ => true) true n 37 [c3] = some y3 := by simpa [cells37] using hf 3 _ rfl
  have f4 : DataW.trod enc Try.prog w 0 (fun _ => true) true n 9 [c4] = some y4 := by simpa [cells9] using hf 4 _ rfl
  have f5 : DataW.trod enc Try.prog w 0 (fun _ => true) true n 3 [c5] = some y5 := by simpa [cells3] using hf 5 _ rfl
  obtain ⟨s0, e0, _⟩ := DataW.trod_string Try.underlying9 f0
  obtain ⟨s1, e1, _⟩ := DataW.trod_string Try.underlying9 f1
  obtain ⟨s2, e2, _⟩ := DataW.trod_string Try.underlying9 f2
  obtain ⟨a, l, c, e3, hb⟩ := open_bytes f3
  obtain ⟨s4, e4, _⟩ := DataW.trod_string Try.underlying9 f4
  obtain ⟨z, e5, _⟩ := DataW.trod_int Try.underlying3 f5
  simp only [List.cons.injEq, and_true] at e0 e1 e2 e4 e5
  subst e0 e1 e2 e3 e4 e5
  exact ⟨⟨s0, s1, s2, a, l, c, s4, z⟩, rfl, hb⟩

theorem open_brs {fuel : Nat} {a : Option Addr} {n c : Nat} {x : DataW H × List MemPlace} (h : DataW.trod enc Try.prog w 0 (fun _ => true) true fuel 29 [.slice a n c] = some x) :
    ∃ r, Brs w a n r ∧ (∀ p, p < n → Bytes w (r p).da (r p).dl) ∧ n ≤ c ∧ (a = none → n = 0) := by
  rcases Deep.open_slice Try.underlying29 h with ⟨hcs, _⟩ | ⟨y, l, cp, m, k, D, Pl, hcs, _, hl, hm, hmm, _, hx⟩
  · simp only [List.cons.injEq, Value.slice.injEq, and_true] at hcs
    obtain ⟨rfl, rfl, rfl⟩ := hcs
    exact ⟨fun _ => ⟨⟨#[]⟩, ⟨#[]⟩, ⟨#[]⟩, none, 0, 0, ⟨#[]⟩, 0⟩, ⟨Nat.zero_le _, .inl rfl⟩, fun p hp => by omega, Nat.le_refl _, fun _ => rfl⟩
  · simp only [List.cons.injEq, Value.slice.injEq, and_true] at hcs
    obtain ⟨rfl, rfl, rfl⟩ := hcs
    simp only [if_true] at hmm
    subst hmm
    rw [cells44] at hx
    have hz : Inhabited Br := ⟨⟨⟨#[]⟩, ⟨#[]⟩, ⟨#[]⟩, none, 0, 0, ⟨#[]⟩, 0⟩⟩
    obtain ⟨r, hr⟩ := Deep.choose_lt (α := Br) (n := n) (p := fun i (y' : Br) => (∀ j, j < 6 → w.cell? ((y.add (i * 6)).add j) = y'.row[j]?) ∧ Bytes w y'.da y'.dl) (fun i hi => by
      obtain ⟨cs', h1, h2⟩ := hx i (by omega)
      obtain ⟨y', rfl, hb⟩ := open_br h2
      exact ⟨y', (World.cells?_some h1).2.2, hb⟩)
    refine ⟨r, ⟨by omega, ?_⟩, fun p hp => (hr p hp).2, hl, fun h => by cases h⟩
    by_cases hn : n = 0
    · exact .inl hn
    obtain ⟨b, off, rfl⟩ := plain_of (x := y) (v := .string (r 0).id) (w := w) (by have := (hr 0 (by omega)).1 0 (by omega); rw [Deep.add_add] at this; exact this)
    refine .inr ⟨b, off, rfl, fun i hi => ?_⟩
    have hj : ∀ j, j < 6 → w.cell? ⟨b, off + i * 6 + j, none⟩ = (r i).row[j]? := fun j hj => by
      have := (hr i hi).1 j hj
      rwa [WideShapes.add_plain, WideShapes.add_plain] at this
    exact ⟨hj 0 (by omega), hj 1 (by omega), hj 2 (by omega), hj 3 (by omega), hj 4 (by omega), hj 5 (by omega)⟩
end
end Go.Proofs.Qxb6617146a
