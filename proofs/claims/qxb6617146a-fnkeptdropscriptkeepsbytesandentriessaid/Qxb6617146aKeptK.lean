import Derived.Test.Qxb6617146aKeptA
namespace Go.Proofs.Qxb6617146a
open Go.RowKit
set_option linter.unusedVariables false

set_option maxHeartbeats 1000000 in
set_option maxRecDepth 100000 in
theorem law6_big (a a' a3 : Option Addr) (n c n' c' n3 c3 : Nat) (z : Int) (f f3 : Nat → ByteArray) (H : Nat → Hd) (w : World) (h : Strs w a n f) (hG : Hds w a' n' H) (hBr : ∀ i, i < n' → Brs w (H i).a (H i).n (H i).r) (h3 : Strs w a3 n3 f3)
    (hbig : ¬ ((n : Int) ≤ 65536 ∧ (n' : Int) ≤ 65536 ∧ (n3 : Int) ≤ 65536)) :
    Calls Try.prog 6 #[.slice a n c, .slice a' n' c', .int .i64 z, .slice a3 n3 c3] w fun e w' => e = .returned (.bool true) ∧ Below w.heap.size w w' := by
  have hz := zzBytes20_any a a' a3 n c n' c' n3 c3 z f f3 H w h hG hBr h3
  by_cases c1 : 65536 < (n : Int)
  · clear hbig
    go_enter Try.func6, Try.ntmps6
    go_wp2_with fail
    refine hz.mono ?_
    rintro e w' ⟨⟨x, rfl⟩, rfl⟩
    cases x
    all_goals (go_wp2; go_ret; exact ⟨rfl, Below.refl _ _⟩)
  by_cases c2 : 65536 < (n' : Int)
  · clear hbig
    go_enter Try.func6, Try.ntmps6
    go_wp2_with fail
    refine hz.mono ?_
    rintro e w' ⟨⟨x, rfl⟩, rfl⟩
    cases x
    all_goals (go_wp2; go_ret; exact ⟨rfl, Below.refl _ _⟩)
  · have c3' : 65536 < (n3 : Int) := by omega
    clear hbig
    go_enter Try.func6, Try.ntmps6
    go_wp2_with fail
    refine hz.mono ?_
    rintro e w' ⟨⟨x, rfl⟩, rfl⟩
    cases x
    all_goals (go_wp2; go_ret; exact ⟨rfl, Below.refl _ _⟩)

section
variable {H : Type} {enc : TypeId × Value → H} {w : World}

theorem open_brs' {fuel : Nat} {cs : List Value} {x : DataW H × List MemPlace} (h : DataW.trod enc Try.prog w 0 (fun _ => true) true fuel 29 cs = some x) :
    ∃ X : Hd, cs = [.slice X.a X.n X.c] ∧ Brs w X.a X.n X.r ∧ ∀ p, p < X.n → Bytes w (X.r p).da (X.r p).dl := by
  have h0 := h
  rcases Deep.open_slice Try.underlying29 h with ⟨hcs, _⟩ | ⟨y, l, cp, m, k, D, Pl, hcs, _⟩
  · subst hcs
    obtain ⟨r, h1, h2, _⟩ := open_brs h0
    exact ⟨⟨_, _, _, r⟩, rfl, h1, h2⟩
  · subst hcs
    obtain ⟨r, h1, h2, _⟩ := open_brs h0
    exact ⟨⟨_, _, _, r⟩, rfl, h1, h2⟩

theorem open_grps {fuel : Nat} {a : Option Addr} {n c : Nat} {x : DataW H × List MemPlace} (h : DataW.trod enc Try.prog w 0 (fun _ => true) true fuel 47 [.slice a n c] = some x) :
    ∃ G : Nat → Hd, Hds w a n G ∧ (∀ i, i < n → Brs w (G i).a (G i).n (G i).r) ∧ ∀ i, i < n → ∀ p, p < (G i).n → Bytes w ((G i).r p).da ((G i).r p).dl := by
  have hz : Inhabited Hd := ⟨⟨none, 0, 0, fun _ => ⟨⟨#[]⟩, ⟨#[]⟩, ⟨#[]⟩, none, 0, 0, ⟨#[]⟩, 0⟩⟩⟩
  rcases Deep.open_slice Try.underlying47 h with ⟨hcs, _⟩ | ⟨y, l, cp, m, k, D, Pl, hcs, _, hl, hm, hmm, _, hx⟩
  · simp only [List.cons.injEq, Value.slice.injEq, and_true] at hcs
    obtain ⟨rfl, rfl, rfl⟩ := hcs
    exact ⟨fun _ => default, ⟨Nat.zero_le _, .inl rfl⟩, fun i hi => by omega, fun i hi => by omega⟩
  · simp only [List.cons.injEq, Value.slice.injEq, and_true] at hcs
    obtain ⟨rfl, rfl, rfl⟩ := hcs
    simp only [if_true] at hmm
    subst hmm
    rw [cells29] at hx
    obtain ⟨G, hr⟩ := Deep.choose_lt (α := Hd) (n := n) (p := fun i (X : Hd) => w.cell? ((y.add (i * 1)).add 0) = some (.slice X.a X.n X.c) ∧ Brs w X.a X.n X.r ∧ ∀ p, p < X.n → Bytes w (X.r p).da (X.r p).dl) (fun i hi => by
      obtain ⟨cs', h1, h2⟩ := hx i (by omega)
      obtain ⟨X, rfl, hb, hb2⟩ := open_brs' h2
      exact ⟨X, (World.cells?_some h1).2.2 0 (by omega), hb, hb2⟩)
    refine ⟨G, ⟨by omega, ?_⟩, fun i hi => (hr i hi).2.1, fun i hi => (hr i hi).2.2⟩
    by_cases hn : n = 0
    · exact .inl hn
    obtain ⟨b, off, rfl⟩ := plain_of (x := y) (v := .slice (G 0).a (G 0).n (G 0).c) (w := w) (by have := (hr 0 (by omega)).1; rw [Deep.add_add] at this; exact this)
    refine .inr ⟨b, off, rfl, fun i hi => ?_⟩
    have := (hr i hi).1
    rwa [WideShapes.add_plain, WideShapes.add_plain, Nat.mul_one, Nat.add_zero] at this
end
end Go.Proofs.Qxb6617146a
