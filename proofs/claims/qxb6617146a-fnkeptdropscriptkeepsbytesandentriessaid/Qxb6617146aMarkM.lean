import Derived.Test.Qxb6617146aMarkH
namespace Go.Proofs.Qxb6617146a
open Go.RowKit
set_option linter.unusedVariables false

/-! the plain law -/
theorem has_split (f : Nat → ByteArray) (s : ByteArray) (i : Nat) : ∀ d, has f s (i + d) = (has f s i || has (fun j => f (i + j)) s d)
  | 0 => by simp [has]
  | d + 1 => by
    rw [← Nat.add_assoc]
    simp only [has]
    rw [has_split f s i d, Bool.or_assoc]

/-- the status that a mark leaves -/
def stOf (f : Nat → ByteArray) (n : Nat) (st : ByteArray) (y : Br) : ByteArray := if has f y.id n then st else y.st

theorem mk_at (f : Nat → ByteArray) (n : Nat) (st : ByteArray) (y : Br) : mk f n st y = y.at (stOf f n st y) := by
  unfold mk stOf
  split <;> rfl

theorem mk_mk (f : Nat → ByteArray) (n i : Nat) (hi : i ≤ n) (st : ByteArray) (y : Br) : mk (fun j => f (i + j)) (n - i) st (mk f i st y) = mk f n st y := by
  have e := has_split f y.id i (n - i)
  rw [show i + (n - i) = n by omega] at e
  unfold mk
  rw [e]
  cases h1 : has f y.id i <;> cases h2 : has (fun j => f (i + j)) y.id (n - i) <;> simp [Br.at, h2]

theorem branchEq_agg (y : Br) (s : ByteArray) (w : World) (h : Bytes w y.da y.dl) :
    Calls Try.prog 16 #[.agg #[.string y.id, .string y.conf, .string y.canc, .slice y.da y.dl y.dc, .string s, .int .i64 y.att], .agg #[.string y.id, .string y.conf, .string y.canc, .slice y.da y.dl y.dc, .string s, .int .i64 y.att]] w
      fun e w' => e = .returned (.bool true) ∧ Below w.heap.size w w' :=
  branchEq_same (y.at s) w h

theorem sameBut_agg (y : Br) (s : ByteArray) (w : World) (h : Bytes w y.da y.dl) :
    Calls Try.prog 17 #[.agg #[.string y.id, .string y.conf, .string y.canc, .slice y.da y.dl y.dc, .string s, .int .i64 y.att], .agg #[.string y.id, .string y.conf, .string y.canc, .slice y.da y.dl y.dc, .string y.st, .int .i64 y.att]] w
      fun e w' => e = .returned (.bool true) ∧ Below w.heap.size w w' :=
  sameBut_same y s w h

/-- six cells, written out -/
def Six (w : World) (g o : Nat) (y : Br) (s : ByteArray) : Prop :=
  w.cell? ⟨g, o, none⟩ = some (.string y.id) ∧ w.cell? ⟨g, o + 1, none⟩ = some (.string y.conf) ∧ w.cell? ⟨g, o + 2, none⟩ = some (.string y.canc) ∧
  w.cell? ⟨g, o + 3, none⟩ = some (.slice y.da y.dl y.dc) ∧ w.cell? ⟨g, o + 4, none⟩ = some (.string s) ∧ w.cell? ⟨g, o + 5, none⟩ = some (.int .i64 y.att)
theorem BrAt.six {w : World} {g o : Nat} {y : Br} {s : ByteArray} (h : BrAt w g o (y.at s)) : Six w g o y s := ⟨h.c0, h.c1, h.c2, h.c3, h.c4, h.c5⟩
theorem Six.later {w w' : World} {g o : Nat} {y : Br} {s : ByteArray} (h : Six w g o y s) (hb : Below w.heap.size w w') : Six w' g o y s := by
  have hg : g < w.heap.size := World.block_lt_of_cell? _ _ h.1
  have hc : ∀ x, w'.cell? ⟨g, x, none⟩ = w.cell? ⟨g, x, none⟩ := fun x => hb.cell (p := ⟨g, x, none⟩) hg
  unfold Six
  rw [hc, hc, hc, hc, hc, hc]
  exact h

/-- row k of an owned row of marked branches -/
theorem Own.row {w w' : World} {g : Nat} {a : Option Addr} {n k : Nat} {F : Nat → Br} (h : Own w g a n F) (hk : k < n) (hb : Below w.heap.size w w') {y : Br} {s : ByteArray} (e : F k = y.at s) :
    a = some ⟨g, 0, none⟩ ∧ Six w' g (k * 6) y s := by
  rcases h with h | ⟨ha, hc, hl⟩
  · omega
  · have := hc k hk
    rw [e] at this
    exact ⟨ha, this.six.later hb⟩
theorem Brs.row {w w' : World} {a : Option Addr} {n k : Nat} {F : Nat → Br} (h : Brs w a n F) (hk : k < n) (hb : Below w.heap.size w w') :
    ∃ b off, a = some ⟨b, off, none⟩ ∧ Six w' b (off + k * 6) (F k) (F k).st := by
  obtain ⟨_, h⟩ := h
  rcases h with h | ⟨b, off, ha, hc⟩
  · omega
  · exact ⟨b, off, ha, BrAt.six (y := F k) (s := (F k).st) ((hc k hk).later fun x => hb.cell (p := ⟨b, x, none⟩) (show b < w.heap.size from World.block_lt_of_cell? w ⟨b, off + k * 6, none⟩ (hc k hk).c0))⟩

/-- what a region that compares branches leans on: three rows of six cells, the data's bytes, and that nothing of W has turned -/
def Held (W : World) (g1 g2 g3 o1 o2 o3 : Nat) (y : Br) (s1 s2 s3 : ByteArray) (w : World) : Prop :=
  w.cell? ⟨g1, o1, none⟩ = some (.string y.id) ∧ w.cell? ⟨g1, o1 + 1, none⟩ = some (.string y.conf) ∧ w.cell? ⟨g1, o1 + 2, none⟩ = some (.string y.canc) ∧
  w.cell? ⟨g1, o1 + 3, none⟩ = some (.slice y.da y.dl y.dc) ∧ w.cell? ⟨g1, o1 + 4, none⟩ = some (.string s1) ∧ w.cell? ⟨g1, o1 + 5, none⟩ = some (.int .i64 y.att) ∧
  w.cell? ⟨g2, o2, none⟩ = some (.string y.id) ∧ w.cell? ⟨g2, o2 + 1, none⟩ = some (.string y.conf) ∧ w.cell? ⟨g2, o2 + 2, none⟩ = some (.string y.canc) ∧
  w.cell? ⟨g2, o2 + 3, none⟩ = some (.slice y.da y.dl y.dc) ∧ w.cell? ⟨g2, o2 + 4, none⟩ = some (.string s2) ∧ w.cell? ⟨g2, o2 + 5, none⟩ = some (.int .i64 y.att) ∧
  w.cell? ⟨g3, o3, none⟩ = some (.string y.id) ∧ w.cell? ⟨g3, o3 + 1, none⟩ = some (.string y.conf) ∧ w.cell? ⟨g3, o3 + 2, none⟩ = some (.string y.canc) ∧
  w.cell? ⟨g3, o3 + 3, none⟩ = some (.slice y.da y.dl y.dc) ∧ w.cell? ⟨g3, o3 + 4, none⟩ = some (.string s3) ∧ w.cell? ⟨g3, o3 + 5, none⟩ = some (.int .i64 y.att) ∧
  Bytes w y.da y.dl ∧ Below W.heap.size W w

theorem Held.mk {W w : World} {g1 g2 g3 o1 o2 o3 : Nat} {y : Br} {s1 s2 s3 : ByteArray} (a : Six w g1 o1 y s1) (b : Six w g2 o2 y s2) (c : Six w g3 o3 y s3) (d : Bytes w y.da y.dl) (e : Below W.heap.size W w) :
    Held W g1 g2 g3 o1 o2 o3 y s1 s2 s3 w :=
  ⟨a.1, a.2.1, a.2.2.1, a.2.2.2.1, a.2.2.2.2.1, a.2.2.2.2.2, b.1, b.2.1, b.2.2.1, b.2.2.2.1, b.2.2.2.2.1, b.2.2.2.2.2, c.1, c.2.1, c.2.2.1, c.2.2.2.1, c.2.2.2.2.1, c.2.2.2.2.2, d, e⟩
theorem Held.out {W w : World} {g1 g2 g3 o1 o2 o3 : Nat} {y : Br} {s1 s2 s3 : ByteArray} (h : Held W g1 g2 g3 o1 o2 o3 y s1 s2 s3 w) :
    Six w g1 o1 y s1 ∧ Six w g2 o2 y s2 ∧ Six w g3 o3 y s3 ∧ Bytes w y.da y.dl ∧ Below W.heap.size W w := by
  obtain ⟨a1, a2, a3, a4, a5, a6, b1, b2, b3, b4, b5, b6, c1, c2, c3, c4, c5, c6, d, e⟩ := h
  exact ⟨⟨a1, a2, a3, a4, a5, a6⟩, ⟨b1, b2, b3, b4, b5, b6⟩, ⟨c1, c2, c3, c4, c5, c6⟩, d, e⟩
theorem Held.later {W w w' : World} {g1 g2 g3 o1 o2 o3 : Nat} {y : Br} {s1 s2 s3 : ByteArray} (h : Held W g1 g2 g3 o1 o2 o3 y s1 s2 s3 w) (hb : Below w.heap.size w w') : Held W g1 g2 g3 o1 o2 o3 y s1 s2 s3 w' := by
  obtain ⟨a, b, c, d, e⟩ := h.out
  exact Held.mk (a.later hb) (b.later hb) (c.later hb) (d.later hb) (e.trans (hb.mono e.size))

theorem six_alloc (w : World) (y : Br) (s : ByteArray) : Six (w.alloc (.cells #[.string y.id, .string y.conf, .string y.canc, .slice y.da y.dl y.dc, .string s, .int .i64 y.att] 40)).drew w.heap.size 0 y s := by
  unfold Six
  simp

/-- the same with two rows -/
def Held2 (W : World) (g1 g2 o1 o2 : Nat) (y : Br) (s1 s2 : ByteArray) (w : World) : Prop :=
  w.cell? ⟨g1, o1, none⟩ = some (.string y.id) ∧ w.cell? ⟨g1, o1 + 1, none⟩ = some (.string y.conf) ∧ w.cell? ⟨g1, o1 + 2, none⟩ = some (.string y.canc) ∧
  w.cell? ⟨g1, o1 + 3, none⟩ = some (.slice y.da y.dl y.dc) ∧ w.cell? ⟨g1, o1 + 4, none⟩ = some (.string s1) ∧ w.cell? ⟨g1, o1 + 5, none⟩ = some (.int .i64 y.att) ∧
  w.cell? ⟨g2, o2, none⟩ = some (.string y.id) ∧ w.cell? ⟨g2, o2 + 1, none⟩ = some (.string y.conf) ∧ w.cell? ⟨g2, o2 + 2, none⟩ = some (.string y.canc) ∧
  w.cell? ⟨g2, o2 + 3, none⟩ = some (.slice y.da y.dl y.dc) ∧ w.cell? ⟨g2, o2 + 4, none⟩ = some (.string s2) ∧ w.cell? ⟨g2, o2 + 5, none⟩ = some (.int .i64 y.att) ∧
  Bytes w y.da y.dl ∧ Below W.heap.size W w

theorem Held2.mk {W w : World} {g1 g2 o1 o2 : Nat} {y : Br} {s1 s2 : ByteArray} (a : Six w g1 o1 y s1) (b : Six w g2 o2 y s2) (d : Bytes w y.da y.dl) (e : Below W.heap.size W w) :
    Held2 W g1 g2 o1 o2 y s1 s2 w :=
  ⟨a.1, a.2.1, a.2.2.1, a.2.2.2.1, a.2.2.2.2.1, a.2.2.2.2.2, b.1, b.2.1, b.2.2.1, b.2.2.2.1, b.2.2.2.2.1, b.2.2.2.2.2, d, e⟩
theorem Held2.out {W w : World} {g1 g2 o1 o2 : Nat} {y : Br} {s1 s2 : ByteArray} (h : Held2 W g1 g2 o1 o2 y s1 s2 w) :
    Six w g1 o1 y s1 ∧ Six w g2 o2 y s2 ∧ Bytes w y.da y.dl ∧ Below W.heap.size W w := by
  obtain ⟨a1, a2, a3, a4, a5, a6, b1, b2, b3, b4, b5, b6, d, e⟩ := h
  exact ⟨⟨a1, a2, a3, a4, a5, a6⟩, ⟨b1, b2, b3, b4, b5, b6⟩, d, e⟩
theorem Held2.later {W w w' : World} {g1 g2 o1 o2 : Nat} {y : Br} {s1 s2 : ByteArray} (h : Held2 W g1 g2 o1 o2 y s1 s2 w) (hb : Below w.heap.size w w') : Held2 W g1 g2 o1 o2 y s1 s2 w' := by
  obtain ⟨a, b, d, e⟩ := h.out
  exact Held2.mk (a.later hb) (b.later hb) (d.later hb) (e.trans (hb.mono e.size))
theorem Held2.drew {W w : World} {g1 g2 o1 o2 : Nat} {y : Br} {s1 s2 : ByteArray} (h : Held2 W g1 g2 o1 o2 y s1 s2 w) : Held2 W g1 g2 o1 o2 y s1 s2 w.drew :=
  h.later (Below.refl _ _).drew
end Go.Proofs.Qxb6617146a
