import Derived.Test.Qxb6617146aKeptC
namespace Go.Proofs.Qxb6617146a
open Go.RowKit Go.Maps
set_option linter.unusedVariables false

/-- elements are kept as they are -/
def rd (v : Value) : Option (DataW Value × List MemPlace) := some (.held v, [])
/-- a string as a key -/
def ky (s : ByteArray) : Lit := .string s.data.toList
theorem ky_inj {s t : ByteArray} (h : ky s = ky t) : s = t := by
  unfold ky at h
  injection h with h
  exact ByteArray.ext (Array.toList_inj.1 h)
theorem isKey (s : ByteArray) : WideAt.IsKeyLit (ky s) := by simp [ky, WideAt.IsKeyLit]
theorem key9 : Keyed Try.prog 9 := string_keyed Try.underlying9
theorem keyS {s : ByteArray} (hs : s.size ≤ 1048576) : Go.keyOf Try.prog 9 (.string s) = some (ky s) := WideMaps.keyOf_string_mk Try.underlying9 (by unfold maxLen; omega)
theorem zero34 (w : World) : (zeroValue 34).run Try.prog w = .ok (.slice none 0 0) w := by kernel_rfl

/-- every block that lay there, but two, is as it was -/
structure Keep2 (g h : Nat) (w w' : World) : Prop where
  os : w'.os = w.os
  tape : w'.tape = w.tape
  output : w'.output = w.output
  size : w.heap.size ≤ w'.heap.size
  block : ∀ k, k < w.heap.size → k ≠ g → k ≠ h → w'.heap[k]? = w.heap[k]?

theorem Keep.two {g h : Nat} {w w' : World} (k : Keep g w w') : Keep2 g h w w' := ⟨k.os, k.tape, k.output, k.size, fun i hi h1 _ => k.block i hi h1⟩
theorem Keep.two' {g h : Nat} {w w' : World} (k : Keep h w w') : Keep2 g h w w' := ⟨k.os, k.tape, k.output, k.size, fun i hi _ h1 => k.block i hi h1⟩
theorem Keep2.trans {g h : Nat} {a b c : World} (p : Keep2 g h a b) (q : Keep2 g h b c) : Keep2 g h a c :=
  ⟨q.os.trans p.os, q.tape.trans p.tape, q.output.trans p.output, Nat.le_trans p.size q.size, fun i hi h1 h2 => (q.block i (Nat.lt_of_lt_of_le hi p.size) h1 h2).trans (p.block i hi h1 h2)⟩
theorem Keep.alloc {g : Nat} {a w : World} (h : Keep g a w) (o : Obj) : Keep g a (w.alloc o) :=
  h.trans (Keep.of_below ((Below.refl _ _).alloc (Nat.le_refl _) o))
theorem Keep.later {g : Nat} {a w w' : World} (h : Keep g a w) (hb : Below w.heap.size w w') : Keep g a w' := h.trans (Keep.of_below hb)

/-- a map that is nil or lies in block B -/
def Mp (w : World) (B : Nat) (mv : Value) (N : Nat) (D : DataW Value) : Prop :=
  (mv = .map none ∧ D = .map []) ∨ (mv = .map (some B) ∧ w.ownsMap Try.prog 9 rd B N D)

theorem own_block {w w' : World} {b n : Nat} {D : DataW Value} (h : w.ownsMap Try.prog 9 rd b n D) (hb : w'.heap[b]? = w.heap[b]?) : w'.ownsMap Try.prog 9 rd b n D := by
  obtain ⟨es, clock, h1, h2, h3, h4⟩ := h
  exact ⟨es, clock, hb.trans h1, h2, h3, h4⟩
theorem Mp.keep {w w' : World} {B g : Nat} {mv : Value} {N : Nat} {D : DataW Value} (h : Mp w B mv N D) (k : Keep g w w') (hB : mv = .map (some B) → B ≠ g) : Mp w' B mv N D := by
  rcases h with h | ⟨e, ho⟩
  · exact .inl h
  · exact .inr ⟨e, own_block ho (k.block B ho.lt (hB e))⟩
theorem Mp.later {w w' : World} {B : Nat} {mv : Value} {N : Nat} {D : DataW Value} (h : Mp w B mv N D) (k : Below w.heap.size w w') : Mp w' B mv N D := by
  rcases h with h | ⟨e, ho⟩
  · exact .inl h
  · exact .inr ⟨e, own_block ho (k.block B ho.lt)⟩
theorem Mp.tidy {w : World} {B : Nat} {mv : Value} {N : Nat} {D : DataW Value} (h : Mp w B mv N D) : Tidy D := by
  rcases h with ⟨_, rfl⟩ | ⟨_, ho⟩
  · exact tidy_empty
  · exact ho.tidy key9
theorem Mp.drop {w : World} {B : Nat} {mv : Value} {N : Nat} {D : DataW Value} (h : Mp w B mv N D) {s : ByteArray} (hs : s.size ≤ 1048576) (ty : TypeId) :
    ∃ w', (Builtin.delete_ #[51, 9] ty #[mv, .string s]).run Try.prog w = .ok (.tuple #[]) w' ∧ Mp w' B mv N (D.del (ky s)) ∧ Keep B w w' ∧ (w' = w ∨ mv = .map (some B)) := by
  rcases h with ⟨rfl, rfl⟩ | ⟨rfl, ho⟩
  · exact ⟨w, Maps.drop_nil key9 Try.underlying51 (keyS hs) ty, .inl ⟨rfl, rfl⟩, Keep.refl _ _, .inl rfl⟩
  · obtain ⟨w', hr, ho', ht⟩ := ho.drop key9 Try.underlying51 (keyS hs) ty
    have g := ht.grown
    exact ⟨w', hr, .inr ⟨rfl, ho'⟩, ⟨g.os, g.tape, g.output, g.size, fun k hk hne => g.block k hk (by intro e; injection e with e; exact hne e)⟩, .inr rfl⟩
theorem Mp.len {w : World} {B : Nat} {mv : Value} {N : Nat} {D : DataW Value} (h : Mp w B mv N D) (ty : TypeId) : (Builtin.len_ #[51] ty #[mv]).run Try.prog w = .ok (.int .i64 (Maps.size D)) w := by
  rcases h with ⟨rfl, rfl⟩ | ⟨rfl, ho⟩
  · exact Maps.len_nil Try.underlying51 ty
  · exact ho.len Try.underlying51 ty
theorem Mp.look_miss {w : World} {B : Nat} {mv : Value} {N : Nat} {D : DataW Value} (h : Mp w B mv N D) {s : ByteArray} (hs : s.size ≤ 1048576) (hm : Maps.has D (ky s) = false) :
    (Instr.lookup 51 mv (.string s) true).run Try.prog w = .ok (.tuple #[.slice none 0 0, .bool false]) w ∧ (Instr.lookup 51 mv (.string s) false).run Try.prog w = .ok (.slice none 0 0) w := by
  rcases h with ⟨rfl, rfl⟩ | ⟨rfl, ho⟩
  · exact ⟨Maps.look_nil true key9 Try.underlying51 (zero34 w) (keyS hs), Maps.look_nil false key9 Try.underlying51 (zero34 w) (keyS hs)⟩
  · obtain ⟨v, ps, hrun, hv⟩ := ho.look_ok key9 Try.underlying51 (zero34 w) (zd := .held (.slice none 0 0)) (zp := []) rfl (keyS hs)
    obtain ⟨v2, ps2, hrun2, hv2⟩ := ho.lookup key9 Try.underlying51 (zero34 w) (zd := .held (.slice none 0 0)) (zp := []) rfl (keyS hs)
    rw [atKey_of_not_has hm] at hv hv2
    simp only [rd, Option.some.injEq, Prod.mk.injEq, DataW.held.injEq] at hv hv2
    rw [hm] at hrun
    exact ⟨by rw [hrun, hv.1], by rw [hrun2, hv2.1]⟩
theorem Mp.look_hit {w : World} {B : Nat} {mv : Value} {N : Nat} {D : DataW Value} (h : Mp w B mv N D) {s : ByteArray} {u : Value} (hs : s.size ≤ 1048576) (hm : Maps.has D (ky s) = true) (hu : ∀ z, D.atKey (ky s) z = .held u) :
    (Instr.lookup 51 mv (.string s) true).run Try.prog w = .ok (.tuple #[u, .bool true]) w ∧ (Instr.lookup 51 mv (.string s) false).run Try.prog w = .ok u w := by
  rcases h with ⟨rfl, rfl⟩ | ⟨rfl, ho⟩
  · simp [Maps.has] at hm
  · obtain ⟨v, ps, hrun, hv⟩ := ho.look_ok key9 Try.underlying51 (zero34 w) (zd := .held (.slice none 0 0)) (zp := []) rfl (keyS hs)
    obtain ⟨v2, ps2, hrun2, hv2⟩ := ho.lookup key9 Try.underlying51 (zero34 w) (zd := .held (.slice none 0 0)) (zp := []) rfl (keyS hs)
    rw [hu] at hv hv2
    simp only [rd, Option.some.injEq, Prod.mk.injEq, DataW.held.injEq] at hv hv2
    rw [hm] at hrun
    exact ⟨by rw [hrun, hv.1], by rw [hrun2, hv2.1]⟩

/-- the two cells of a kept -/
structure Kept (w : World) (gz : Nat) (mv : Value) (z : Int) : Prop where
  c0 : w.cell? ⟨gz, 0, none⟩ = some mv
  c1 : w.cell? ⟨gz, 1, none⟩ = some (.int .i64 z)
  live : ∀ o, w.frozen? ⟨gz, o, none⟩ = false
theorem Kept.lt {w : World} {gz : Nat} {mv : Value} {z : Int} (h : Kept w gz mv z) : gz < w.heap.size := World.block_lt_of_cell? _ _ h.c0
theorem Kept.block {w w' : World} {gz : Nat} {mv : Value} {z : Int} (h : Kept w gz mv z) (e : w'.heap[gz]? = w.heap[gz]?) : Kept w' gz mv z :=
  ⟨by rw [World.cell?_of_block (w := w) (a := ⟨gz, 0, none⟩) e]; exact h.c0, by rw [World.cell?_of_block (w := w) (a := ⟨gz, 1, none⟩) e]; exact h.c1,
   fun o => by rw [World.frozen?_of_block (w := w) (a := ⟨gz, o, none⟩) e]; exact h.live o⟩
theorem Kept.later {w w' : World} {gz : Nat} {mv : Value} {z : Int} (h : Kept w gz mv z) (k : Below w.heap.size w w') : Kept w' gz mv z := h.block (k.block gz h.lt)
theorem Kept.keep {w w' : World} {gz g : Nat} {mv : Value} {z : Int} (h : Kept w gz mv z) (k : Keep g w w') (hg : gz ≠ g) : Kept w' gz mv z := h.block (k.block gz h.lt hg)
theorem Kept.put {w : World} {gz : Nat} {mv : Value} {z : Int} (h : Kept w gz mv z) (y : Int) : Kept (w.setCell ⟨gz, 1, none⟩ (.int .i64 y)) gz mv y :=
  ⟨by rw [cell_off _ _ _ _ _ (by omega)]; exact h.c0, World.cell?_setCell_same _ _ _ h.c1, fun o => by rw [World.frozen?_setCell]; exact h.live o⟩

theorem newKept_any (mv : Value) (z : Int) (w : World) (hm : mv = .map none ∨ ∃ B, mv = .map (some B)) :
    Calls Try.prog 21 #[mv, .int .i64 z] w fun e w' => ∃ gz, e = .returned (.pointer (some ⟨gz, 0, none⟩)) ∧ Kept w' gz mv z ∧ Below w.heap.size w w' ∧ w.heap.size ≤ gz := by
  rcases hm with rfl | ⟨B, rfl⟩
  all_goals
    go_enter Try.func21, Try.ntmps21
    go_wp2
    go_ret
    exact ⟨_, rfl, ⟨by simp, by simp, fun o => World.frozen?_alloc_new _ _ _ _⟩, (Below.refl _ _).alloc (Nat.le_refl _) _, Nat.le_refl _⟩

theorem keptBytes_any (gz : Nat) (mv : Value) (z : Int) (w : World) (h : Kept w gz mv z) :
    Calls Try.prog 24 #[.pointer (some ⟨gz, 0, none⟩)] w fun e w' => e = .returned (.int .i64 z) ∧ w' = w := by
  have c1 := h.c1
  go_enter Try.func24, Try.ntmps24
  go_wp2
  go_ret
  exact ⟨rfl, rfl⟩

theorem keptLen_any (gz B : Nat) (mv : Value) (z : Int) (N : Nat) (D : DataW Value) (w : World) (h : Kept w gz mv z) (M : Mp w B mv N D) :
    Calls Try.prog 27 #[.pointer (some ⟨gz, 0, none⟩)] w fun e w' => e = .returned (.int .i64 (Maps.size D)) ∧ w' = w := by
  have c0 := h.c0
  have hl := M.len
  go_enter Try.func27, Try.ntmps27
  go_wp2
  go_ret
  exact ⟨rfl, rfl⟩

theorem keptBranches_any (gz : Nat) (mv : Value) (z : Int) (s : ByteArray) (A : Option Addr) (n c : Nat) (x : Bool) (w : World) (h : Kept w gz mv z)
    (hl : (Instr.lookup 51 mv (.string s) true).run Try.prog w = .ok (.tuple #[.slice A n c, .bool x]) w) :
    Calls Try.prog 25 #[.pointer (some ⟨gz, 0, none⟩), .string s] w fun e w' => e = .returned (.tuple #[.slice A n c, .bool x]) ∧ w' = w := by
  have c0 := h.c0
  go_enter Try.func25, Try.ntmps25
  go_wp2
  go_ret2
  exact ⟨rfl, rfl⟩
end Go.Proofs.Qxb6617146a
