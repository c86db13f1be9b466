import Derived.Test.Qxb6617146aKeptH
namespace Go.Proofs.Qxb6617146a
open Go.RowKit Go.Maps
set_option linter.unusedVariables false

theorem Mp.shape {w : World} {B : Nat} {mv : Value} {N : Nat} {D : DataW Value} (h : Mp w B mv N D) : mv = .map none ∨ ∃ B, mv = .map (some B) := by
  rcases h with ⟨h, _⟩ | ⟨h, _⟩
  · exact .inl h
  · exact .inr ⟨_, h⟩
theorem Mp.lt {w : World} {B : Nat} {mv : Value} {N : Nat} {D : DataW Value} (h : Mp w B mv N D) (e : mv = .map (some B)) : B < w.heap.size := by
  rcases h with ⟨h, _⟩ | ⟨_, h⟩
  · rw [h] at e; cases e
  · exact h.lt
theorem Rows3.strs {w wr : World} {n m : Nat} {K : Nat → ByteArray} {ck cl cp : Nat → Value} (h : Rows3 w wr n ck cl cp) (hk : ∀ j, j < m → ck j = .string (K j)) (hm : m ≤ n) (hn : n ≤ 65536) : Strs wr (some ⟨w.heap.size, 0, none⟩) m K :=
  ⟨by unfold maxLen; omega, .inr ⟨_, 0, rfl, fun j hj => by rw [Nat.zero_add, h.k j (by omega), hk j hj]⟩⟩

theorem groupSize_b (a : Option Addr) (n c : Nat) (f : Nat → Br) (w : World) (h : Brs w a n f) (hs : gsz f n ≤ 1048576) :
    Calls Try.prog 23 #[.slice a n c] w fun e w' => e = .returned (.int .i64 (gsz f n)) ∧ Below w.heap.size w w' :=
  (groupSize_any a n c f w h hs).mono fun e w' ⟨he, q, hq⟩ => ⟨he, by rw [hq]; exact drewN_below _ _⟩

theorem samePlain_agg (y : Br) (w : World) (h : Bytes w y.da y.dl) :
    Calls Try.prog 26 #[.agg #[.string y.id, .string y.conf, .string y.canc, .slice y.da y.dl y.dc, .string y.st, .int .i64 y.att], .agg #[.string y.id, .string y.conf, .string y.canc, .slice y.da y.dl y.dc, .string y.st, .int .i64 y.att]] w
      fun e w' => e = .returned (.bool true) ∧ Below w.heap.size w w' := samePlain_same y w h

section
variable {w wr wr' : World} {n B gz N : Nat} {mv : Value} {H : Nat → Hd} {ck cl cp : Nat → Value} {A : Nat → Option Addr} {g : Nat → Nat} {D D' : DataW Value} {y y' : Int}

theorem drop_miss (hM : Mem w wr n B gz N mv H ck cl cp A g D y) (fx : Fx w n B gz mv H g) {s : ByteArray} (hs : s.size ≤ 1048576) (hm : Maps.has D (ky s) = false) (z0 : -1000000000000000 ≤ y) (z1 : y ≤ 9223372036854775807) :
    Calls Try.prog 22 #[.pointer (some ⟨gz, 0, none⟩), .string s] wr fun e w' => e = .returned (.tuple #[]) ∧ Mem w w' n B gz N mv H ck cl cp A g D y :=
  (zzDrop_any gz B mv N D y s none 0 0 0 (fun _ => ⟨⟨#[]⟩, ⟨#[]⟩, ⟨#[]⟩, none, 0, 0, ⟨#[]⟩, 0⟩) wr hM.kept hM.map fx.hBz hs (hM.map.look_miss hs hm).2 (.inl rfl) (fun h => by omega) (by omega) (by simp [gsz]) z0 z1).mono
    fun e w' ⟨he, k1, m1, p1⟩ => ⟨he, hM.drop fx (by simpa [gsz] using k1) (by rw [del_of_not_has hm] at m1; exact m1) p1⟩
theorem drop_hit (hM : Mem w wr n B gz N mv H ck cl cp A g D y) (fx : Fx w n B gz mv H g) {s : ByteArray} {x : Nat} (hx : x < n) (hs : s.size ≤ 1048576) (hm : Maps.has D (ky s) = true) (ha : ∀ z, D.atKey (ky s) z = .held (vOf H A x))
    (hn : (H x).n ≤ 65536) (hg : gsz (H x).r (H x).n ≤ 1048576) (z0 : -1000000000000000 ≤ y) (z1 : y ≤ 9223372036854775807) :
    Calls Try.prog 22 #[.pointer (some ⟨gz, 0, none⟩), .string s] wr fun e w' => e = .returned (.tuple #[]) ∧ Mem w w' n B gz N mv H ck cl cp A g (D.del (ky s)) (y - gsz (H x).r (H x).n) :=
  (zzDrop_any gz B mv N D y s (A x) (g x) (H x).n (H x).n (H x).r wr hM.kept hM.map fx.hBz hs (hM.map.look_hit hs hm ha).2 (hM.own x hx) (fun h => (fx.hg x hx h).1) hn hg z0 z1).mono
    fun e w' ⟨he, k1, m1, p1⟩ => ⟨he, hM.drop fx k1 m1 p1⟩
theorem branches_miss (hM : Mem w wr n B gz N mv H ck cl cp A g D y) {s : ByteArray} (hs : s.size ≤ 1048576) (hm : Maps.has D (ky s) = false) :
    Calls Try.prog 25 #[.pointer (some ⟨gz, 0, none⟩), .string s] wr fun e w' => e = .returned (.tuple #[.slice none 0 0, .bool false]) ∧ w' = wr :=
  keptBranches_any gz mv y s none 0 0 false wr hM.kept (hM.map.look_miss hs hm).1
theorem branches_hit (hM : Mem w wr n B gz N mv H ck cl cp A g D y) {s : ByteArray} {x : Nat} (hs : s.size ≤ 1048576) (hm : Maps.has D (ky s) = true) (ha : ∀ z, D.atKey (ky s) z = .held (vOf H A x)) :
    Calls Try.prog 25 #[.pointer (some ⟨gz, 0, none⟩), .string s] wr fun e w' => e = .returned (.tuple #[.slice (A x) (H x).n (H x).n, .bool true]) ∧ w' = wr :=
  keptBranches_any gz mv y s (A x) (H x).n (H x).n true wr hM.kept (hM.map.look_hit hs hm ha).1
theorem keptLen_cnt (hM : Mem w wr n B gz N mv H ck cl cp A g D y) {m : Nat} (hm : Maps.size D = m) :
    Calls Try.prog 27 #[.pointer (some ⟨gz, 0, none⟩)] wr fun e w' => e = .returned (.int .i64 m) ∧ w' = wr := by
  have := keptLen_any gz B mv y N D wr hM.kept hM.map
  rwa [hm] at this

/-- what stands behind some drops -/
def DS (w wr : World) (n m B gz N : Nat) (mv : Value) (H : Nat → Hd) (K : Nat → ByteArray) (L : Nat → Nat) (ck cl : Nat → Value) (A : Nat → Option Addr) (g : Nat → Nat) (y : Int) : Prop :=
  ∃ cp P D, Mem w wr n B gz N mv H ck cl cp A g D y ∧ (∀ j, j < m → cp j = .bool (P j)) ∧ Dr m K L (vOf H A) P D
end
end Go.Proofs.Qxb6617146a
