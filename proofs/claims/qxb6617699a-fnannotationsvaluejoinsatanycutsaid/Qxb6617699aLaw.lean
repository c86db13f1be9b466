import Derived.Test.Qxb6617699aMap
namespace Go.Proofs.Qxb6617699a
open Go.RowKit Go.Maps
set_option linter.unusedVariables false

theorem ne_keys : lC ≠ lA := by
  intro h
  unfold lC lA at h
  injection h with h
  revert h
  decide
theorem isKeyC : WideAt.IsKeyLit lC := by simp [lC, WideAt.IsKeyLit]
theorem isKeyA : WideAt.IsKeyLit lA := by simp [lA, WideAt.IsKeyLit]

theorem annD_size (t : Bool) (X : ByteArray) : Maps.size (annD t X) = 2 := by
  unfold annD
  have t1 : Tidy ((DataW.map [] : DataW Value).put lC (DataW.held (Value.string (if t then X else ⟨#[]⟩)))) := tidy_empty.put isKeyC _
  rw [size_put t1, has_put_other ne_keys.symm, size_put tidy_empty]
  rfl
theorem annD_hasC (t : Bool) (X : ByteArray) : Maps.has (annD t X) lC = true := by
  unfold annD
  rw [has_put_other ne_keys, has_put_same isMap_empty isKeyC]
theorem annD_hasA (t : Bool) (X : ByteArray) : Maps.has (annD t X) lA = true := by
  unfold annD
  rw [has_put_same (isMap_empty.put _ _) isKeyA]
theorem annD_atC (t : Bool) (X : ByteArray) (z : DataW Value) : (annD t X).atKey lC z = .held (.string (if t then X else ⟨#[]⟩)) := by
  unfold annD
  rw [atKey_put_other ne_keys, atKey_put_same isMap_empty isKeyC]
theorem annD_atA (t : Bool) (X : ByteArray) (z : DataW Value) : (annD t X).atKey lA z = .held (.string (if t then ⟨#[]⟩ else X)) := by
  unfold annD
  rw [atKey_put_same (isMap_empty.put _ _) isKeyA]

theorem lookC {w : World} {B n : Nat} {t : Bool} {X : ByteArray} (h : w.ownsMap Try.prog 9 rd B n (annD t X)) :
    (Instr.lookup 25 (.map (some B)) (.string kC) true).run Try.prog w = .ok (.tuple #[.string (if t then X else ⟨#[]⟩), .bool true]) w := by
  obtain ⟨v, ps, hrun, hv⟩ := h.look_ok key9 Try.underlying25 (zero9 w) (zd := .held (.string ⟨#[]⟩)) (zp := []) rfl keyC
  rw [annD_hasC] at hrun
  rw [annD_atC] at hv
  simp only [rd, Option.some.injEq, Prod.mk.injEq, DataW.held.injEq] at hv
  rw [hrun, hv.1]
theorem lookA {w : World} {B n : Nat} {t : Bool} {X : ByteArray} (h : w.ownsMap Try.prog 9 rd B n (annD t X)) :
    (Instr.lookup 25 (.map (some B)) (.string kA) true).run Try.prog w = .ok (.tuple #[.string (if t then ⟨#[]⟩ else X), .bool true]) w := by
  obtain ⟨v, ps, hrun, hv⟩ := h.look_ok key9 Try.underlying25 (zero9 w) (zd := .held (.string ⟨#[]⟩)) (zp := []) rfl keyA
  rw [annD_hasA] at hrun
  rw [annD_atA] at hv
  simp only [rd, Option.some.injEq, Prod.mk.injEq, DataW.held.injEq] at hv
  rw [hrun, hv.1]
theorem lenD {w : World} {B n : Nat} {t : Bool} {X : ByteArray} (h : w.ownsMap Try.prog 9 rd B n (annD t X)) (ty : TypeId) :
    (Builtin.len_ #[25] ty #[.map (some B)]).run Try.prog w = .ok (.int .i64 2) w := by
  rw [h.len Try.underlying25 ty, annD_size]
  rfl

/-! the plain law: Join at a cut -/
theorem join_append (sep : List UInt8) : ∀ (x : List UInt8) (l r : List (List UInt8)), Lib.join ((x :: l) ++ r) sep = Lib.join (x :: l) sep ++ Lib.joinTail sep r
  | x, l, r => by
    rw [List.cons_append, Lib.join_cons, Lib.join_cons, List.append_assoc]
    congr 1
    induction l with
    | nil => simp [Lib.joinTail]
    | cons y l ih => simp [Lib.joinTail] at *

theorem bys_split (f : Nat → ByteArray) (k d : Nat) : bys f (k + d) = bys f k ++ bys (fun j => f (k + j)) d := by
  unfold bys
  rw [List.range_add]
  simp

theorem join_cut (f : Nat → ByteArray) (n k : Nat) (h0 : 0 < k) (h1 : k < n) : joinS f n = joinS f k ++ [44] ++ joinS (fun j => f (k + j)) (n - k) := by
  unfold joinS
  have e := bys_split f k (n - k)
  rw [show k + (n - k) = n by omega] at e
  rw [e]
  have l1 := bys_length f k
  have l2 := bys_length (fun j => f (k + j)) (n - k)
  cases hx : bys f k with
  | nil => rw [hx] at l1; simp at l1; omega
  | cons x l =>
    cases hy : bys (fun j => f (k + j)) (n - k) with
    | nil => rw [hy] at l2; simp at l2; omega
    | cons y r =>
      rw [join_append, Lib.join_cons y r, List.append_assoc]
      simp [Lib.joinTail]

/-! make, copy, cut -/
theorem info9 : (Try.prog.info? 9).map (fun i => (i.zero, i.size, i.bytes)) = some (some (.string ⟨#[]⟩), 1, 16) := by kernel_rfl
theorem size9 : (Try.prog.info? 9).map (·.size) = some 1 := by kernel_rfl
def madeStr (n : Nat) : Array Value := madeCells #[.string ⟨#[]⟩] n
theorem make22 (n : Nat) (hn : n ≤ 65536) (w : World) :
    (Instr.makeSlice 22 (.int .i64 (n : Int)) (.int .i64 (n : Int))).run Try.prog w = .ok (.slice (some ⟨w.heap.size, 0, none⟩) n n) (w.alloc (.cells (madeStr n) 9)) :=
  run_make_row' 22 9 (.string ⟨#[]⟩) 16 Try.underlying22 info9 rfl .i64 .i64 n (by omega) (by omega) w
theorem below_setCells {B g : Nat} {w0 : World} (hg : B ≤ g) : ∀ (vs : List Value) (o : Nat) (w : World), Below B w0 w → Below B w0 (w.setCells g o vs)
  | [], _, _, h => h
  | v :: r, o, w, h => below_setCells hg r (o + 1) _ (h.setCell (p := ⟨g, o, none⟩) hg v)
theorem copy22 (w : World) (a : Option Addr) (n c : Nat) (f : Nat → ByteArray) (h : Strs w a n f) (hn : n ≤ 65536) :
    ∃ w2, (∀ ty, (Builtin.copy_ #[22, 22] ty #[.slice (some ⟨w.heap.size, 0, none⟩) n n, .slice a n c]).run Try.prog (w.alloc (.cells (madeStr n) 9)) = .ok (.int .i64 n) w2) ∧
      Strs w2 (some ⟨w.heap.size, 0, none⟩) n f ∧ Below w.heap.size w w2 := by
  obtain ⟨hm, h⟩ := h
  rcases h with rfl | ⟨b, off, rfl, hc⟩
  · exact ⟨_, fun ty => run_copy_none (P := Try.prog) _ 22 22 ty 9 _ a 0 0 0 c Try.underlying22 size9 rfl, ⟨hm, .inl rfl⟩, (Below.refl _ _).alloc (Nat.le_refl _) _⟩
  · let cs : List Value := (List.range n).map fun i => .string (f i)
    have hl : cs.length = n := by simp [cs]
    have hcell : ∀ j, j < n → ((w.alloc (.cells (madeStr n) 9)).cell? ⟨w.heap.size, 0 + j, none⟩).isSome = true := fun j hj => by
      rw [World.cell?_alloc_new, Array.getElem?_eq_getElem (by rw [madeStr, size_madeCells]; omega)]; rfl
    have hrun := fun ty => run_copy_cells (P := Try.prog) (w.alloc (.cells (madeStr n) 9)) 22 22 ty 9 w.heap.size 0 n n ⟨b, off, none⟩ n c cs Try.underlying22 size9 (by rw [hl]; simp)
      (fun j v hv => by
        have hj : j < n := by
          rcases Nat.lt_or_ge j n with h' | h'
          · exact h'
          · rw [List.getElem?_eq_none (by rw [hl]; exact h')] at hv; cases hv
        have e : v = .string (f j) := by
          simp only [cs, List.getElem?_map, List.getElem?_range hj, Option.map_some, Option.some.injEq] at hv
          exact hv.symm
        subst e
        have hb : b < w.heap.size := World.block_lt_of_cell? _ _ (hc j hj)
        rw [WideShapes.add_plain, World.cell?_alloc_lt _ _ _ hb]
        exact hc j hj)
      (fun j hj => hcell j (by omega)) (fun j hj => World.frozen?_alloc_new _ _ _ _) (fun v hv => by
        simp only [cs, List.mem_map] at hv
        obtain ⟨i, _, rfl⟩ := hv
        rfl)
    refine ⟨_, fun ty => (hrun ty).trans (by rw [hl]; rfl), ⟨hm, .inr ⟨_, _, rfl, fun i hi => ?_⟩⟩, below_setCells (Nat.le_refl _) _ _ _ ((Below.refl _ _).alloc (Nat.le_refl _) _)⟩
    have := World.cell?_setCells_in w.heap.size cs 0 (w.alloc (.cells (madeStr n) 9)) (fun j hj => hcell j (by omega)) i (by omega)
    rw [this]
    simp [cs]
theorem neNil22 (w : World) (a : Option Addr) (n c : Nat) : (binOp .neq 22 (.slice a n c) (.slice none 0 0)).run Try.prog w = .ok (.bool (!a.isNone)) w :=
  run_neq_slice_nil_any w 22 9 a n c 0 0 Try.underlying22

theorem Strs.tail {w : World} {a : Option Addr} {n : Nat} {f : Nat → ByteArray} (h : Strs w a n f) {i : Nat} (hi : i ≤ n) : Strs w (Option.map (fun x => x.add i) a) (n - i) (fun j => f (i + j)) := by
  obtain ⟨hm, h⟩ := h
  refine ⟨by omega, ?_⟩
  by_cases e : i = n
  · exact .inl (by omega)
  · rcases h with rfl | ⟨b, off, rfl, hc⟩
    · omega
    · refine .inr ⟨b, off + i, by simp [WideShapes.add_plain], fun j hj => ?_⟩
      have := hc (i + j) (by omega)
      rwa [show off + i + j = off + (i + j) by omega]

theorem tot_split (f : Nat → ByteArray) (k : Nat) : ∀ d, tot f (k + d) = tot f k + tot (fun j => f (k + j)) d
  | 0 => by simp [tot]
  | d + 1 => by rw [← Nat.add_assoc]; simp only [tot]; rw [tot_split f k d, Nat.add_assoc]

/-- the clusters as the law holds them behind its copy -/
structure Cl (w w2 : World) (v : Value) (n : Nat) (f : Nat → ByteArray) : Prop where
  below : Below w.heap.size w w2
  has : ∃ A C, v = .slice A n C ∧ n ≤ C ∧ Strs w2 A n f

set_option maxHeartbeats 1000000 in
set_option maxRecDepth 100000 in
theorem law_main (a0 : Option Addr) (n c0 k : Nat) (f : Nat → ByteArray) (t : Bool) (w : World) (h : Strs w a0 n f) (hnc : n ≤ c0) (hk0 : 0 < k) (hk1 : k < n) :
    Calls Try.prog 3 #[.slice a0 n c0, .int .i64 (k : Int), .bool t] w fun e w' => e = .returned (.bool true) ∧ Below w.heap.size w w' := by
  go_enter Try.func3, Try.ntmps3
  go_wp2_with fail
  refine (zzBytes_any a0 n c0 f k t _ h).mono ?_
  rintro e w' ⟨⟨x, rfl⟩, rfl⟩
  cases x
  · go_wp2; go_ret; exact ⟨rfl, Below.refl _ _⟩
  go_wp2_with fail
  refine (over_any a0 n c0 f _ h).mono ?_
  rintro e w' ⟨⟨x, rfl, hx⟩, rfl⟩
  cases x
  case true => go_wp2; go_ret; exact ⟨rfl, Below.refl _ _⟩
  obtain ⟨hn, ht⟩ := hx rfl
  clear hx
  have hmk := make22 n hn
  have hne := neNil22
  obtain ⟨wi, hcp, hS2, hB2⟩ := copy22 w' a0 n c0 f h hn
  have HI : Hid (Strs wi (some ⟨w'.heap.size, 0, none⟩) n f ∧ Below w'.heap.size w' wi) := ⟨hS2, hB2⟩
  clear hS2 hB2
  go_upto_if 41 with fail
  go_cut [0, 7] (fun v z W2 => Cl w' W2 v n f)
  case first =>
    cases a0 with
    | none =>
      go_wp2_with fail
      go_meet
      case rel => exact ⟨Below.refl _ _, none, c0, rfl, hnc, h⟩
    | some x =>
      go_wp2_with fail
      go_meet
      case rel => exact ⟨HI.out.2, _, n, rfl, Nat.le_refl _, HI.out.1⟩
  case rest =>
    obtain ⟨hB0, A, C, rfl, hAC, hA⟩ := hcut
    clear hmk hne hcp HI h
    have ts := tot_split f k (n - k)
    rw [show k + (n - k) = n by omega] at ts
    have HT := hide ts
    clear ts
    obtain ⟨X, hX⟩ : ∃ X : ByteArray, Hid (⟨(joinS f n).toArray⟩ = X) := ⟨_, rfl⟩
    obtain ⟨Y, hY⟩ : ∃ X : ByteArray, Hid (⟨(joinS f k).toArray⟩ = X) := ⟨_, rfl⟩
    obtain ⟨Z, hZ⟩ : ∃ X : ByteArray, Hid (⟨(joinS (fun j => f (k + j)) (n - k)).toArray⟩ = X) := ⟨_, rfl⟩
    cases t
    all_goals
      go_wp2_with fail
      refine (zzAnn_any A n C f _ _ hA (by omega) hAC hn ht).mono ?_
      rintro e w1 ⟨B1, rfl, o1, b1⟩
      rw [hX.out] at o1
      have hA1 := hA.later b1
      have O1 := hide o1
      clear o1
      go_wp2_with fail
      refine (zzAnn_any A k C f _ _ (hA1.take (by omega)) hk0 (by omega) (by omega) (by have := HT.out; omega)).mono ?_
      rintro e w2 ⟨B2, rfl, o2, b2⟩
      rw [hY.out] at o2
      have hA2 := hA1.later b2
      have O1b := hide (own_later O1.out b2)
      have O2 := hide o2
      clear o2 O1
      go_wp2_with fail
      refine (zzAnn_any _ (n - k) (C - k) _ _ _ (hA2.tail (by omega)) (by omega) (by omega) (by omega) (by have := HT.out; omega)).mono ?_
      rintro e w3 ⟨B3, rfl, o3, b3⟩
      rw [hZ.out] at o3
      have o1 := own_later O1b.out b3
      have o2 := own_later O2.out b3
      have l1 := lenD o1
      have l2 := lenD o2
      have l3 := lenD o3
      have m1 := lookC o1
      have m2 := lookC o2
      have m3 := lookC o3
      have n1 := lookA o1
      have n2 := lookA o2
      have n3 := lookA o3
      unfold kC at m1 m2 m3
      unfold kA at n1 n2 n3
      simp only [if_true, if_false, Bool.false_eq_true] at m1 m2 m3 n1 n2 n3
      have BB := hide ((hB0.trans (b1.mono hB0.size)).trans ((b2.mono (Nat.le_trans hB0.size b1.size)).trans (b3.mono (Nat.le_trans hB0.size (Nat.le_trans b1.size b2.size)))))
      clear o1 o2 o3 O1b O2 b1 b2 b3 hB0 hA1 hA2
      have hcat : Hid (X.toList = (Y ++ (⟨#[44]⟩ : ByteArray) ++ Z).toList) := by
        have e := join_cut f n k hk0 hk1
        have : X = Y ++ (⟨#[44]⟩ : ByteArray) ++ Z := by
          rw [← hX.out, ← hY.out, ← hZ.out, e]
          apply ByteArray.ext
          simp [ByteArray.data_append]
        exact congrArg ByteArray.toList this
      have hcat' := hcat.out
      have hy : Y.size ≤ 4000000 := by
        have := join_len f k
        have e : Y.size = (joinS f k).length := by rw [← hY.out]; rfl
        have := HT.out
        omega
      have hz : Z.size ≤ 4000000 := by
        have := join_len (fun j => f (k + j)) (n - k)
        have e : Z.size = (joinS (fun j => f (k + j)) (n - k)).length := by rw [← hZ.out]; rfl
        have := HT.out
        omega
      go_wp2
      go_ret
      exact ⟨rfl, BB.out⟩

set_option maxHeartbeats 1000000 in
set_option maxRecDepth 100000 in
theorem law_out (a0 : Option Addr) (n c0 : Nat) (k : Int) (f : Nat → ByteArray) (t : Bool) (w : World) (h : Strs w a0 n f) (hk : k ≤ 0 ∨ (n : Int) ≤ k) :
    Calls Try.prog 3 #[.slice a0 n c0, .int .i64 k, .bool t] w fun e w' => e = .returned (.bool true) ∧ Below w.heap.size w w' := by
  have hm := h.1
  unfold maxLen at hm
  go_enter Try.func3, Try.ntmps3
  go_wp2_with fail
  refine (zzBytes_any a0 n c0 f k t _ h).mono ?_
  rintro e w' ⟨⟨x, rfl⟩, rfl⟩
  cases x
  · go_wp2; go_ret; exact ⟨rfl, Below.refl _ _⟩
  go_wp2_with fail
  refine (over_any a0 n c0 f _ h).mono ?_
  rintro e w' ⟨⟨x, rfl, hx⟩, rfl⟩
  cases x
  case true => go_wp2; go_ret; exact ⟨rfl, Below.refl _ _⟩
  clear hx
  by_cases h0 : k ≤ 0
  · go_wp2; go_ret; exact ⟨rfl, Below.refl _ _⟩
  · have h1 : (n : Int) ≤ k := by omega
    clear hk
    go_wp2; go_ret; exact ⟨rfl, Below.refl _ _⟩
end Go.Proofs.Qxb6617699a
