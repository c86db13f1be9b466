import Derived.Test.Qxb6617699aStr
namespace Go.Proofs.Qxb6617699a
open Go.RowKit Go.Maps
set_option linter.unusedVariables false

/-- the strings as lists of bytes -/
def bys (f : Nat → ByteArray) (n : Nat) : List (List UInt8) := ((List.range n).map f).map (·.data.toList)
/-- what strings.Join gives -/
def joinS (f : Nat → ByteArray) (n : Nat) : List UInt8 := Lib.join (bys f n) [44]

theorem lens_snoc (l : List (List UInt8)) (x : List UInt8) : Lib.lens (l ++ [x]) = Lib.lens l + x.length := by simp [Lib.lens]
theorem size_data (s : ByteArray) : s.data.toList.length = s.size := Array.length_toList

theorem lens_bys (f : Nat → ByteArray) : ∀ n, Lib.lens (bys f n) = tot f n
  | 0 => rfl
  | n + 1 => by
    have e : bys f (n + 1) = bys f n ++ [(f n).data.toList] := by simp [bys, List.range_succ]
    rw [e, lens_snoc, lens_bys f n, size_data]
    rfl
theorem bys_length (f : Nat → ByteArray) (n : Nat) : (bys f n).length = n := by simp [bys]

theorem join_len (f : Nat → ByteArray) (n : Nat) : (joinS f n).length ≤ n + tot f n := by
  unfold joinS
  have h1 := lens_bys f n
  have h2 := bys_length f n
  cases hb : bys f n with
  | nil => simp [Lib.join]
  | cons x r =>
    rw [Lib.join_length]
    rw [hb] at h1 h2
    simp only [List.length_cons] at h2
    simp only [List.length_cons, List.length_nil]
    omega

theorem format_any (a : Option Addr) (n c : Nat) (f : Nat → ByteArray) (w : World) (h : Strs w a n f) (hn : 0 < n) (hc : n ≤ c) (hs : n ≤ 65536) (ht : tot f n ≤ 1048576) :
    Calls Try.prog 8 #[.slice a n c] w fun e w' => e = .returned (.string ⟨(joinS f n).toArray⟩) ∧ Below w.heap.size w w' := by
  obtain ⟨b, off, rfl, hcell⟩ := h.2.resolve_left (by omega)
  have hl : ((List.range n).map f).length = n := by simp
  have hj := Try.strings_Join b off c ((List.range n).map f) ⟨#[44]⟩ w
    (fun j x hx => by
      have hj : j < n := by
        rcases Nat.lt_or_ge j n with h' | h'
        · exact h'
        · rw [List.getElem?_eq_none (by rw [hl]; exact h')] at hx; cases hx
      have e : x = f j := by
        simp only [List.getElem?_map, List.getElem?_range hj, Option.map_some, Option.some.injEq] at hx
        exact hx.symm
      subst e
      exact hcell j hj)
    (World.block_lt_of_cell? _ _ (hcell 0 hn)) (by rw [hl]; omega) (by rw [hl]; exact hc)
    (by have := join_len f n; exact Nat.le_trans this (by omega))
  rw [hl] at hj
  change Calls Try.prog 9 #[.slice (some ⟨b, off, none⟩) n c, .string ⟨#[44]⟩] w (fun e w' => e = .returned (.string ⟨(joinS f n).toArray⟩) ∧ Below w.heap.size w w') at hj
  go_enter Try.func8, Try.ntmps8
  go_wp2_with fail
  refine hj.mono ?_
  rintro e w' ⟨rfl, hb⟩
  go_wp2
  go_ret
  exact ⟨rfl, hb⟩

/-! the two keys -/
def kC : ByteArray := ⟨#[99, 108, 97, 105, 109, 115, 116, 97, 107, 101, 46, 101, 120, 97, 109, 112, 108, 101, 46, 99, 111, 109, 47, 99, 108, 97, 105, 109, 105, 110, 103]⟩
def kA : ByteArray := ⟨#[99, 108, 97, 105, 109, 115, 116, 97, 107, 101, 46, 101, 120, 97, 109, 112, 108, 101, 46, 99, 111, 109, 47, 97, 100, 100, 105, 110, 103]⟩
def lC : Lit := .string kC.data.toList
def lA : Lit := .string kA.data.toList
theorem key9 : Keyed Try.prog 9 := string_keyed Try.underlying9
theorem keyC : keyOf Try.prog 9 (.string kC) = some lC := WideMaps.keyOf_string_mk Try.underlying9 (by decide)
theorem keyA : keyOf Try.prog 9 (.string kA) = some lA := WideMaps.keyOf_string_mk Try.underlying9 (by decide)
theorem zero9 (w : World) : (zeroValue 9).run Try.prog w = .ok (.string ⟨#[]⟩) w := by kernel_rfl

/-- elements are kept as they are -/
def rd (v : Value) : Option (DataW Value × List MemPlace) := some (.held v, [])

/-- the map of annotations: the value under the flag's key, nothing under the other -/
def annD (t : Bool) (X : ByteArray) : DataW Value :=
  ((DataW.map []).put lC (.held (.string (if t then X else ⟨#[]⟩)))).put lA (.held (.string (if t then ⟨#[]⟩ else X)))


theorem own_later {w w' : World} {b n : Nat} {D : DataW Value} (h : w.ownsMap Try.prog 9 rd b n D) (hb : Below w.heap.size w w') : w'.ownsMap Try.prog 9 rd b n D := by
  have hlt := h.lt
  obtain ⟨es, clock, h1, h2, h3, h4⟩ := h
  exact ⟨es, clock, (hb.block b hlt).trans h1, h2, h3, h4⟩

set_option maxHeartbeats 1000000 in
theorem ann_any (a : Option Addr) (n c : Nat) (f : Nat → ByteArray) (t : Bool) (w : World) (h : Strs w a n f) (hn : 0 < n) (hc : n ≤ c) (hs : n ≤ 65536) (ht : tot f n ≤ 1048576) :
    Calls Try.prog 7 #[.agg #[.slice a n c, .bool t]] w fun e w' => ∃ B, e = .returned (.map (some B)) ∧ w'.ownsMap Try.prog 9 rd B 2 (annD t ⟨(joinS f n).toArray⟩) ∧ Below w.heap.size w w' := by
  have hmm := @run_makeMap Try.prog
  cases t
  · -- not took: the empty value first
    have o0 := World.ownsMap_made (w.alloc (.cells #[.slice a n c, .bool false] 29)) Try.prog 9 rd
    rw [World.size_alloc] at o0
    obtain ⟨w4, r4, o4, g4⟩ := o0.update key9 Try.underlying25 (by unfold maxLen; omega) keyC (val := .string ⟨#[]⟩) (d := .held (.string ⟨#[]⟩)) (ps := []) rfl
    have b4 : Below w.heap.size w w4 := (((Below.refl _ _).alloc (Nat.le_refl _) _).alloc (by simp) _).grown g4 (by simp; omega) (fun k hk => by cases hk; omega)
    have c0 : w4.cell? ⟨w.heap.size, 0, none⟩ = some (.slice a n c) := by
      rw [World.cell?_of_block (w := ((w.alloc (.cells #[.slice a n c, .bool false] 29)).alloc (.map #[] 0))) (a := ⟨w.heap.size, 0, none⟩) (g4.block w.heap.size (by simp; omega) (by simp))]
      rw [World.cell?_alloc_lt _ _ _ (by simp)]
      simp
    have S4 := h.later b4
    have hz4 : w.heap.size + 1 < w4.heap.size := by have := o4.lt; omega
    unfold kC at r4
    have O4 := hide o4
    have B4 := hide b4
    clear o0 o4 g4 b4
    go_enter Try.func7, Try.ntmps7
    go_wp2_with fail
    refine (format_any a n c f _ S4 hn hc hs ht).mono ?_
    rintro e w5 ⟨rfl, b5⟩
    obtain ⟨w6, r6, o6, g6⟩ := (own_later O4.out b5).update key9 Try.underlying25 (by unfold maxLen; omega) keyA (val := .string ⟨(joinS f n).toArray⟩) (d := .held (.string ⟨(joinS f n).toArray⟩)) (ps := []) rfl
    have b6 : Below w.heap.size w w6 := (B4.out.trans (b5.mono (by omega))).grown g6 (by have := b5.size; omega) (fun k hk => by cases hk; omega)
    unfold kA at r6
    have O6 := hide o6
    have B6 := hide b6
    clear o6 g6 b6 b5 O4 B4
    go_wp2
    go_ret
    exact ⟨_, rfl, O6, B6⟩
  · have o0 := World.ownsMap_made (w.alloc (.cells #[.slice a n c, .bool true] 29)) Try.prog 9 rd
    rw [World.size_alloc] at o0
    have b0 : Below w.heap.size w ((w.alloc (.cells #[.slice a n c, .bool true] 29)).alloc (.map #[] 0)) := ((Below.refl _ _).alloc (Nat.le_refl _) _).alloc (by simp) _
    have S0 := h.later b0
    have O0 := hide o0
    have B0 := hide b0
    clear o0 b0
    go_enter Try.func7, Try.ntmps7
    go_wp2_with fail
    refine (format_any a n c f _ S0 hn hc hs ht).mono ?_
    rintro e w3 ⟨rfl, b3⟩
    obtain ⟨w4, r4, o4, g4⟩ := (own_later O0.out b3).update key9 Try.underlying25 (by unfold maxLen; omega) keyC (val := .string ⟨(joinS f n).toArray⟩) (d := .held (.string ⟨(joinS f n).toArray⟩)) (ps := []) rfl
    obtain ⟨w5, r5, o5, g5⟩ := o4.update key9 Try.underlying25 (by unfold maxLen; omega) keyA (val := .string ⟨#[]⟩) (d := .held (.string ⟨#[]⟩)) (ps := []) rfl
    have hz3 : w.heap.size + 2 ≤ w3.heap.size := by have := b3.size; simp at this; omega
    have hz4 := g4.size
    have b5 : Below w.heap.size w w5 := ((B0.out.trans (b3.mono (by simp; omega))).grown g4 (by omega) (fun k hk => by cases hk; omega)).grown g5 (by omega) (fun k hk => by cases hk; omega)
    unfold kC at r4
    unfold kA at r5
    have O5 := hide o5
    have B5 := hide b5
    clear o4 o5 g4 g5 b5 b3 O0 B0
    go_wp2
    go_ret
    exact ⟨_, rfl, O5, B5⟩

theorem zzAnn_any (a : Option Addr) (n c : Nat) (f : Nat → ByteArray) (t : Bool) (w : World) (h : Strs w a n f) (hn : 0 < n) (hc : n ≤ c) (hs : n ≤ 65536) (ht : tot f n ≤ 1048576) :
    Calls Try.prog 6 #[.slice a n c, .bool t] w fun e w' => ∃ B, e = .returned (.map (some B)) ∧ w'.ownsMap Try.prog 9 rd B 2 (annD t ⟨(joinS f n).toArray⟩) ∧ Below w.heap.size w w' := by
  go_enter Try.func6, Try.ntmps6
  go_wp2_with fail
  refine (ann_any a n c f t _ h hn hc hs ht).mono ?_
  rintro e w1 ⟨B, rfl, h1, h2⟩
  have H1 := hide h1
  clear h1
  go_wp2
  go_ret
  exact ⟨_, rfl, H1, h2⟩
end Go.Proofs.Qxb6617699a
