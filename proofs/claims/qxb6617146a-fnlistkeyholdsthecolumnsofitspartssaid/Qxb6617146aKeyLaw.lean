import Derived.Test.Qxb6617146aKeyWalks
namespace Go.Proofs.Qxb6617146a
open Go.RowKit
set_option linter.unusedVariables false

theorem bcell {W w1 : World} (hb : Below W.heap.size W w1) : (∀ b o, b < W.heap.size → w1.cell? ⟨b, o, none⟩ = W.cell? ⟨b, o, none⟩) ∧ (∀ b o, b < W.heap.size → w1.frozen? ⟨b, o, none⟩ = W.frozen? ⟨b, o, none⟩) :=
  ⟨fun b o h => hb.cell (p := ⟨b, o, none⟩) h, fun b o h => hb.frozen (p := ⟨b, o, none⟩) h⟩

theorem emptyStr : (ByteArray.mk #[]).toList.isEmpty = !false := by decide +kernel

theorem law_key_nil (s b o : ByteArray) (st : Bool) (w : World) (hs : s.size ≤ maxLen) (hb : b.size ≤ maxLen) (ho : o.size ≤ maxLen) (hst : s.toList.isEmpty = !st) :
    Calls Try.prog 3 #[.string s, .pointer none, .string b, .string o] w fun e w' => e = .returned (.bool true) ∧ Below w.heap.size w w' := by
  have HS := hide hs
  have HB := hide hb
  have HO := hide ho
  clear hs hb ho
  by_cases c1 : 65536 < (s.size : Int)
  · go_enter Try.func3, Try.ntmps3
    go_wp2_with fail
    refine (zzBytes_key s b o none _ HS HB HO).mono ?_
    rintro e w' ⟨⟨r, rfl⟩, rfl⟩
    cases r
    all_goals (go_wp2; go_ret; exact ⟨rfl, Below.refl _ _⟩)
  by_cases c2 : 65536 < (b.size : Int)
  · go_enter Try.func3, Try.ntmps3
    go_wp2_with fail
    refine (zzBytes_key s b o none _ HS HB HO).mono ?_
    rintro e w' ⟨⟨r, rfl⟩, rfl⟩
    cases r
    all_goals (go_wp2; go_ret; exact ⟨rfl, Below.refl _ _⟩)
  by_cases c3 : 65536 < (o.size : Int)
  · go_enter Try.func3, Try.ntmps3
    go_wp2_with fail
    refine (zzBytes_key s b o none _ HS HB HO).mono ?_
    rintro e w' ⟨⟨r, rfl⟩, rfl⟩
    cases r
    all_goals (go_wp2; go_ret; exact ⟨rfl, Below.refl _ _⟩)
  have H := hide hst
  clear hst
  go_enter Try.func3, Try.ntmps3
  go_wp2_with fail
  refine (zzBytes_key s b o none _ HS HB HO).mono ?_
  rintro e w' ⟨⟨r, rfl⟩, rfl⟩
  cases r
  · go_wp2; go_ret; exact ⟨rfl, Below.refl _ _⟩
  go_wp2_with fail
  refine (zzListKey_any s b none st _ (unhide H)).mono ?_
  rintro e w1 ⟨rfl, h1⟩
  go_wp2_with fail
  refine (zzListKey_any s _ none st _ (unhide H)).mono ?_
  rintro e w2 ⟨rfl, h2⟩
  go_wp2_with fail
  refine (zzListKey_any _ _ none false _ emptyStr).mono ?_
  rintro e w3 ⟨rfl, h3⟩
  go_wp2_with fail
  refine (zzListKey_any s o none st _ (unhide H)).mono ?_
  rintro e w4 ⟨rfl, h4⟩
  have hst := unhide H
  cases st <;> simp only [Bool.not_true, Bool.not_false] at hst
  all_goals
    simp only [keyOf, isSet]
    go_wp2
    go_ret
    exact ⟨rfl, h1.trans ((h2.mono h1.size).trans ((h3.mono (Nat.le_trans h1.size h2.size)).trans (h4.mono (Nat.le_trans h1.size (Nat.le_trans h2.size h3.size)))))⟩
theorem law_key_some (s b o : ByteArray) (st v : Bool) (bk off : Nat) (w : World) (hs : s.size ≤ maxLen) (hb : b.size ≤ maxLen) (ho : o.size ≤ maxLen) (hst : s.toList.isEmpty = !st)
    (hc : w.cell? ⟨bk, off, none⟩ = some (.bool v)) :
    Calls Try.prog 3 #[.string s, .pointer (some ⟨bk, off, none⟩), .string b, .string o] w fun e w' => e = .returned (.bool true) ∧ Below w.heap.size w w' := by
  have HS := hide hs
  have HB := hide hb
  have HO := hide ho
  clear hs hb ho
  by_cases c1 : 65536 < (s.size : Int)
  · go_enter Try.func3, Try.ntmps3
    go_wp2_with fail
    refine (zzBytes_key s b o _ _ HS HB HO).mono ?_
    rintro e w' ⟨⟨r, rfl⟩, rfl⟩
    cases r
    all_goals (go_wp2; go_ret; exact ⟨rfl, Below.refl _ _⟩)
  by_cases c2 : 65536 < (b.size : Int)
  · go_enter Try.func3, Try.ntmps3
    go_wp2_with fail
    refine (zzBytes_key s b o _ _ HS HB HO).mono ?_
    rintro e w' ⟨⟨r, rfl⟩, rfl⟩
    cases r
    all_goals (go_wp2; go_ret; exact ⟨rfl, Below.refl _ _⟩)
  by_cases c3 : 65536 < (o.size : Int)
  · go_enter Try.func3, Try.ntmps3
    go_wp2_with fail
    refine (zzBytes_key s b o _ _ HS HB HO).mono ?_
    rintro e w' ⟨⟨r, rfl⟩, rfl⟩
    cases r
    all_goals (go_wp2; go_ret; exact ⟨rfl, Below.refl _ _⟩)
  have H := hide hst
  clear hst
  go_enter Try.func3, Try.ntmps3
  go_wp2_with fail
  refine (zzBytes_key s b o _ _ HS HB HO).mono ?_
  rintro e w' ⟨⟨r, rfl⟩, rfl⟩
  cases r
  · go_wp2; go_ret; exact ⟨rfl, Below.refl _ _⟩
  go_wp2_with fail
  refine (zzListKey_any s b _ st _ (unhide H)).mono ?_
  rintro e w1 ⟨rfl, h1⟩
  go_wp2_with fail
  refine (zzListKey_any s _ none st _ (unhide H)).mono ?_
  rintro e w2 ⟨rfl, h2⟩
  go_wp2_with fail
  refine (zzListKey_any _ _ _ false _ emptyStr).mono ?_
  rintro e w3 ⟨rfl, h3⟩
  have hg1 : w'.heap.size < w1.heap.size := by have := h1.size; simp at this; omega
  have hg2 := h2.size
  have hg3 := h3.size
  have hB : Below (w'.heap.size + 1) (w'.alloc (.cells #[.bool v] 4)) w3 :=
    (h1.mono (by simp)).trans ((h2.mono (by omega)).trans (h3.mono (by omega)))
  have hcell : w3.cell? ⟨w'.heap.size, 0, none⟩ = some (.bool v) := by
    rw [hB.cell (p := ⟨w'.heap.size, 0, none⟩) (by simp)]; simp
  have hfin : Below w'.heap.size w' w3 := ((Below.refl _ _).alloc (Nat.le_refl _) _).trans (hB.mono (by omega))
  clear h1 h2 h3 hB
  go_wp2_with fail
  refine (zzListKey_any s o _ st _ (unhide H)).mono ?_
  rintro e w4 ⟨rfl, h4⟩
  have hst := unhide H
  have hend : Below w'.heap.size w' w4 := hfin.trans (((Below.refl _ _).alloc (by omega) _).trans (h4.mono (by simp; omega)))
  have HE := hide hend
  clear hend h4 hfin
  cases st <;> simp only [Bool.not_true, Bool.not_false] at hst
  all_goals
    simp only [keyOf, isSet]
    go_wp2
    go_ret
    exact ⟨rfl, HE⟩
end Go.Proofs.Qxb6617146a
