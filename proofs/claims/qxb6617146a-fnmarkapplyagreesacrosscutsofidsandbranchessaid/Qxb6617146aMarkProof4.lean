import Derived.Test.Qxb6617146aMarkJ
import Derived.OpenShut
import Derived.ShutString
import Derived.ChangeOld
namespace Go.Proofs.Qxb6617146a.markAgrees
open Go.ChangeShapes Go.WideShapes Go.ChangeAt Go.RowKit
open Go.ChangeMaps (open_string shut_string)
set_option linter.unusedVariables false

theorem own : ownKnob Try.prog.godebug = none := by kernel_rfl
theorem laidOut : laidOutB Try.prog = true := by kernel_rfl

theorem int_nat {i : Int} {n : Nat} (h0 : 0 ≤ i) (h : i ≤ n) : ∃ k : Nat, i = k ∧ k ≤ n := by
  obtain ⟨k, rfl⟩ := Int.eq_ofNat_of_zero_le h0
  exact ⟨k, rfl, by omega⟩

theorem walk (gid st : ByteArray) (a a' : Option Addr) (n c n' c' : Nat) (i j : Int) (f : Nat → ByteArray) (r : Nat → Br) (w : World) (h : Strs w a n f) (h' : Brs w a' n' r)
    (hd : ∀ p, p < n' → Bytes w (r p).da (r p).dl) (hnc : n ≤ c) (hnc' : n' ≤ c') (hnil : a = none → n = 0) :
    Calls Try.prog 4 #[.string gid, .slice a n c, .string st, .slice a' n' c', .int .i64 i, .int .i64 j] w fun e w' => e = .returned (.bool true) ∧ Below w.heap.size w w' := by
  by_cases hs : (gid.size : Int) ≤ 65536 ∧ (n : Int) ≤ 65536 ∧ (st.size : Int) ≤ 65536 ∧ (n' : Int) ≤ 65536
  · by_cases ho : 0 ≤ i ∧ i ≤ n ∧ 0 ≤ j ∧ j ≤ n'
    · obtain ⟨i, rfl, hi⟩ := int_nat ho.1 ho.2.1
      obtain ⟨j, rfl, hj⟩ := int_nat ho.2.2.1 ho.2.2.2
      exact law4_main gid st a a' n c n' c' i j f r w h h' hd hnc hnc' hnil hs.1 hs.2.1 hs.2.2.1 hs.2.2.2 hi hj
    · exact law4_out gid st a a' n c n' c' i j f r w h h' hnc hnil hs.1 hs.2.1 hs.2.2.1 hs.2.2.2 ho
  · exact law4_big gid st a a' n c n' c' i j f r w h h' hs

set_option maxRecDepth 100000 in
theorem lifted (os : Os) (started : os.Started) (H : Type) (enc : TypeId × Value → H) :
    ReturnsInHanded {} Try.checked os 4 .any (Rows.fnMarkApplyAgreesAcrossCutsOfIdsAndBranchesSpec.pre6 enc Try.prog Try.f4 Rows.fnMarkApplyAgreesAcrossCutsOfIdsAndBranchesRow.domain false) (Rows.fnMarkApplyAgreesAcrossCutsOfIdsAndBranchesSpec.post enc Try.prog Try.f4 false true false false) := by
  refine returnsInHanded_of_change (C := Try.checked) own started (by kernel_rfl) Try.func4
    (ChangeSpec.witness6 (enc := enc) (C := Try.checked) false ⟨#[], #[.string ⟨#[]⟩, .slice none 0 0, .string ⟨#[]⟩, .slice none 0 0, .int .i64 0, .int .i64 0], []⟩ 8 (by kernel_rfl) (by kernel_rfl) (by kernel_rfl) (by kernel_rfl)) ?_
  intro W base args ds gs before hval0 hW hcnd _
  have hval : ∀ (j : Nat) t v, Try.f4.params[j]? = some t → args[j]? = some v → Value.okWide Try.prog W .any base t v := hval0
  have hW' := hW
  obtain ⟨p, q, hA0, hV, rfl, hfz, hnd⟩ := hW
  have hA : DataW.TrodAll enc Try.prog W 0 (fun _ => true) true Try.f4.params.toList args.toList ds p := hA0
  rw [Try.params4] at hA hval
  obtain ⟨v0, vs0, d0, ds0, p0, q0, hargs, rfl, rfl, h0, r0⟩ := trodAll_cons hA
  obtain ⟨v1, vs1, d1, ds1, p1, q1, rfl, rfl, rfl, h1, r1⟩ := trodAll_cons r0
  obtain ⟨v2, vs2, d2, ds2, p2, q2, rfl, rfl, rfl, h2, r2⟩ := trodAll_cons r1
  obtain ⟨v3, vs3, d3, ds3, p3, q3, rfl, rfl, rfl, h3, r3⟩ := trodAll_cons r2
  obtain ⟨v4, vs4, d4, ds4, p4, q4, rfl, rfl, rfl, h4, r4⟩ := trodAll_cons r3
  obtain ⟨v5, vs5, d5, ds5, p5, q5, rfl, rfl, rfl, h5, r5⟩ := trodAll_cons r4
  obtain ⟨rfl, rfl, rfl⟩ := trodAll_nil r5
  obtain rfl : args = #[v0, v1, v2, v3, v4, v5] := by cases args; simp_all
  obtain ⟨rfl, rfl⟩ := trodVars_none hV
  have k0 := h0
  have lt0 : ∀ x ∈ p0, x.block < W.heap.size := by obtain ⟨m, hm⟩ := k0; exact DataW.trod_lt m _ _ _ hm
  have k1 := h1
  have lt1 : ∀ x ∈ p1, x.block < W.heap.size := by obtain ⟨m, hm⟩ := k1; exact DataW.trod_lt m _ _ _ hm
  have k2 := h2
  have lt2 : ∀ x ∈ p2, x.block < W.heap.size := by obtain ⟨m, hm⟩ := k2; exact DataW.trod_lt m _ _ _ hm
  have k3 := h3
  have lt3 : ∀ x ∈ p3, x.block < W.heap.size := by obtain ⟨m, hm⟩ := k3; exact DataW.trod_lt m _ _ _ hm
  have k4 := h4
  have lt4 : ∀ x ∈ p4, x.block < W.heap.size := by obtain ⟨m, hm⟩ := k4; exact DataW.trod_lt m _ _ _ hm
  have k5 := h5
  have lt5 : ∀ x ∈ p5, x.block < W.heap.size := by obtain ⟨m, hm⟩ := k5; exact DataW.trod_lt m _ _ _ hm
  obtain ⟨gid, rfl, _, _, _⟩ := open_string Try.underlying9 (hval 0 9 v0 rfl rfl) h0
  obtain ⟨a1, n1, c1, rfl⟩ := okWide_slice Try.underlying28 (hval 1 28 v1 rfl rfl)
  obtain ⟨f, hS, hnc, hnil⟩ : ∃ f, Strs W a1 n1 f ∧ n1 ≤ c1 ∧ (a1 = none → n1 = 0) := by obtain ⟨fuel, hf⟩ := h1; exact open_strs (by simpa [Value.cells] using hf)
  obtain ⟨st, rfl, _, _, _⟩ := open_string Try.underlying9 (hval 2 9 v2 rfl rfl) h2
  obtain ⟨a3, n3, c3, rfl⟩ := okWide_slice Try.underlying29 (hval 3 29 v3 rfl rfl)
  obtain ⟨r, hB, hD, hnc3, _⟩ : ∃ r, Brs W a3 n3 r ∧ (∀ p, p < n3 → Bytes W (r p).da (r p).dl) ∧ n3 ≤ c3 ∧ (a3 = none → n3 = 0) := by obtain ⟨fuel, hf⟩ := h3; exact open_brs (by simpa [Value.cells] using hf)
  obtain ⟨i, rfl, _, _, _⟩ := open_int Try.underlying3 (hval 4 3 v4 rfl rfl) h4
  obtain ⟨j, rfl, _, _, _⟩ := open_int Try.underlying3 (hval 5 3 v5 rfl rfl) h5
  clear hA0 hval0
  refine (walk gid st a1 a3 n1 c1 n3 c3 i j f r W hS hB hD hnc hnc3 hnil).mono fun e W' ⟨he, bel⟩ => ?_
  subst he
  exact ⟨_, rfl, _, _, _, [], _, [], hW', trodAll_mk1 (shut_bool Try.underlying4 _), (trodAll_cons_mk (Below.trod laidOut (by kernel_rfl) (of_decide_eq_true (by kernel_rfl)) k0 bel lt0) (trodAll_cons_mk (Below.trod laidOut (by kernel_rfl) (of_decide_eq_true (by kernel_rfl)) k1 bel lt1) (trodAll_cons_mk (Below.trod laidOut (by kernel_rfl) (of_decide_eq_true (by kernel_rfl)) k2 bel lt2) (trodAll_cons_mk (Below.trod laidOut (by kernel_rfl) (of_decide_eq_true (by kernel_rfl)) k3 bel lt3) (trodAll_cons_mk (Below.trod laidOut (by kernel_rfl) (of_decide_eq_true (by kernel_rfl)) k4 bel lt4) (trodAll_cons_mk (Below.trod laidOut (by kernel_rfl) (of_decide_eq_true (by kernel_rfl)) k5 bel lt5) trodAll_mk0)))))), rfl, bel.frame _, fun h => by cases h⟩

theorem over : Rows.fnMarkApplyAgreesAcrossCutsOfIdsAndBranchesRow.holds Try.pinned (OpenSpec.ofChange Rows.fnMarkApplyAgreesAcrossCutsOfIdsAndBranchesSpec) :=
  OpenClaim.holds_of_wide 4 Try.f4 rfl rfl rfl rfl rfl rfl rfl ⟨rfl, rfl, rfl, rfl, rfl⟩ rfl rfl rfl rfl rfl (by kernel_rfl) Try.func4 (by kernel_rfl)
    (of_decide_eq_true (by kernel_rfl)) (by unfold Func.isWrapper; first | (rw [if_pos (by decide +kernel)]; kernel_rfl) | (rw [if_neg (by decide +kernel)]; exact ⟨rfl, rfl⟩))
    (fun os started H enc _ => lifted os started H enc)
end Go.Proofs.Qxb6617146a.markAgrees

namespace Go.Proofs.Qxb6617146a
theorem markAgrees_proved : Rows.FnMarkApplyAgreesAcrossCutsOfIdsAndBranchesSaid := markAgrees.over
end Go.Proofs.Qxb6617146a
