import Derived.Test.Qxb6617146aMarkK
import Derived.OpenShut
import Derived.ShutString
import Derived.ChangeOld
namespace Go.Proofs.Qxb6617146a.markLast
open Go.ChangeShapes Go.WideShapes Go.ChangeAt Go.RowKit
open Go.ChangeMaps (open_string shut_string)
set_option linter.unusedVariables false

theorem own : ownKnob Try.prog.godebug = none := by kernel_rfl
theorem laidOut : laidOutB Try.prog = true := by kernel_rfl

theorem walk (gid st1 st : ByteArray) (a a' : Option Addr) (n c n' c' : Nat) (f : Nat → ByteArray) (r : Nat → Br) (w : World) (h : Strs w a n f) (h' : Brs w a' n' r)
    (hd : ∀ p, p < n' → Bytes w (r p).da (r p).dl) (hnc : n ≤ c) (hnc' : n' ≤ c') (hnil : a = none → n = 0) :
    Calls Try.prog 5 #[.string gid, .slice a n c, .string st1, .string st, .slice a' n' c'] w fun e w' => e = .returned (.bool true) ∧ Below w.heap.size w w' := by
  by_cases hs : (gid.size : Int) ≤ 65536 ∧ (n : Int) ≤ 65536 ∧ (st1.size : Int) ≤ 65536 ∧ (st.size : Int) ≤ 65536 ∧ (n' : Int) ≤ 65536
  · exact law5_main gid st1 st a a' n c n' c' f r w h h' hd hnc hnc' hnil hs.1 hs.2.1 hs.2.2.1 hs.2.2.2.1 hs.2.2.2.2
  · exact law5_big gid st1 st a a' n c n' c' f r w h h' hs

set_option maxRecDepth 100000 in
theorem lifted (os : Os) (started : os.Started) (H : Type) (enc : TypeId × Value → H) :
    ReturnsInHanded {} Try.checked os 5 .any (Rows.fnMarkApplyLastStatusWinsAndTwiceIsOnceSpec.pre6 enc Try.prog Try.f5 Rows.fnMarkApplyLastStatusWinsAndTwiceIsOnceRow.domain false) (Rows.fnMarkApplyLastStatusWinsAndTwiceIsOnceSpec.post enc Try.prog Try.f5 false true false false) := by
  refine returnsInHanded_of_change (C := Try.checked) own started (by kernel_rfl) Try.func5
    (ChangeSpec.witness6 (enc := enc) (C := Try.checked) false ⟨#[], #[.string ⟨#[]⟩, .slice none 0 0, .string ⟨#[]⟩, .string ⟨#[]⟩, .slice none 0 0], []⟩ 8 (by kernel_rfl) (by kernel_rfl) (by kernel_rfl) (by kernel_rfl)) ?_
  intro W base args ds gs before hval0 hW hcnd _
  have hval : ∀ (j : Nat) t v, Try.f5.params[j]? = some t → args[j]? = some v → Value.okWide Try.prog W .any base t v := hval0
  have hW' := hW
  obtain ⟨p, q, hA0, hV, rfl, hfz, hnd⟩ := hW
  have hA : DataW.TrodAll enc Try.prog W 0 (fun _ => true) true Try.f5.params.toList args.toList ds p := hA0
  rw [Try.params5] at hA hval
  obtain ⟨v0, vs0, d0, ds0, p0, q0, hargs, rfl, rfl, h0, r0⟩ := trodAll_cons hA
  obtain ⟨v1, vs1, d1, ds1, p1, q1, rfl, rfl, rfl, h1, r1⟩ := trodAll_cons r0
  obtain ⟨v2, vs2, d2, ds2, p2, q2, rfl, rfl, rfl, h2, r2⟩ := trodAll_cons r1
  obtain ⟨v3, vs3, d3, ds3, p3, q3, rfl, rfl, rfl, h3, r3⟩ := trodAll_cons r2
  obtain ⟨v4, vs4, d4, ds4, p4, q4, rfl, rfl, rfl, h4, r4⟩ := trodAll_cons r3
  obtain ⟨rfl, rfl, rfl⟩ := trodAll_nil r4
  obtain rfl : args = #[v0, v1, v2, v3, v4] := by cases args; simp_all
  obtain ⟨rfl, rfl⟩ := trodVars_none hV
  have k0 := h0
  have lt0 : ∀ x ∈ p0, x.block < W.heap.size := by obtain ⟨m, hm⟩ := k0; exact DataW.trod_lt m _ _ _ hm
  have k1 := h1
  have lt1 : ∀ x ∈ p1, x.block < W.heap.size := by obtain ⟨m, hm⟩ := k1; exact DataW.trod_lt m _ _ _ hm
  have k2 := h2
  have lt2 : ∀ x ∈ p2, x.block < W.heap.size := by obtain ⟨m, hm⟩ := k2; exact DataW.trod_lt m _ _ _ hm
  have k3 := h3
  have lt3 : ∀ x ∈ p3, x.block < W.heap.size := by obtain ⟨m, hm⟩ := k3; exact DataW.trod_lt m _ _ _ hm
  have k4 := h4
  have lt4 : ∀ x ∈ p4, x.block < W.heap.size := by obtain ⟨m, hm⟩ := k4; exact DataW.trod_lt m _ _ _ hm
  obtain ⟨gid, rfl, _, _, _⟩ := open_string Try.underlying9 (hval 0 9 v0 rfl rfl) h0
  obtain ⟨a1, n1, c1, rfl⟩ := okWide_slice Try.underlying28 (hval 1 28 v1 rfl rfl)
  obtain ⟨f, hS, hnc, hnil⟩ : ∃ f, Strs W a1 n1 f ∧ n1 ≤ c1 ∧ (a1 = none → n1 = 0) := by obtain ⟨fuel, hf⟩ := h1; exact open_strs (by simpa [Value.cells] using hf)
  obtain ⟨st1, rfl, _, _, _⟩ := open_string Try.underlying9 (hval 2 9 v2 rfl rfl) h2
  obtain ⟨st, rfl, _, _, _⟩ := open_string Try.underlying9 (hval 3 9 v3 rfl rfl) h3
  obtain ⟨a3, n3, c3, rfl⟩ := okWide_slice Try.underlying29 (hval 4 29 v4 rfl rfl)
  obtain ⟨r, hB, hD, hnc3, _⟩ : ∃ r, Brs W a3 n3 r ∧ (∀ p, p < n3 → Bytes W (r p).da (r p).dl) ∧ n3 ≤ c3 ∧ (a3 = none → n3 = 0) := by obtain ⟨fuel, hf⟩ := h4; exact open_brs (by simpa [Value.cells] using hf)
  clear hA0 hval0
  refine (walk gid st1 st a1 a3 n1 c1 n3 c3 f r W hS hB hD hnc hnc3 hnil).mono fun e W' ⟨he, bel⟩ => ?_
  subst he
  exact ⟨_, rfl, _, _, _, [], _, [], hW', trodAll_mk1 (shut_bool Try.underlying4 _), (trodAll_cons_mk (Below.trod laidOut (by kernel_rfl) (of_decide_eq_true (by kernel_rfl)) k0 bel lt0) (trodAll_cons_mk (Below.trod laidOut (by kernel_rfl) (of_decide_eq_true (by kernel_rfl)) k1 bel lt1) (trodAll_cons_mk (Below.trod laidOut (by kernel_rfl) (of_decide_eq_true (by kernel_rfl)) k2 bel lt2) (trodAll_cons_mk (Below.trod laidOut (by kernel_rfl) (of_decide_eq_true (by kernel_rfl)) k3 bel lt3) (trodAll_cons_mk (Below.trod laidOut (by kernel_rfl) (of_decide_eq_true (by kernel_rfl)) k4 bel lt4) trodAll_mk0))))), rfl, bel.frame _, fun h => by cases h⟩

theorem over : Rows.fnMarkApplyLastStatusWinsAndTwiceIsOnceRow.holds Try.pinned (OpenSpec.ofChange Rows.fnMarkApplyLastStatusWinsAndTwiceIsOnceSpec) :=
  OpenClaim.holds_of_wide 5 Try.f5 rfl rfl rfl rfl rfl rfl rfl ⟨rfl, rfl, rfl, rfl, rfl⟩ rfl rfl rfl rfl rfl (by kernel_rfl) Try.func5 (by kernel_rfl)
    (of_decide_eq_true (by kernel_rfl)) (by unfold Func.isWrapper; first | (rw [if_pos (by decide +kernel)]; kernel_rfl) | (rw [if_neg (by decide +kernel)]; exact ⟨rfl, rfl⟩))
    (fun os started H enc _ => lifted os started H enc)
end Go.Proofs.Qxb6617146a.markLast

namespace Go.Proofs.Qxb6617146a
theorem markLast_proved : Rows.FnMarkApplyLastStatusWinsAndTwiceIsOnceSaid := markLast.over
end Go.Proofs.Qxb6617146a
