import Derived.Test.Qxb6617146aKeptI
import Derived.Test.Qxb6617146aKeptK
import Derived.OpenShut
import Derived.ShutString
import Derived.ChangeOld
namespace Go.Proofs.Qxb6617146a.keptDrop
open Go.ChangeShapes Go.WideShapes Go.ChangeAt Go.RowKit
open Go.ChangeMaps (open_string shut_string)
set_option linter.unusedVariables false

theorem own : ownKnob Try.prog.godebug = none := by kernel_rfl
theorem laidOut : laidOutB Try.prog = true := by kernel_rfl

theorem walk (a a' a3 : Option Addr) (n c n' c' n3 c3 : Nat) (z : Int) (f f3 : Nat → ByteArray) (G : Nat → Hd) (w : World) (h : Strs w a n f) (hG : Hds w a' n' G) (hBr : ∀ i, i < n' → Brs w (G i).a (G i).n (G i).r)
    (hBy : ∀ i, i < n' → ∀ p, p < (G i).n → Bytes w ((G i).r p).da ((G i).r p).dl) (h3 : Strs w a3 n3 f3) (hnil : a = none → n = 0) (hz : (Lit.int IntKind.i64 z).wf = true) :
    Calls Try.prog 6 #[.slice a n c, .slice a' n' c', .int .i64 z, .slice a3 n3 c3] w fun e w' => e = .returned (.bool true) ∧ Below w.heap.size w w' := by
  have z1 : z ≤ 9223372036854775807 := by
    simp only [Lit.wf, Bool.and_eq_true, decide_eq_true_eq] at hz
    exact hz.2
  by_cases hs : (n : Int) ≤ 65536 ∧ (n' : Int) ≤ 65536 ∧ (n3 : Int) ≤ 65536
  · exact law6_main a a' a3 n c n' c' n3 c3 z f f3 G w h hG hBr hBy h3 hnil z1 hs.1 hs.2.1 hs.2.2
  · exact law6_big a a' a3 n c n' c' n3 c3 z f f3 G w h hG hBr h3 hs

set_option maxRecDepth 100000 in
theorem lifted (os : Os) (started : os.Started) (H : Type) (enc : TypeId × Value → H) :
    ReturnsInHanded {} Try.checked os 6 .any (Rows.fnKeptDropScriptKeepsBytesAndEntriesSpec.pre6 enc Try.prog Try.f6 Rows.fnKeptDropScriptKeepsBytesAndEntriesRow.domain false) (Rows.fnKeptDropScriptKeepsBytesAndEntriesSpec.post enc Try.prog Try.f6 false true false false) := by
  refine returnsInHanded_of_change (C := Try.checked) own started (by kernel_rfl) Try.func6
    (ChangeSpec.witness6 (enc := enc) (C := Try.checked) false ⟨#[], #[.slice none 0 0, .slice none 0 0, .int .i64 0, .slice none 0 0], []⟩ 8 (by kernel_rfl) (by kernel_rfl) (by kernel_rfl) (by kernel_rfl)) ?_
  intro W base args ds gs before hval0 hW hcnd _
  have hval : ∀ (j : Nat) t v, Try.f6.params[j]? = some t → args[j]? = some v → Value.okWide Try.prog W .any base t v := hval0
  have hW' := hW
  obtain ⟨p, q, hA0, hV, rfl, hfz, hnd⟩ := hW
  have hA : DataW.TrodAll enc Try.prog W 0 (fun _ => true) true Try.f6.params.toList args.toList ds p := hA0
  rw [Try.params6] at hA hval
  obtain ⟨v0, vs0, d0, ds0, p0, q0, hargs, rfl, rfl, h0, r0⟩ := trodAll_cons hA
  obtain ⟨v1, vs1, d1, ds1, p1, q1, rfl, rfl, rfl, h1, r1⟩ := trodAll_cons r0
  obtain ⟨v2, vs2, d2, ds2, p2, q2, rfl, rfl, rfl, h2, r2⟩ := trodAll_cons r1
  obtain ⟨v3, vs3, d3, ds3, p3, q3, rfl, rfl, rfl, h3, r3⟩ := trodAll_cons r2
  obtain ⟨rfl, rfl, rfl⟩ := trodAll_nil r3
  obtain rfl : args = #[v0, v1, v2, v3] := by cases args; simp_all
  obtain ⟨rfl, rfl⟩ := trodVars_none hV
  have k0 := h0
  have lt0 : ∀ x ∈ p0, x.block < W.heap.size := by obtain ⟨m, hm⟩ := k0; exact DataW.trod_lt m _ _ _ hm
  have k1 := h1
  have lt1 : ∀ x ∈ p1, x.block < W.heap.size := by obtain ⟨m, hm⟩ := k1; exact DataW.trod_lt m _ _ _ hm
  have k2 := h2
  have lt2 : ∀ x ∈ p2, x.block < W.heap.size := by obtain ⟨m, hm⟩ := k2; exact DataW.trod_lt m _ _ _ hm
  have k3 := h3
  have lt3 : ∀ x ∈ p3, x.block < W.heap.size := by obtain ⟨m, hm⟩ := k3; exact DataW.trod_lt m _ _ _ hm
  obtain ⟨a1, n1, c1, rfl⟩ := okWide_slice Try.underlying28 (hval 0 28 v0 rfl rfl)
  obtain ⟨f, hS, hnc, hnil⟩ : ∃ f, Strs W a1 n1 f ∧ n1 ≤ c1 ∧ (a1 = none → n1 = 0) := by obtain ⟨fuel, hf⟩ := h0; exact open_strs (by simpa [Value.cells] using hf)
  obtain ⟨a2, n2, c2, rfl⟩ := okWide_slice Try.underlying47 (hval 1 47 v1 rfl rfl)
  obtain ⟨G, hG, hBr, hBy⟩ : ∃ G : Nat → Hd, Hds W a2 n2 G ∧ (∀ i, i < n2 → Brs W (G i).a (G i).n (G i).r) ∧ ∀ i, i < n2 → ∀ p, p < (G i).n → Bytes W ((G i).r p).da ((G i).r p).dl := by obtain ⟨fuel, hf⟩ := h1; exact open_grps (by simpa [Value.cells] using hf)
  obtain ⟨z, rfl, _, _, hz⟩ := open_int Try.underlying3 (hval 2 3 v2 rfl rfl) h2
  obtain ⟨a3, n3, c3, rfl⟩ := okWide_slice Try.underlying28 (hval 3 28 v3 rfl rfl)
  obtain ⟨f3, hS3, _, _⟩ : ∃ f, Strs W a3 n3 f ∧ n3 ≤ c3 ∧ (a3 = none → n3 = 0) := by obtain ⟨fuel, hf⟩ := h3; exact open_strs (by simpa [Value.cells] using hf)
  clear hA0 hval0
  refine (walk a1 a2 a3 n1 c1 n2 c2 n3 c3 z f f3 G W hS hG hBr hBy hS3 hnil hz).mono fun e W' ⟨he, bel⟩ => ?_
  subst he
  exact ⟨_, rfl, _, _, _, [], _, [], hW', trodAll_mk1 (shut_bool Try.underlying4 _), (trodAll_cons_mk (Below.trod laidOut (by kernel_rfl) (of_decide_eq_true (by kernel_rfl)) k0 bel lt0) (trodAll_cons_mk (Below.trod laidOut (by kernel_rfl) (of_decide_eq_true (by kernel_rfl)) k1 bel lt1) (trodAll_cons_mk (Below.trod laidOut (by kernel_rfl) (of_decide_eq_true (by kernel_rfl)) k2 bel lt2) (trodAll_cons_mk (Below.trod laidOut (by kernel_rfl) (of_decide_eq_true (by kernel_rfl)) k3 bel lt3) trodAll_mk0)))), rfl, bel.frame _, fun h => by cases h⟩

theorem over : Rows.fnKeptDropScriptKeepsBytesAndEntriesRow.holds Try.pinned (OpenSpec.ofChange Rows.fnKeptDropScriptKeepsBytesAndEntriesSpec) :=
  OpenClaim.holds_of_wide 6 Try.f6 rfl rfl rfl rfl rfl rfl rfl ⟨rfl, rfl, rfl, rfl, rfl⟩ rfl rfl rfl rfl rfl (by kernel_rfl) Try.func6 (by kernel_rfl)
    (of_decide_eq_true (by kernel_rfl)) (by unfold Func.isWrapper; first | (rw [if_pos (by decide +kernel)]; kernel_rfl) | (rw [if_neg (by decide +kernel)]; exact ⟨rfl, rfl⟩))
    (fun os started H enc _ => lifted os started H enc)
end Go.Proofs.Qxb6617146a.keptDrop

namespace Go.Proofs.Qxb6617146a
theorem keptDrop_proved : Rows.FnKeptDropScriptKeepsBytesAndEntriesSaid := keptDrop.over
end Go.Proofs.Qxb6617146a
