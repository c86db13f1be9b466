import Derived.Test.Qxb6617699aLaw
import Derived.Deep.Slices
import Derived.SliceStrings
import Derived.ChangeSlices
import Derived.OpenShut
import Derived.ShutString
import Derived.ChangeOld
namespace Go.Proofs.Qxb6617699a.annotations
open Go.ChangeShapes Go.WideShapes Go.ChangeAt Go.RowKit
open Go.ChangeMaps (open_string shut_string)
set_option linter.unusedVariables false

theorem own : ownKnob Try.prog.godebug = none := by kernel_rfl
theorem laidOut : laidOutB Try.prog = true := by kernel_rfl

theorem cells9 : Try.prog.cellsOf 9 = 1 := by kernel_rfl
section
variable {H : Type} {enc : TypeId × Value → H} {w : World}
/-- an address at which a cell is read is plain -/
theorem plain_of {x : Addr} {v : Value} (h : w.cell? (x.add 0) = some v) : ∃ b off, x = ⟨b, off, none⟩ := by
  obtain ⟨b, off, spot⟩ := x
  have e : (⟨b, off, spot⟩ : Addr).add 0 = ⟨b, off, spot⟩ := by simp [Addr.add]
  rw [e] at h
  obtain rfl : spot = none := World.cell?_spot h
  exact ⟨b, off, rfl⟩

theorem open_strs {fuel : Nat} {a : Option Addr} {n c : Nat} {x : DataW H × List MemPlace} (h : DataW.trod enc Try.prog w 0 (fun _ => true) true fuel 22 [.slice a n c] = some x) :
    ∃ f, Strs w a n f ∧ n ≤ c ∧ (a = none → n = 0) := by
  rcases ChangeShapes.open_strings Try.underlying22 Try.underlying9 cells9 h with ⟨hcs, _⟩ | ⟨y, l, cp, ss, hcs, _, hl, hm, hz, _, hcell, _⟩
  · simp only [List.cons.injEq, Value.slice.injEq, and_true] at hcs
    obtain ⟨rfl, rfl, rfl⟩ := hcs
    exact ⟨fun _ => ⟨#[]⟩, ⟨Nat.zero_le _, .inl rfl⟩, Nat.le_refl _, fun _ => rfl⟩
  · simp only [List.cons.injEq, Value.slice.injEq, and_true] at hcs
    obtain ⟨rfl, rfl, rfl⟩ := hcs
    simp only [if_true] at hz
    refine ⟨fun i => ss.getD i ByteArray.empty, ⟨by omega, ?_⟩, hl, fun h => by cases h⟩
    by_cases hn : n = 0
    · exact .inl hn
    obtain ⟨b, off, rfl⟩ := plain_of (hcell 0 (by omega))
    exact .inr ⟨b, off, rfl, fun i hi => by rw [← WideShapes.add_plain]; exact hcell i (by omega)⟩
end

theorem walk (a0 : Option Addr) (n c0 : Nat) (k : Int) (f : Nat → ByteArray) (t : Bool) (w : World) (h : Strs w a0 n f) (hnc : n ≤ c0) :
    Calls Try.prog 3 #[.slice a0 n c0, .int .i64 k, .bool t] w fun e w' => e = .returned (.bool true) ∧ Below w.heap.size w w' := by
  by_cases hk : k ≤ 0 ∨ (n : Int) ≤ k
  · exact law_out a0 n c0 k f t w h hk
  · obtain ⟨m, rfl⟩ := Int.eq_ofNat_of_zero_le (a := k) (by omega)
    exact law_main a0 n c0 m f t w h hnc (by omega) (by omega)

set_option maxRecDepth 100000 in
theorem lifted (os : Os) (started : os.Started) (H : Type) (enc : TypeId × Value → H) :
    ReturnsInHanded {} Try.checked os 3 .any (Rows.fnAnnotationsValueJoinsAtAnyCutSpec.pre6 enc Try.prog Try.f3 Rows.fnAnnotationsValueJoinsAtAnyCutRow.domain false) (Rows.fnAnnotationsValueJoinsAtAnyCutSpec.post enc Try.prog Try.f3 false true false false) := by
  refine returnsInHanded_of_change (C := Try.checked) own started (by kernel_rfl) Try.func3
    (ChangeSpec.witness6 (enc := enc) (C := Try.checked) false ⟨#[], #[.slice none 0 0, .int .i64 0, .bool false], []⟩ 8 (by kernel_rfl) (by kernel_rfl) (by kernel_rfl) (by kernel_rfl)) ?_
  intro W base args ds gs before hval0 hW hcnd _
  have hval : ∀ (j : Nat) t v, Try.f3.params[j]? = some t → args[j]? = some v → Value.okWide Try.prog W .any base t v := hval0
  have hW' := hW
  obtain ⟨p, q, hA0, hV, rfl, hfz, hnd⟩ := hW
  have hA : DataW.TrodAll enc Try.prog W 0 (fun _ => true) true Try.f3.params.toList args.toList ds p := hA0
  rw [Try.params3] at hA hval
  obtain ⟨v0, vs0, d0, ds0, p0, q0, hargs, rfl, rfl, h0, r0⟩ := trodAll_cons hA
  obtain ⟨v1, vs1, d1, ds1, p1, q1, rfl, rfl, rfl, h1, r1⟩ := trodAll_cons r0
  obtain ⟨v2, vs2, d2, ds2, p2, q2, rfl, rfl, rfl, h2, r2⟩ := trodAll_cons r1
  obtain ⟨rfl, rfl, rfl⟩ := trodAll_nil r2
  obtain rfl : args = #[v0, v1, v2] := by cases args; simp_all
  obtain ⟨rfl, rfl⟩ := trodVars_none hV
  have k0 := h0
  have lt0 : ∀ x ∈ p0, x.block < W.heap.size := by obtain ⟨m, hm⟩ := k0; exact DataW.trod_lt m _ _ _ hm
  have k1 := h1
  have lt1 : ∀ x ∈ p1, x.block < W.heap.size := by obtain ⟨m, hm⟩ := k1; exact DataW.trod_lt m _ _ _ hm
  have k2 := h2
  have lt2 : ∀ x ∈ p2, x.block < W.heap.size := by obtain ⟨m, hm⟩ := k2; exact DataW.trod_lt m _ _ _ hm
  obtain ⟨a1, n1, c1, rfl⟩ := okWide_slice Try.underlying22 (hval 0 22 v0 rfl rfl)
  obtain ⟨f, hS, hnc, hnil⟩ : ∃ f, Strs W a1 n1 f ∧ n1 ≤ c1 ∧ (a1 = none → n1 = 0) := by obtain ⟨fuel, hf⟩ := h0; exact open_strs (by simpa [Value.cells] using hf)
  obtain ⟨k, rfl, _, _, _⟩ := open_int Try.underlying3 (hval 1 3 v1 rfl rfl) h1
  obtain ⟨t, rfl, _, _⟩ := open_bool Try.underlying4 (hval 2 4 v2 rfl rfl) h2
  clear hA0 hval0
  refine (walk a1 n1 c1 k f t W hS hnc).mono fun e W' ⟨he, bel⟩ => ?_
  subst he
  exact ⟨_, rfl, _, _, _, [], _, [], hW', trodAll_mk1 (shut_bool Try.underlying4 _), (trodAll_cons_mk (Below.trod laidOut (by kernel_rfl) (of_decide_eq_true (by kernel_rfl)) k0 bel lt0) (trodAll_cons_mk (Below.trod laidOut (by kernel_rfl) (of_decide_eq_true (by kernel_rfl)) k1 bel lt1) (trodAll_cons_mk (Below.trod laidOut (by kernel_rfl) (of_decide_eq_true (by kernel_rfl)) k2 bel lt2) trodAll_mk0))), rfl, bel.frame _, fun h => by cases h⟩

theorem over : Rows.fnAnnotationsValueJoinsAtAnyCutRow.holds Try.pinned (OpenSpec.ofChange Rows.fnAnnotationsValueJoinsAtAnyCutSpec) :=
  OpenClaim.holds_of_wide 3 Try.f3 rfl rfl rfl rfl rfl rfl rfl ⟨rfl, rfl, rfl, rfl, rfl⟩ rfl rfl rfl rfl rfl (by kernel_rfl) Try.func3 (by kernel_rfl)
    (of_decide_eq_true (by kernel_rfl)) (by unfold Func.isWrapper; first | (rw [if_pos (by decide +kernel)]; kernel_rfl) | (rw [if_neg (by decide +kernel)]; exact ⟨rfl, rfl⟩))
    (fun os started H enc _ => lifted os started H enc)
end Go.Proofs.Qxb6617699a.annotations

namespace Go.Proofs.Qxb6617699a
theorem annotations_proved : Rows.FnAnnotationsValueJoinsAtAnyCutSaid := annotations.over
end Go.Proofs.Qxb6617699a
