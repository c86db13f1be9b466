import Derived.Test.Qxb6617146aKeyLaw
import Derived.OpenShut
import Derived.ShutString
import Derived.ChangeOld
namespace Go.Proofs.Qxb6617146a.fnListKey
open Go.ChangeShapes Go.WideShapes Go.ChangeAt Go.RowKit
open Go.ChangeMaps (open_string shut_string)
set_option linter.unusedVariables false

theorem own : ownKnob Try.prog.godebug = none := by kernel_rfl
theorem laidOut : laidOutB Try.prog = true := by kernel_rfl

theorem walk (s b o : ByteArray) (p : Option Addr) (w : World) (hs : s.size ≤ maxLen) (hb : b.size ≤ maxLen) (ho : o.size ≤ maxLen)
    (hp : p = none ∨ ∃ bk off v, p = some ⟨bk, off, none⟩ ∧ w.cell? ⟨bk, off, none⟩ = some (.bool v)) :
    Calls Try.prog 3 #[.string s, .pointer p, .string b, .string o] w fun e w' => e = .returned (.bool true) ∧ Below w.heap.size w w' := by
  have hst : s.toList.isEmpty = !(!s.toList.isEmpty) := by simp
  rcases hp with rfl | ⟨bk, off, v, rfl, hc⟩
  · exact law_key_nil s b o _ w hs hb ho hst
  · exact law_key_some s b o _ v bk off w hs hb ho hst hc

set_option maxRecDepth 100000 in
theorem lifted (os : Os) (started : os.Started) (H : Type) (enc : TypeId × Value → H) :
    ReturnsInHanded {} Try.checked os 3 .any (Rows.fnListKeyHoldsTheColumnsOfItsPartsSpec.pre6 enc Try.prog Try.f3 Rows.fnListKeyHoldsTheColumnsOfItsPartsRow.domain false) (Rows.fnListKeyHoldsTheColumnsOfItsPartsSpec.post enc Try.prog Try.f3 false true false false) := by
  refine returnsInHanded_of_change (C := Try.checked) own started (by kernel_rfl) Try.func3
    (ChangeSpec.witness6 (enc := enc) (C := Try.checked) false ⟨#[], #[.string ⟨#[]⟩, .pointer none, .string ⟨#[]⟩, .string ⟨#[]⟩], []⟩ 8 (by kernel_rfl) (by kernel_rfl) (by kernel_rfl) (by kernel_rfl)) ?_
  intro W base args ds gs before hval0 hW hcnd _
  have hval : ∀ (j : Nat) t v, Try.f3.params[j]? = some t → args[j]? = some v → Value.okWide Try.prog W .any base t v := hval0
  have hW' := hW
  obtain ⟨p, q, hA0, hV, rfl, hfz, hnd⟩ := hW
  have hA : DataW.TrodAll enc Try.prog W 0 (fun _ => true) true Try.f3.params.toList args.toList ds p := hA0
  rw [Try.params3] at hA hval
  obtain ⟨v0, vs0, d0, ds0, p0, q0, hargs, rfl, rfl, h0, r0⟩ := trodAll_cons hA
  obtain ⟨v1, vs1, d1, ds1, p1, q1, rfl, rfl, rfl, h1, r1⟩ := trodAll_cons r0
  obtain ⟨v2, vs2, d2, ds2, p2, q2, rfl, rfl, rfl, h2, r2⟩ := trodAll_cons r1
  obtain ⟨v3, vs3, d3, ds3, p3, q3, rfl, rfl, rfl, h3, r3⟩ := trodAll_cons r2
  obtain ⟨rfl, rfl, rfl⟩ := trodAll_nil r3
  obtain rfl : args = #[v0, v1, v2, v3] := by cases args; simp_all
  obtain ⟨rfl, rfl⟩ := trodVars_none hV
  have k1 := h1
  have lt1 : ∀ x ∈ p1, x.block < W.heap.size := by obtain ⟨m, hm⟩ := k1; exact DataW.trod_lt m _ _ _ hm
  obtain ⟨s, rfl, rfl, rfl, w0⟩ := open_string Try.underlying9 (hval 0 9 v0 rfl rfl) h0
  obtain ⟨b, rfl, rfl, rfl, w2⟩ := open_string Try.underlying9 (hval 2 9 v2 rfl rfl) h2
  obtain ⟨o, rfl, rfl, rfl, w3⟩ := open_string Try.underlying9 (hval 3 9 v3 rfl rfl) h3
  obtain ⟨pp, rfl, hp⟩ : ∃ pp, v1 = .pointer pp ∧ (pp = none ∨ ∃ bk off v, pp = some ⟨bk, off, none⟩ ∧ W.cell? ⟨bk, off, none⟩ = some (.bool v)) := by
    rcases ChangeShapes.open_ptr Try.underlying22 (by rw [show Try.prog.cellsOf 4 = 1 by kernel_rfl]; omega) (hval 1 22 v1 rfl rfl) h1 with ⟨rfl, _, _⟩ | ⟨bk, off, cs, y, fuel, rfl, _, _, hlen, hcell, hy⟩
    · exact ⟨_, rfl, .inl rfl⟩
    · obtain ⟨v, rfl, _⟩ := DataW.trod_bool Try.underlying4 hy
      refine ⟨_, rfl, .inr ⟨bk, off, v, rfl, ?_⟩⟩
      have := hcell 0 (by rw [show Try.prog.cellsOf 4 = 1 by kernel_rfl]; omega)
      simpa using this
  clear hA0 hval0
  refine (walk s b o pp W w0 w2 w3 hp).mono fun e W' ⟨he, bel⟩ => ?_
  subst he
  exact ⟨_, rfl, _, _, _, [], _, [], hW', trodAll_mk1 (shut_bool Try.underlying4 _), (trodAll_cons_mk (shut_string Try.underlying9 w0) (trodAll_cons_mk (Below.trod laidOut (by kernel_rfl) (of_decide_eq_true (by kernel_rfl)) k1 bel lt1) (trodAll_cons_mk (shut_string Try.underlying9 w2) (trodAll_cons_mk (shut_string Try.underlying9 w3) trodAll_mk0)))), rfl, bel.frame _, fun h => by cases h⟩

theorem over : Rows.fnListKeyHoldsTheColumnsOfItsPartsRow.holds Try.pinned (OpenSpec.ofChange Rows.fnListKeyHoldsTheColumnsOfItsPartsSpec) :=
  OpenClaim.holds_of_wide 3 Try.f3 rfl rfl rfl rfl rfl rfl rfl ⟨rfl, rfl, rfl, rfl, rfl⟩ rfl rfl rfl rfl rfl (by kernel_rfl) Try.func3 (by kernel_rfl)
    (of_decide_eq_true (by kernel_rfl)) (by unfold Func.isWrapper; first | (rw [if_pos (by decide +kernel)]; kernel_rfl) | (rw [if_neg (by decide +kernel)]; exact ⟨rfl, rfl⟩))
    (fun os started H enc _ => lifted os started H enc)

end Go.Proofs.Qxb6617146a.fnListKey

namespace Go.Proofs.Qxb6617146a
theorem fnListKey_proved : Rows.FnListKeyHoldsTheColumnsOfItsPartsSaid := fnListKey.over
end Go.Proofs.Qxb6617146a
