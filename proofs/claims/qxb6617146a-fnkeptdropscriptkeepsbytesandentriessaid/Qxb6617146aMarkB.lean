import Derived.Test.Qxb6617146aMarkA
import Derived.BigRegion
namespace Go.Proofs.Qxb6617146a
open Go.RowKit
set_option linter.unusedVariables false

structure Br where
  id : ByteArray
  conf : ByteArray
  canc : ByteArray
  da : Option Addr
  dl : Nat
  dc : Nat
  st : ByteArray
  att : Int

/-- a branch as a value -/
def Br.val (r : Br) : Value := .agg #[.string r.id, .string r.conf, .string r.canc, .slice r.da r.dl r.dc, .string r.st, .int .i64 r.att]

theorem Bytes.later {w w' : World} {a : Option Addr} {n : Nat} (h : Bytes w a n) (hb : Below w.heap.size w w') : Bytes w' a n := by
  obtain ⟨hm, h⟩ := h
  refine ⟨hm, ?_⟩
  rcases h with h | ⟨b, off, e, hc⟩
  · exact .inl h
  · refine .inr ⟨b, off, e, fun i hi => ?_⟩
    obtain ⟨x, hx⟩ := hc i hi
    exact ⟨x, by rw [hb.cell (p := ⟨b, off + i, none⟩) (World.block_lt_of_cell? _ _ hx)]; exact hx⟩

theorem below_drewN {B : Nat} {a w : World} (h : Below B a w) (q : Nat) : Below B a (w.drewN q) := ⟨h.os, h.tape, h.output, h.size, h.block⟩

/-- zzBranchEq of one and the same branch -/
theorem branchEq_same (r : Br) (w : World) (h : Bytes w r.da r.dl) :
    Calls Try.prog 16 #[r.val, r.val] w fun e w' => e = .returned (.bool true) ∧ Below w.heap.size w w' := by
  unfold Br.val
  go_enter Try.func16, Try.ntmps16
  go_wp2_with fail
  refine (bytesEq_same r.da r.dl r.dc _ (h.later (((Below.refl _ _).alloc (Nat.le_refl _) _).alloc (by simp) _))).mono ?_
  rintro e w' ⟨rfl, q, rfl⟩
  go_wp2
  go_ret
  exact ⟨rfl, below_drewN (((Below.refl _ _).alloc (Nat.le_refl _) _).alloc (by simp) _) q⟩

/-- the same, but for the status -/
def Br.at (r : Br) (s : ByteArray) : Br := { r with st := s }

theorem sameBut_same (r : Br) (s : ByteArray) (w : World) (h : Bytes w r.da r.dl) :
    Calls Try.prog 17 #[(r.at s).val, r.val] w fun e w' => e = .returned (.bool true) ∧ Below w.heap.size w w' := by
  unfold Br.val Br.at
  go_enter Try.func17, Try.ntmps17
  go_wp2_with fail
  refine (bytesEq_same r.da r.dl r.dc _ (h.later (((Below.refl _ _).alloc (Nat.le_refl _) _).alloc (by simp) _))).mono ?_
  rintro e w' ⟨rfl, q, rfl⟩
  go_wp2
  go_ret
  exact ⟨rfl, below_drewN (((Below.refl _ _).alloc (Nat.le_refl _) _).alloc (by simp) _) q⟩

end Go.Proofs.Qxb6617146a
