import Derived.Test.Qxb6617146aKeptB
import Derived.Maps.OwnSet
import Derived.StringKeys
namespace Go.Proofs.Qxb6617146a
open Go.RowKit Go.Maps
set_option linter.unusedVariables false

theorem gsz_le (f : Nat → Br) {k n : Nat} (h : k ≤ n) : gsz f k ≤ gsz f n := by
  induction n with
  | zero => obtain rfl : k = 0 := by omega
            exact Nat.le_refl _
  | succ n ih =>
    by_cases e : k = n + 1
    · subst e; exact Nat.le_refl _
    · have := ih (by omega)
      simp only [gsz]; omega
theorem gsz_step (f : Nat → Br) {k n : Nat} (h : k < n) : gsz f k + ((f k).id.size + (f k).conf.size + (f k).canc.size + (f k).dl) ≤ gsz f n := gsz_le f (k := k + 1) h

set_option maxHeartbeats 1000000 in
theorem groupSize_any (a : Option Addr) (n c : Nat) (f : Nat → Br) (w : World) (h : Brs w a n f) (hs : gsz f n ≤ 1048576) :
    Calls Try.prog 23 #[.slice a n c] w fun e w' => e = .returned (.int .i64 (gsz f n)) ∧ ∃ q, w' = w.drewN q := by
  obtain ⟨hm, h⟩ := h
  unfold maxLen at hm
  go_enter Try.func23, Try.ntmps23
  go_wp2
  go_loopw [3, 4] (fun s i w' => ∃ k q : Nat, k ≤ n ∧ i = .int .i64 k ∧ s = .int .i64 (gsz f k) ∧ w' = w.drewN q) (fun _ i _ => n - (intOf i).toNat)
  case atStart => exact ⟨0, 0, Nat.zero_le _, rfl, rfl, rfl⟩
  case round =>
    obtain ⟨k, q, hk, rfl, rfl, rfl⟩ := hrel
    by_cases hlt : k < n
    · obtain ⟨b, off, rfl, hc⟩ := h.resolve_left (by omega)
      obtain ⟨c0, c1, c2, c3, c4, c5⟩ := hc k hlt
      have hg := gsz_step f hlt
      have HG : Hid (gsz f (k + 1) = gsz f k + ((f k).id.size + (f k).conf.size + (f k).canc.size + (f k).dl)) := rfl
      obtain ⟨y, hy⟩ : ∃ y, gsz f k = y := ⟨_, rfl⟩
      rw [hy] at hg ⊢
      have HY : Hid (gsz f k = y) := hy
      clear hy
      go_wp2
      go_quiet (fail)
      go_wp2
      go_roundw
      case rel => exact ⟨k + 1, _, by omega, by go_num, by rw [HG.out, HY.out]; go_num, rfl⟩
      case measure => simp [intOf]; omega
    · go_wp2
      go_ret
      have e : k = n := by omega
      subst e
      exact ⟨rfl, _, rfl⟩

theorem branchSize_any (r : Br) (w : World) (hs : bsz r ≤ 1048576) :
    Calls Try.prog 33 #[r.val] w fun e w' => e = .returned (.int .i64 (bsz r)) ∧ Below w.heap.size w w' := by
  unfold Br.val
  unfold bsz at hs
  go_enter Try.func33, Try.ntmps33
  go_wp2
  go_ret
  exact ⟨by unfold bsz; go_num, (Below.refl _ _).alloc (Nat.le_refl _) _⟩

/-- zzSamePlain of a branch and its copy -/
theorem samePlain_same (r : Br) (w : World) (h : Bytes w r.da r.dl) :
    Calls Try.prog 26 #[r.val, r.val] w fun e w' => e = .returned (.bool true) ∧ Below w.heap.size w w' := by
  have hb : ∀ o1 o2, Bytes ((w.alloc o1).alloc o2) r.da r.dl := fun o1 o2 => h.later (((Below.refl _ _).alloc (Nat.le_refl _) _).alloc (by simp) _)
  unfold Br.val
  go_enter Try.func26, Try.ntmps26
  go_wp2_with fail
  refine (sameBut_agg r r.st _ (hb _ _)).mono ?_
  rintro e w' ⟨rfl, b1⟩
  have e0 : w'.cell? ⟨w.heap.size, 4, none⟩ = some (.string r.st) := by
    rw [b1.cell (p := ⟨w.heap.size, 4, none⟩) (by simp; omega), World.cell?_alloc_lt _ _ _ (by simp)]
    simp
  have e1 : w'.cell? ⟨w.heap.size + 1, 4, none⟩ = some (.string r.st) := by
    rw [b1.cell (p := ⟨w.heap.size + 1, 4, none⟩) (by simp)]
    simp
  have B1 : Hid (Below w.heap.size w w') := (((Below.refl _ _).alloc (Nat.le_refl _) _).alloc (by simp) _).trans (b1.mono (by simp; omega))
  clear b1 hb
  go_wp2
  go_ret
  exact ⟨rfl, B1.out⟩
end Go.Proofs.Qxb6617146a
