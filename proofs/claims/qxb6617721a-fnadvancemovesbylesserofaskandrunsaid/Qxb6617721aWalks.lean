import Derived.Test.Qxb6617721aRows
import Derived.Test.Qxb6617721aPlain
import Derived.WalkKit
import Derived.WalkSpells
import Derived.ProofKit
import Derived.Below
import Derived.Deep.QuietTactic
import Derived.BigQuiet
import Derived.Deep.OwnRows
import Derived.Deep.DeepCutAuto
import Derived.Laws.IdiomCopy
namespace Go.Proofs.Qxb6617721a
open Go.RowKit
set_option linter.unusedVariables false

theorem hide {p : Prop} (h : p) : Hid p := h

/-- the slice at a reads as the bytes f 0 .. f (n-1) -/
def Row (w : World) (a : Option Addr) (n : Nat) (f : Nat → Int) : Prop :=
  n ≤ maxLen ∧ (n = 0 ∨ ∃ b off, a = some ⟨b, off, none⟩ ∧ ∀ i, i < n → w.cell? ⟨b, off + i, none⟩ = some (.int .u8 (f i)))
theorem Row.later {w w' : World} {a : Option Addr} {n : Nat} {f : Nat → Int} (h : Row w a n f) (hb : Below w.heap.size w w') : Row w' a n f := by
  obtain ⟨hm, h⟩ := h
  refine ⟨hm, ?_⟩
  rcases h with h | ⟨b, off, e, hc⟩
  · exact .inl h
  · exact .inr ⟨b, off, e, fun i hi => by rw [hb.cell (p := ⟨b, off + i, none⟩) (World.block_lt_of_cell? _ _ (hc i hi))]; exact hc i hi⟩

/-- what line.at gives at place p -/
def atF (f : Nat → Int) (n : Nat) (ts lead : Int) (p : Nat) : Int := if p < n then f p else if ts = 0 then 0 else if p = n then lead else 255

theorem blank_any (x : Int) (w : World) : Calls Try.prog 8 #[.int .u8 x] w fun e w' => e = .returned (.bool (blk x)) ∧ w' = w := by
  unfold blk
  by_cases h1 : x = 32
  · subst h1
    go_enter Try.func8, Try.ntmps8
    go_wp2
    go_ret
    exact ⟨rfl, rfl⟩
  · have h2 : (x == 32) = false := by simp [h1]
    go_enter Try.func8, Try.ntmps8
    go_wp2
    go_ret
    exact ⟨by rw [h2]; rfl, rfl⟩

theorem stop_any (c x : Int) (w : World) (h0 : 0 ≤ c) (h1 : c ≤ 2000000000) : Calls Try.prog 9 #[.int .i64 c, .int .u8 x] w fun e w' => e = .returned (.int .i64 (stp c x)) ∧ w' = w := by
  by_cases hx : x = 9
  · subst hx
    have e : Hid (stp c 9 = (c / 4 + 1) * 4) := rfl
    go_enter Try.func9, Try.ntmps9
    go_wp2
    go_ret
    exact ⟨by rw [e.out]; rfl, rfl⟩
  · have e : Hid (stp c x = c + 1) := by show stp c x = c + 1; unfold stp; rw [if_neg hx]
    have h2 : (x == 9) = false := by simp [hx]
    go_enter Try.func9, Try.ntmps9
    go_wp2
    go_ret
    exact ⟨by rw [e.out]; rfl, rfl⟩

/-- a line in memory: its head, its tail's size and lead -/
structure LineAt (w : World) (g : Nat) (a : Option Addr) (n c : Nat) (f : Nat → Int) (ts lead : Int) : Prop where
  head : w.cell? ⟨g, 0, none⟩ = some (.slice a n c)
  size : w.cell? ⟨g, 1, none⟩ = some (.int .i64 ts)
  lead : w.cell? ⟨g, 2, none⟩ = some (.int .u8 lead)
  row : Row w a n f

theorem at_any (g : Nat) (a : Option Addr) (n c : Nat) (f : Nat → Int) (ts lead : Int) (p : Nat) (w : World) (h : LineAt w g a n c f ts lead) :
    Calls Try.prog 13 #[.pointer (some ⟨g, 0, none⟩), .int .i64 (p : Int)] w fun e w' => e = .returned (.int .u8 (atF f n ts lead p)) ∧ w' = w := by
  obtain ⟨h0, h1, h2, hm, h3⟩ := h
  unfold maxLen at hm
  by_cases hp : p < n
  · obtain ⟨b, off, rfl, hc⟩ := h3.resolve_left (by omega)
    have e1 := hc p hp
    have e : Hid (atF f n ts lead p = f p) := by show atF f n ts lead p = f p; unfold atF; rw [if_pos hp]
    clear hc h3
    go_enter Try.func13, Try.ntmps13
    go_wp2
    go_ret
    exact ⟨by rw [e.out]; rfl, rfl⟩
  · clear h3
    by_cases ht : ts = 0
    · subst ht
      have e : Hid (atF f n 0 lead p = 0) := by show atF f n 0 lead p = 0; unfold atF; rw [if_neg hp, if_pos rfl]
      go_enter Try.func13, Try.ntmps13
      go_wp2
      go_ret
      exact ⟨by rw [e.out]; rfl, rfl⟩
    · have ht' : (ts == 0) = false := by simp [ht]
      by_cases hpn : p = n
      · subst hpn
        have e : Hid (atF f p ts lead p = lead) := by show atF f p ts lead p = lead; unfold atF; rw [if_neg hp, if_neg ht, if_pos rfl]
        go_enter Try.func13, Try.ntmps13
        go_wp2
        go_ret
        exact ⟨by rw [e.out]; rfl, rfl⟩
      · have e : Hid (atF f n ts lead p = 255) := by show atF f n ts lead p = 255; unfold atF; rw [if_neg hp, if_neg ht, if_neg hpn]
        have hpn' : ((p : Int) == (n : Int)) = false := by simp; omega
        go_enter Try.func13, Try.ntmps13
        go_wp2
        go_ret
        exact ⟨by rw [e.out]; rfl, rfl⟩
end Go.Proofs.Qxb6617721a
