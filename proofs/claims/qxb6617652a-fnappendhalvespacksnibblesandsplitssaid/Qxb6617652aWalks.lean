import Derived.Test.Qxb6617652aRows
import Derived.WalkKit
import Derived.WalkSpells
import Derived.ProofKit
import Derived.Below
import Derived.Deep.QuietTactic
import Derived.BigQuiet
import Derived.Deep.OwnRows
namespace Go.Proofs.Qxb6617652a
open Go.RowKit
set_option linter.unusedVariables false

theorem hide {p : Prop} (h : p) : Hid p := h
theorem unhide {p : Prop} (h : Hid p) : p := h

/-- the slice at a reads as the bytes f 0 .. f (n-1) -/
def Row (w : World) (a : Option Addr) (n : Nat) (f : Nat → Int) : Prop :=
  n ≤ maxLen ∧ (n = 0 ∨ ∃ b off, a = some ⟨b, off, none⟩ ∧ ∀ i, i < n → w.cell? ⟨b, off + i, none⟩ = some (.int .u8 (f i)))

/-- n bytes as values -/
def vals (f : Nat → Int) (n : Nat) : List Value := (List.range n).map fun i => .int .u8 (f i)

theorem info5 : (Try.prog.info? 5).map (fun i => (i.zero, i.size, i.bytes)) = some (some (.int .u8 0), 1, 1) := by kernel_rfl

theorem make22 (n : Nat) (hn : n ≤ 1048576) (w : World) :
    (Instr.makeSlice 22 (.int .i64 (n : Int)) (.int .i64 (n : Int))).run Try.prog w = .ok (.slice (some ⟨w.heap.size, 0, none⟩) n n) (w.alloc (.cells (madeCells #[.int .u8 0] n) 5)) :=
  run_make_row' 22 5 (.int .u8 0) 1 Try.underlying22 info5 rfl .i64 .i64 n (by omega) (by omega) w

theorem eqNil22 (w : World) (a : Option Addr) (n c : Nat) : (binOp .eql 22 (.slice a n c) (.slice none 0 0)).run Try.prog w = .ok (.bool a.isNone) w :=
  Lib.run_eql_slice_nil w 22 5 a n c 0 0 Try.underlying22

theorem vals_length (f : Nat → Int) (n : Nat) : (vals f n).length = n := by simp [vals]
theorem vals_get (f : Nat → Int) (n i : Nat) (h : i < n) : (vals f n)[i]? = some (.int .u8 (f i)) := by simp [vals, h]

/-- an own row whose content is known by the index -/
theorem owns_of_rowIs {w : World} {B g n : Nat} {f : Nat → Int} (h : w.rowIs g 5 n (fun i => .int .u8 (f i))) (hB : B ≤ g) (hm : n ≤ maxLen) :
    w.ownsRow B 5 1 (.slice (some ⟨g, 0, none⟩) n n) n (vals f n) := by
  obtain ⟨c, hb, hn, hc⟩ := h
  refine ⟨by rw [vals_length]; omega, .inr ⟨g, n, c, rfl, hB, hb, Nat.le_refl _, hm, by omega, ?_⟩⟩
  apply List.ext_getElem?
  intro i
  by_cases hi : i < n
  · rw [vals_get f n i hi, List.getElem?_take_of_lt (by omega), Array.getElem?_toList, hc i hi]
  · rw [List.getElem?_eq_none (l := vals f n) (by rw [vals_length]; omega), List.getElem?_eq_none (by simp; omega)]

/-- and back: it can be read -/
theorem row_of_owns {w : World} {B n c : Nat} {a : Option Addr} {f : Nat → Int} (h : w.ownsRow B 5 1 (.slice a n c) n (vals f n)) (hm : n ≤ maxLen) : Row w a n f := by
  obtain ⟨_, h⟩ := h
  refine ⟨hm, ?_⟩
  rcases h with ⟨_, rfl⟩ | ⟨g, cap, cur, hv, hB, hb, hl, _, hs, ht⟩
  · exact .inl rfl
  · simp only [Value.slice.injEq] at hv
    obtain ⟨rfl, _, rfl⟩ := hv
    refine .inr ⟨g, 0, rfl, fun i hi => ?_⟩
    have e : cur.toList[i]? = some (.int .u8 (f i)) := by
      rw [← vals_get f n i hi, ← ht, List.getElem?_take_of_lt (by omega)]
    rw [Array.getElem?_toList] at e
    simp [World.cell?, hb, e]

structure CLoop (w wr : World) (n k : Nat) (f : Nat → Int) : Prop where
  below : Below w.heap.size w wr
  row : ∃ F, wr.rowIs w.heap.size 5 n F ∧ ∀ i, i < k → F i = .int .u8 (f i)

theorem CLoop.start (w : World) (n : Nat) (f : Nat → Int) : CLoop w (w.alloc (.cells (madeCells #[.int .u8 0] n) 5)) n 0 f :=
  ⟨(Below.refl _ _).alloc (Nat.le_refl _) _, _, World.rowIs_made w _ n 5, fun i hi => by omega⟩
theorem CLoop.step {w wr : World} {n k : Nat} {f : Nat → Int} (h : CLoop w wr n k f) : CLoop w (wr.setCell ⟨w.heap.size, k, none⟩ (.int .u8 (f k))) n (k + 1) f := by
  obtain ⟨hb, F, hr, hF⟩ := h
  refine ⟨hb.setCell (Nat.le_refl _) _, _, hr.set k _, fun i hi => ?_⟩
  by_cases e : i = k
  · subst e; simp
  · simp [e]; exact hF i (by omega)

set_option maxHeartbeats 400000 in
theorem clone_any (a : Option Addr) (n c : Nat) (f : Nat → Int) (w : World) (h : Row w a n f) (hn : n ≤ 1048576) :
    Calls Try.prog 5 #[.slice a n c] w fun e w' => ∃ a', e = .returned (.slice a' n n) ∧ w'.ownsRow w.heap.size 5 1 (.slice a' n n) n (vals f n) ∧ Below w.heap.size w w' := by
  obtain ⟨hm, h⟩ := h
  have HM := hide hm
  clear hm
  have hmk := make22 n hn
  have heq := eqNil22
  rcases h with rfl | ⟨b, off, rfl, hc⟩
  · cases a with
    | none =>
      go_enter Try.func5, Try.ntmps5
      go_wp2
      go_ret
      exact ⟨none, rfl, World.ownsRow_nil _ _ _ _, Below.refl _ _⟩
    | some x =>
      have hmk0 := make22 0 (by omega)
      simp only [Int.natCast_zero] at hmk0
      go_enter Try.func5, Try.ntmps5
      go_wp2
      go_loop [4] (fun i => i = .int .i64 0) (fun i => 0)
      case atStart => rfl
      case round =>
        subst hrel
        go_wp2
        go_ret
        exact ⟨_, rfl, owns_of_rowIs (f := f) ((World.rowIs_made w (.int .u8 0) 0 5).congr (fun i hi => by omega)) (Nat.le_refl _) (Nat.zero_le _), (Below.refl _ _).alloc (Nat.le_refl _) _⟩
  · go_enter Try.func5, Try.ntmps5
    go_wp2
    go_loopw [4] (fun i wr => ∃ k : Nat, k ≤ n ∧ i = .int .i64 k ∧ CLoop w wr n k f) (fun i _ => n - (intOf i).toNat)
    case atStart => exact ⟨0, Nat.zero_le _, rfl, CLoop.start w n f⟩
    case round =>
      obtain ⟨k, hk, rfl, hL⟩ := hrel
      by_cases hlt : k < n
      · have hbb : b < w.heap.size := World.block_lt_of_cell? _ _ (hc k hlt)
        have e0 : wr.cell? ⟨b, off + k, none⟩ = some (.int .u8 (f k)) := by rw [hL.below.cell (p := ⟨b, _, none⟩) hbb]; exact hc k hlt
        obtain ⟨F, hr, hF⟩ := hL.row
        have e1 := hr.cell hlt
        have hfr := hr.frozen
        clear hF
        go_wp2
        go_roundw
        case rel => exact ⟨k + 1, by omega, by go_num, hL.step⟩
        case measure => simp [intOf]; omega
      · go_wp2
        go_ret
        have e : n = k := by omega
        obtain ⟨F, hr, hF⟩ := hL.row
        exact ⟨_, rfl, owns_of_rowIs (hr.congr (fun i hi => hF i (by omega))) (Nat.le_refl _) HM, hL.below⟩
end Go.Proofs.Qxb6617652a
