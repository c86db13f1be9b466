import Derived.Test.Qxb6617652aApp
import Derived.Laws.BitsAllLaws
import Derived.Deep.DeepCutAuto
namespace Go.Proofs.Qxb6617652a
open Go.RowKit
set_option linter.unusedVariables false

theorem RowB.mono {w : World} {B B' : Nat} {a : Option Addr} {n : Nat} {f : Nat → Int} (h : RowB w B a n f) (hb : B ≤ B') : RowB w B' a n f := by
  obtain ⟨hm, h⟩ := h
  refine ⟨hm, ?_⟩
  rcases h with h | ⟨b, off, e, hB, hc⟩
  · exact .inl h
  · exact .inr ⟨b, off, e, by omega, hc⟩
theorem RowB.row {w : World} {B : Nat} {a : Option Addr} {n : Nat} {f : Nat → Int} (h : RowB w B a n f) : Row w a n f := by
  obtain ⟨hm, h⟩ := h
  refine ⟨hm, ?_⟩
  rcases h with h | ⟨b, off, e, hB, hc⟩
  · exact .inl h
  · exact .inr ⟨b, off, e, hc⟩
theorem Row.rowB {w : World} {a : Option Addr} {n : Nat} {f : Nat → Int} (h : Row w a n f) : RowB w w.heap.size a n f := by
  obtain ⟨hm, h⟩ := h
  refine ⟨hm, ?_⟩
  rcases h with h | ⟨b, off, e, hc⟩
  · exact .inl h
  · by_cases hn : n = 0
    · exact .inl hn
    · exact .inr ⟨b, off, e, World.block_lt_of_cell? _ _ (hc 0 (by omega)), hc⟩
/-- at a later world -/
theorem RowB.go {w w' : World} {a : Option Addr} {n : Nat} {f : Nat → Int} (h : RowB w w.heap.size a n f) (hb : Below w.heap.size w w') : RowB w' w'.heap.size a n f :=
  (h.later hb).mono hb.size

theorem clone_ex (a : Option Addr) (n c : Nat) (f : Nat → Int) (w : World) (h : RowB w w.heap.size a n f) (hn : n ≤ 1048576) :
    Calls Try.prog 5 #[.slice a n c] w fun e w' => ∃ a', e = .returned (.slice a' n n) ∧ w'.ownsRow w.heap.size 5 1 (.slice a' n n) n (vals f n) ∧ RowB w' w'.heap.size a' n f ∧ Below w.heap.size w w' :=
  (clone_any a n c f w h.row hn).mono fun e w' ⟨a', he, ho, hb⟩ => ⟨a', he, ho, (row_of_owns ho h.1).rowB, hb⟩

theorem zzApp_any (B : Nat) (v : Value) (n : Nat) (xs : List Value) (a : Option Addr) (m c : Nat) (h : Nat → Int) (w : World) (hown : w.ownsRow B 5 1 v n xs) (hB : B ≤ w.heap.size) (hr : RowB w B a m h) (hn : n ≤ 1048576) (hm : m ≤ 1048576)
    (hby : ∀ i, i < m → 0 ≤ h i ∧ h i ≤ 255) :
    Calls Try.prog 6 #[v, .slice a m c] w fun e w' => ∃ a' c', e = .returned (.slice a' (n + (m + 1) / 2) c') ∧ w'.ownsRow B 5 1 (.slice a' (n + (m + 1) / 2) c') (n + (m + 1) / 2) (xs ++ vals (pk h m) ((m + 1) / 2)) ∧ Below B w w' ∧ B ≤ w'.heap.size := by
  have HY := hide hby
  clear hby
  go_enter Try.func6, Try.ntmps6
  go_wp2_with fail
  refine (app_any B v n xs a m c h _ hown hB hr hn hm HY).mono ?_
  rintro e w' ⟨v', rfl, h1, h2, h3⟩
  have hv : ∃ a' c', v' = .slice a' (n + (m + 1) / 2) c' := by
    rcases h1.2 with ⟨e1, e2⟩ | ⟨g, cap, cur, e1, _⟩
    · exact ⟨none, 0, by rw [e1, e2]⟩
    · exact ⟨_, _, e1⟩
  obtain ⟨a', c', rfl⟩ := hv
  go_wp2
  go_ret
  exact ⟨_, _, rfl, h1, h2, h3⟩

/-- some bool is returned -/
def BoolEnd (e : Ending) : Prop := ∃ x, e = .returned (.bool x)

theorem zzBytes_any (a a' : Option Addr) (n c n' c' : Nat) (k : Int) (w : World) (h : n ≤ maxLen) (h' : n' ≤ maxLen) :
    Calls Try.prog 4 #[.slice a n c, .slice a' n' c', .int .i64 k] w fun e w' => BoolEnd e ∧ w' = w := by
  unfold maxLen at h h'
  go_enter Try.func4, Try.ntmps4
  go_wp2
  all_goals (go_ret; exact ⟨⟨_, rfl⟩, rfl⟩)

/-- equalBytes of two rows that read alike -/
theorem equal_any (a a' : Option Addr) (n c c' : Nat) (f g : Nat → Int) (w : World) (h : Row w a n f) (h' : Row w a' n g) (e : ∀ i, i < n → f i = g i) :
    Calls Try.prog 7 #[.slice a n c, .slice a' n c'] w fun e w' => e = .returned (.bool true) ∧ ∃ q, w' = w.drewN q := by
  obtain ⟨hm, h⟩ := h
  obtain ⟨_, h'⟩ := h'
  unfold maxLen at hm
  have E := hide e
  clear e
  go_enter Try.func7, Try.ntmps7
  go_wp2
  go_loopw [5] (fun i w' => ∃ k q : Nat, k ≤ n ∧ i = .int .i64 k ∧ w' = w.drewN q) (fun i _ => n - (intOf i).toNat)
  case atStart => exact ⟨0, 0, Nat.zero_le _, rfl, rfl⟩
  case round =>
    obtain ⟨k, q, hk, rfl, rfl⟩ := hrel
    by_cases hlt : k < n
    · obtain ⟨b, off, rfl, hc⟩ := h.resolve_left (by omega)
      obtain ⟨b', off', rfl, hc'⟩ := h'.resolve_left (by omega)
      have e1 := hc k hlt
      have e2 : w.cell? ⟨b', off' + k, none⟩ = some (.int .u8 (f k)) := by rw [E.out k hlt]; exact hc' k hlt
      clear hc hc' h h'
      go_wp2
      go_quiet (fail)
      go_wp2
      go_roundw
      case rel => exact ⟨k + 1, _, by omega, by go_num, rfl⟩
      case measure => simp [intOf]; omega
    · go_wp2
      go_ret
      exact ⟨rfl, _, rfl⟩

/-! cuts -/
def cutA (a : Option Addr) (m l s : Nat) : Option Addr := if m = l then a else a.map (·.add (l * s))
theorem size22 (w : World) : (sizeOf (Try.prog.elem 22)).run Try.prog w = .ok 1 w := by kernel_rfl
theorem und22 : Try.prog.underlying 22 = some (.slice (Try.prog.elem 22)) := by kernel_rfl
theorem slice22_l (w : World) (a : Option Addr) (n c i : Nat) (hi : i ≤ n) :
    (Instr.slice 22 (.slice a n c) (some (.int .i64 (i : Int))) none none).run Try.prog w = .ok (.slice (cutA a c i 1) (n - i) (c - i)) w := by
  rw [run_slice_l w 22 a n c und22 .i64 i (by omega) (by omega), size22]
  simp [Result.andThen, sliced, cutA]
theorem cutA_some (b off m l s : Nat) (h : m ≠ l) : cutA (some ⟨b, off, none⟩) m l s = some ⟨b, off + l * s, none⟩ := by
  simp [cutA, h, WideShapes.add_plain]
theorem RowB.take {w : World} {B : Nat} {a : Option Addr} {n : Nat} {f : Nat → Int} (h : RowB w B a n f) {i : Nat} (hi : i ≤ n) : RowB w B a i f := by
  obtain ⟨hm, h⟩ := h
  refine ⟨by omega, ?_⟩
  rcases h with rfl | ⟨b, off, rfl, hB, hc⟩
  · exact .inl (by omega)
  · exact .inr ⟨b, off, rfl, hB, fun j hj => hc j (by omega)⟩
theorem RowB.tail {w : World} {B : Nat} {a : Option Addr} {n c : Nat} {f : Nat → Int} (h : RowB w B a n f) (hnc : n ≤ c) {i : Nat} (hi : i ≤ n) : RowB w B (cutA a c i 1) (n - i) (fun j => f (i + j)) := by
  obtain ⟨hm, h⟩ := h
  refine ⟨by omega, ?_⟩
  by_cases e : i = n
  · exact .inl (by omega)
  · rcases h with rfl | ⟨b, off, rfl, hB, hc⟩
    · omega
    · refine .inr ⟨b, off + i * 1, cutA_some _ _ _ _ _ (by omega), hB, fun j hj => ?_⟩
      have := hc (i + j) (by omega)
      rwa [show off + i * 1 + j = off + (i + j) by omega]

/-! the plain law -/
/-- what the program's result reads as -/
def outF (f : Nat → Int) (n : Nat) (g : Nat → Int) (i : Nat) : Int := if i < n then f i else g (i - n)
theorem vals_append (f g : Nat → Int) (n k : Nat) : vals f n ++ vals g k = vals (outF f n g) (n + k) := by
  apply List.ext_getElem?
  intro i
  by_cases h1 : i < n
  · rw [List.getElem?_append_left (by rw [vals_length]; exact h1), vals_get _ _ _ h1, vals_get _ _ _ (by omega), outF, if_pos h1]
  · by_cases h2 : i < n + k
    · rw [List.getElem?_append_right (by rw [vals_length]; omega), vals_length, vals_get _ _ _ (by omega), vals_get _ _ _ h2, outF, if_neg h1]
    · rw [List.getElem?_eq_none (by simp [vals_length]; omega), List.getElem?_eq_none (by rw [vals_length]; omega)]

/-- in two parts at an even cut: the same octets -/
theorem pk_split (f h : Nat → Int) (n m k : Nat) (hk : 2 * k ≤ m) (i : Nat) (hi : i < n + k + (m - 2 * k + 1) / 2) :
    outF (outF f n (pk h (2 * k))) (n + k) (pk (fun j => h (2 * k + j)) (m - 2 * k)) i = outF f n (pk h m) i := by
  unfold outF
  by_cases h1 : i < n
  · rw [if_pos (by omega), if_pos h1, if_pos h1]
  · by_cases h2 : i < n + k
    · rw [if_pos h2, if_neg h1, if_neg h1]
      unfold pk
      rw [if_pos (by omega), if_pos (by omega)]
    · rw [if_neg h2, if_neg h1]
      unfold pk
      dsimp only
      have e : 2 * k + 2 * (i - (n + k)) = 2 * (i - n) := by omega
      have e' : 2 * k + (2 * (i - (n + k)) + 1) = 2 * (i - n) + 1 := by omega
      rw [e, e']
      by_cases h3 : 2 * (i - n) + 1 < m
      · rw [if_pos (by omega), if_pos h3]
      · rw [if_neg (by omega), if_neg h3]

theorem pk_small (x y : Int) (h0 : 0 ≤ x) (h1 : x ≤ 15) (h2 : 0 ≤ y) (h3 : y ≤ 15) : bits BinOp.or IntKind.u8 x (y * 16 % 256) = y * 16 + x := by
  rw [u8_or x (y * 16 % 256) h0 (by omega) (by omega) (by omega)]
  have e : (y * 16 % 256).toNat = y.toNat * 16 := by omega
  rw [e, Nat.or_comm, nat_join 4 (y.toNat * 16) x.toNat (by omega) (by omega)]
  omega
end Go.Proofs.Qxb6617652a
