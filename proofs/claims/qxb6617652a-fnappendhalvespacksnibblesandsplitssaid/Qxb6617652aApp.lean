import Derived.Test.Qxb6617652aWalks
import Derived.Laws.AppendOwn
namespace Go.Proofs.Qxb6617652a
open Go.RowKit
set_option linter.unusedVariables false

/-- as Row, below block B -/
def RowB (w : World) (B : Nat) (a : Option Addr) (n : Nat) (f : Nat → Int) : Prop :=
  n ≤ maxLen ∧ (n = 0 ∨ ∃ b off, a = some ⟨b, off, none⟩ ∧ b < B ∧ ∀ i, i < n → w.cell? ⟨b, off + i, none⟩ = some (.int .u8 (f i)))

theorem RowB.later {w w' : World} {B : Nat} {a : Option Addr} {n : Nat} {f : Nat → Int} (h : RowB w B a n f) (hb : Below B w w') : RowB w' B a n f := by
  obtain ⟨hm, h⟩ := h
  refine ⟨hm, ?_⟩
  rcases h with h | ⟨b, off, e, hB, hc⟩
  · exact .inl h
  · exact .inr ⟨b, off, e, hB, fun i hi => by rw [hb.cell (p := ⟨b, off + i, none⟩) hB]; exact hc i hi⟩

/-- an octet of two halves, as the program makes it -/
def pk (h : Nat → Int) (m t : Nat) : Int := if 2 * t + 1 < m then bits BinOp.or IntKind.u8 (h (2 * t)) (h (2 * t + 1) * 16 % 256) else h (2 * t)

structure ALoop (w wr : World) (B : Nat) (v : Value) (n t : Nat) (xs : List Value) (h : Nat → Int) (m : Nat) : Prop where
  below : Below B w wr
  own : wr.ownsRow B 5 1 v (n + t) (xs ++ vals (pk h m) t)
  base : B ≤ wr.heap.size

theorem ALoop.step {w wr w' : World} {B : Nat} {v v' : Value} {n t : Nat} {xs : List Value} {h : Nat → Int} {m : Nat} {o : Obj} {z : Int} (hL : ALoop w wr B v n t xs h m)
    (h1 : w'.ownsRow B 5 1 v' (n + t + 1) (xs ++ vals (pk h m) t ++ [.int .u8 z])) (h2 : Below B (wr.alloc o) w') (e : pk h m t = z) : ALoop w w' B v' n (t + 1) xs h m where
  below := (hL.below.alloc hL.base _).trans h2
  own := by
    have e2 : vals (pk h m) (t + 1) = vals (pk h m) t ++ [.int .u8 z] := by rw [← e]; simp [vals, List.range_succ]
    rw [e2, ← List.append_assoc]; exact h1
  base := by have := h2.size; have := hL.base; simp at *; omega

/-- 'append(dst, octet)' on a row of the call's own -/
theorem app1 {ops : Array Oper} {rest : List Oper} {o : Oper} {a : Act} {Q : Exit → Act → World → Prop} {w : World} (hgd : o.guard = none) (s x : Operand)
    (ho : o.op = .call { callee := .builtin .append, args := #[s, x], argTypes := #[22, 22] }) (B : Nat) (v : Value) (n : Nat) (xs : List Value) (hs : a.eval s = v) (hown : w.ownsRow B 5 1 v n xs)
    (g : Nat) (z : Int) (hx : a.eval x = .slice (some ⟨g, 0, none⟩) 1 1) (hc : w.cell? ⟨g, 0, none⟩ = some (.int .u8 z)) (hn : n ≤ 4194304) (hB : B ≤ w.heap.size)
    (h : ∀ v' w', w'.ownsRow B 5 1 v' (n + 1) (xs ++ [.int .u8 z]) → Below B w w' → wpList Try.prog ops Q rest (a.put o.dst v') w') : wpList Try.prog ops Q (o :: rest) a w := by
  obtain ⟨i, hi, hzz⟩ := Option.map_eq_some_iff.1 info5
  simp only [Prod.mk.injEq] at hzz
  obtain ⟨hz, hsz, hby⟩ := hzz
  refine wpList_append_own w hgd s x 22 ho B 5 i (.int .u8 0) 1 1 Try.underlying22 hi hz hsz hby rfl (by decide) v n xs hs hown ⟨g, 0, none⟩ 1 1 [.int .u8 z] hx rfl ?_ ?_ (by unfold maxLen; omega) (by omega) hB ?_
  · intro j u hj
    match j, hj with
    | 0, hj => simp at hj; subst hj; simpa [Addr.add] using hc
    | j + 1, hj => simp at hj
  · intro u hu
    simp at hu
    subst hu
    rfl
  · intro v' w' h1 h2 _
    exact h v' w' h1 ((Below.refl _ _).grown h2 hB (fun k hk => (hown.lt k hk).1))

theorem vals_succ (f : Nat → Int) (n : Nat) : vals f (n + 1) = vals f n ++ [.int .u8 (f n)] := by simp [vals, List.range_succ]

set_option maxHeartbeats 400000 in
theorem app_any (B : Nat) (v : Value) (n : Nat) (xs : List Value) (a : Option Addr) (m c : Nat) (h : Nat → Int) (w : World) (hown : w.ownsRow B 5 1 v n xs) (hB : B ≤ w.heap.size) (hr : RowB w B a m h) (hn : n ≤ 1048576) (hm : m ≤ 1048576)
    (hby : ∀ i, i < m → 0 ≤ h i ∧ h i ≤ 255) :
    Calls Try.prog 8 #[v, .slice a m c] w fun e w' => ∃ v', e = .returned v' ∧ w'.ownsRow B 5 1 v' (n + (m + 1) / 2) (xs ++ vals (pk h m) ((m + 1) / 2)) ∧ Below B w w' ∧ B ≤ w'.heap.size := by
  have HO : Hid (w.ownsRow B 5 1 v n xs) := hown
  clear hown
  go_enter Try.func8, Try.ntmps8
  go_wp2
  go_loopw [0, 5] (fun d i wr => ∃ t : Nat, 2 * t ≤ m + 1 ∧ i = .int .i64 ((2 * t : Nat) : Int) ∧ ALoop w wr B d n t xs h m) (fun _ i _ => m + 1 - (intOf i).toNat)
  case atStart => exact ⟨0, by omega, by go_num, Below.refl _ _, by simpa [vals] using HO.out, hB⟩
  case round =>
    obtain ⟨t, ht, rfl, hL⟩ := hrel
    by_cases hlt : 2 * t < m
    · obtain ⟨b, off, rfl, hbB, hc⟩ := (hr.2).resolve_left (by omega)
      have e0 : wr.cell? ⟨b, off + 2 * t, none⟩ = some (.int .u8 (h (2 * t))) := by rw [hL.below.cell (p := ⟨b, _, none⟩) hbB]; exact hc _ hlt
      by_cases hlt1 : 2 * t + 1 < m
      · have e1 : wr.cell? ⟨b, off + (2 * t + 1), none⟩ = some (.int .u8 (h (2 * t + 1))) := by rw [hL.below.cell (p := ⟨b, _, none⟩) hbB]; exact hc _ hlt1
        obtain ⟨b0, b1⟩ := hby (2 * t) hlt
        obtain ⟨b2, b3⟩ := hby (2 * t + 1) hlt1
        have hnt : n + t ≤ 4194304 := by omega
        have hoa := fun o => World.ownsRow.alloc hL.own o
        have hBa : ∀ o, B ≤ (wr.alloc o).heap.size := fun o => by have := hL.base; simp; omega
        go_wp2_with (at_builtin; refine app1 rfl _ _ rfl B _ (n + t) (xs ++ vals (pk h m) t) rfl ?_ wr.heap.size (bits BinOp.or IntKind.u8 (h (2 * t)) (h (2 * t + 1) * 16 % 256)) rfl ?_ ?_ ?_ ?_; exact hoa _; exact (World.cell?_alloc_new _ _ _ _).trans rfl; exact hnt; exact hBa _; intro v' w' h1 h2)
        go_roundw
        case rel => exact ⟨t + 1, by omega, by go_num, ALoop.step hL h1 h2 (by simp [pk, hlt1])⟩
        case measure => simp [intOf]; omega
      · obtain ⟨b0, b1⟩ := hby (2 * t) hlt
        have hnt : n + t ≤ 4194304 := by omega
        have hoa := fun o => World.ownsRow.alloc hL.own o
        have hBa : ∀ o, B ≤ (wr.alloc o).heap.size := fun o => by have := hL.base; simp; omega
        go_wp2_with (at_builtin; refine app1 rfl _ _ rfl B _ (n + t) (xs ++ vals (pk h m) t) rfl ?_ wr.heap.size (h (2 * t)) rfl ?_ ?_ ?_ ?_; exact hoa _; exact (World.cell?_alloc_new _ _ _ _).trans rfl; exact hnt; exact hBa _; intro v' w' h1 h2)
        go_roundw
        case rel => exact ⟨t + 1, by omega, by go_num, ALoop.step hL h1 h2 (by simp [pk, hlt1])⟩
        case measure => simp [intOf]; omega
    · go_wp2
      go_ret
      have e : (m + 1) / 2 = t := by omega
      rw [e]
      exact ⟨_, rfl, hL.own, hL.below, hL.base⟩
end Go.Proofs.Qxb6617652a
