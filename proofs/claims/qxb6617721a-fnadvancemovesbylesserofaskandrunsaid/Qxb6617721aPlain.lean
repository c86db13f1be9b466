namespace Go.Proofs.Qxb6617721a

/-! THE PLAIN LAW: bytes by place ('at'), columns, no Go in sight -/

def blk (x : Int) : Bool := x == 32 || x == 9
def stp (c x : Int) : Int := if x = 9 then (c / 4 + 1) * 4 else c + 1

/-- the column behind the run of blanks from p on, k bytes at most -/
def runE (s : Nat → Int) : Nat → Nat → Int → Int
  | 0, _, c => c
  | k + 1, p, c => if blk (s p) = true then runE s k (p + 1) (stp c (s p)) else c

/-- the place behind the last blank that ends at or before column T -/
def scan (s : Nat → Int) (T : Int) : Nat → Nat → Int → Nat → Nat
  | 0, _, _, wp => wp
  | k + 1, p, c, wp => if blk (s p) = true then scan s T k (p + 1) (stp c (s p)) (if stp c (s p) ≤ T then p + 1 else wp) else wp

/-- the cursor moved on by n columns -/
def adv (s : Nat → Int) : Nat → Nat → Int → Int → Nat × Int
  | 0, p, c, _ => (p, c)
  | k + 1, p, c, n =>
    if 0 < n then
      if s p = 32 then adv s k (p + 1) (c + 1) (n - 1)
      else if s p = 9 then (if n < 4 - c % 4 then (p, c + n) else adv s k (p + 1) (c + (4 - c % 4)) (n - (4 - c % 4)))
      else (p, c)
    else (p, c)

theorem stp_gt (c x : Int) : c < stp c x := by unfold stp; split <;> omega
theorem stp_le (c x : Int) : stp c x ≤ c + 4 := by unfold stp; split <;> omega
theorem stp_tab (c : Int) : stp c 9 = c + (4 - c % 4) := by unfold stp; rw [if_pos rfl]; omega
theorem stp_space (c : Int) : stp c 32 = c + 1 := by unfold stp; rw [if_neg (by decide)]
theorem blk_iff (x : Int) : blk x = true ↔ x = 32 ∨ x = 9 := by simp [blk]

theorem runE_ge (s : Nat → Int) : ∀ k p c, c ≤ runE s k p c
  | 0, _, _ => Int.le_refl _
  | k + 1, p, c => by
    unfold runE
    split
    · have := runE_ge s k (p + 1) (stp c (s p)); have := stp_gt c (s p); omega
    · exact Int.le_refl _
theorem runE_le (s : Nat → Int) : ∀ k p c, runE s k p c ≤ c + 4 * k
  | 0, _, c => by simp [runE]
  | k + 1, p, c => by
    unfold runE
    split
    · have := runE_le s k (p + 1) (stp c (s p)); have := stp_le c (s p); push_cast at *; omega
    · push_cast; omega

/-- behind T nothing more is taken -/
theorem scan_past (s : Nat → Int) (T : Int) : ∀ k p c wp, T ≤ c → scan s T k p c wp = wp
  | 0, _, _, _, _ => rfl
  | k + 1, p, c, wp, h => by
    unfold scan
    split
    · have := stp_gt c (s p)
      rw [scan_past s T k (p + 1) _ _ (by omega), if_neg (by omega)]
    · rfl

/-- advance lands at the lesser of the ask and the run -/
theorem adv_eq (s : Nat → Int) : ∀ k p c n, 0 ≤ n → adv s k p c n = (scan s (min (c + n) (runE s k p c)) k p c p, min (c + n) (runE s k p c))
  | 0, p, c, n, h => by
    have e : min (c + n) c = c := by omega
    simp [adv, scan, runE, e]
  | k + 1, p, c, n, h => by
    by_cases hn : 0 < n
    · by_cases h32 : s p = 32
      · have hb : blk (s p) = true := (blk_iff _).2 (.inl h32)
        have e1 : runE s (k + 1) p c = runE s k (p + 1) (c + 1) := by rw [runE, if_pos hb, h32, stp_space]
        have e2 : ∀ T, scan s T (k + 1) p c p = scan s T k (p + 1) (c + 1) (if c + 1 ≤ T then p + 1 else p) := fun T => by rw [scan, if_pos hb, h32, stp_space]
        have e3 : adv s (k + 1) p c n = adv s k (p + 1) (c + 1) (n - 1) := by rw [adv, if_pos hn, if_pos h32]
        have ih := adv_eq s k (p + 1) (c + 1) (n - 1) (by omega)
        have e4 : c + 1 + (n - 1) = c + n := by omega
        rw [e4] at ih
        have := runE_ge s k (p + 1) (c + 1)
        rw [e1, e2, e3, ih, if_pos (by omega)]
      · by_cases h9 : s p = 9
        · have hb : blk (s p) = true := (blk_iff _).2 (.inr h9)
          have e1 : runE s (k + 1) p c = runE s k (p + 1) (c + (4 - c % 4)) := by rw [runE, if_pos hb, h9, stp_tab]
          have e2 : ∀ T, scan s T (k + 1) p c p = scan s T k (p + 1) (c + (4 - c % 4)) (if c + (4 - c % 4) ≤ T then p + 1 else p) := fun T => by rw [scan, if_pos hb, h9, stp_tab]
          have hge := runE_ge s k (p + 1) (c + (4 - c % 4))
          by_cases hw : n < 4 - c % 4
          · have e3 : adv s (k + 1) p c n = (p, c + n) := by rw [adv, if_pos hn, if_neg h32, if_pos h9, if_pos hw]
            have e5 : min (c + n) (runE s k (p + 1) (c + (4 - c % 4))) = c + n := by omega
            rw [e1, e2, e3, e5, if_neg (by omega), scan_past s _ _ _ _ _ (by omega)]
          · have e3 : adv s (k + 1) p c n = adv s k (p + 1) (c + (4 - c % 4)) (n - (4 - c % 4)) := by rw [adv, if_pos hn, if_neg h32, if_pos h9, if_neg hw]
            have ih := adv_eq s k (p + 1) (c + (4 - c % 4)) (n - (4 - c % 4)) (by omega)
            have e4 : c + (4 - c % 4) + (n - (4 - c % 4)) = c + n := by omega
            rw [e4] at ih
            rw [e1, e2, e3, ih, if_pos (by omega)]
        · have hb : ¬ blk (s p) = true := fun h => by rcases (blk_iff _).1 h with h | h <;> contradiction
          have e1 : runE s (k + 1) p c = c := by rw [runE, if_neg hb]
          have e2 : ∀ T, scan s T (k + 1) p c p = p := fun T => by rw [scan, if_neg hb]
          have e3 : adv s (k + 1) p c n = (p, c) := by rw [adv, if_pos hn, if_neg h32, if_neg h9]
          have e5 : min (c + n) c = c := by omega
          rw [e1, e2, e3, e5]
    · have e0 : n = 0 := by omega
      subst e0
      have := runE_ge s (k + 1) p c
      have e5 : min (c + 0) (runE s (k + 1) p c) = c := by omega
      rw [e5, scan_past s _ _ _ _ _ (Int.le_refl _), adv, if_neg (by omega)]

theorem adv_neg (s : Nat → Int) : ∀ k p c n, n ≤ 0 → adv s k p c n = (p, c)
  | 0, _, _, _, _ => rfl
  | k + 1, p, c, n, h => by rw [adv, if_neg (by omega)]

theorem not_blk {s : Nat → Int} {L : Nat} (hL : ∀ q, L ≤ q → blk (s q) = false) {p : Nat} (h : L ≤ p) : ¬ s p = 32 ∧ ¬ s p = 9 := by
  have := hL p h
  refine ⟨fun e => ?_, fun e => ?_⟩ <;> (rw [e] at this; simp [blk] at this)

theorem adv_end {s : Nat → Int} {L : Nat} (hL : ∀ q, L ≤ q → blk (s q) = false) (k p : Nat) (c n : Int) (h : L ≤ p) : adv s k p c n = (p, c) := by
  cases k with
  | zero => rfl
  | succ k =>
    obtain ⟨h1, h2⟩ := not_blk hL h
    rw [adv, if_neg h1, if_neg h2]
    split <;> rfl

theorem adv_fuel {s : Nat → Int} {L : Nat} (hL : ∀ q, L ≤ q → blk (s q) = false) : ∀ k k' p c n, L ≤ p + k → L ≤ p + k' → adv s k p c n = adv s k' p c n
  | 0, k', p, c, n, h, _ => by rw [adv_end hL 0 p c n (by omega), adv_end hL k' p c n (by omega)]
  | k + 1, 0, p, c, n, _, h => by rw [adv_end hL 0 p c n (by omega), adv_end hL (k + 1) p c n (by omega)]
  | k + 1, k' + 1, p, c, n, h, h' => by
    rw [adv, adv, adv_fuel hL k k' (p + 1) (c + 1) (n - 1) (by omega) (by omega), adv_fuel hL k k' (p + 1) (c + (4 - c % 4)) (n - (4 - c % 4)) (by omega) (by omega)]

theorem adv_split {s : Nat → Int} {L : Nat} (hL : ∀ q, L ≤ q → blk (s q) = false) : ∀ k p c a b, 0 ≤ a → 0 ≤ b → L ≤ p + k → adv s (L - (adv s k p c a).1) (adv s k p c a).1 (adv s k p c a).2 b = adv s k p c (a + b)
  | 0, p, c, a, b, _, _, h => by
    rw [adv_end hL 0 p c a (by omega), adv_end hL 0 p c (a + b) (by omega)]
    exact adv_end hL _ p c b (by omega)
  | k + 1, p, c, a, b, ha, hb, h => by
    have hf : ∀ c' n', adv s (L - p) p c' n' = adv s (k + 1) p c' n' := fun c' n' => adv_fuel hL (L - p) (k + 1) p c' n' (by omega) h
    by_cases ha0 : a = 0
    · subst ha0
      rw [adv_neg s (k + 1) p c 0 (Int.le_refl _)]
      show adv s (L - p) p c b = _
      rw [hf, show (0 : Int) + b = b by omega]
    by_cases h32 : s p = 32
    · have e1 : adv s (k + 1) p c a = adv s k (p + 1) (c + 1) (a - 1) := by rw [adv, if_pos (by omega), if_pos h32]
      have e2 : adv s (k + 1) p c (a + b) = adv s k (p + 1) (c + 1) (a - 1 + b) := by rw [adv, if_pos (by omega), if_pos h32, show a + b - 1 = a - 1 + b by omega]
      rw [e1, e2]
      exact adv_split hL k (p + 1) (c + 1) (a - 1) b (by omega) hb (by omega)
    by_cases h9 : s p = 9
    · by_cases hw : a < 4 - c % 4
      · have e1 : adv s (k + 1) p c a = (p, c + a) := by rw [adv, if_pos (by omega), if_neg h32, if_pos h9, if_pos hw]
        rw [e1]
        show adv s (L - p) p (c + a) b = _
        rw [hf]
        have ew : 4 - (c + a) % 4 = 4 - c % 4 - a := by omega
        by_cases hb0 : b = 0
        · subst hb0
          rw [adv_neg s (k + 1) p (c + a) 0 (Int.le_refl _), show a + 0 = a by omega, e1]
        have e2 : adv s (k + 1) p (c + a) b = if b < 4 - c % 4 - a then (p, c + a + b) else adv s k (p + 1) (c + a + (4 - c % 4 - a)) (b - (4 - c % 4 - a)) := by
          rw [adv, if_pos (by omega), if_neg h32, if_pos h9, ew]
        have e3 : adv s (k + 1) p c (a + b) = if a + b < 4 - c % 4 then (p, c + (a + b)) else adv s k (p + 1) (c + (4 - c % 4)) (a + b - (4 - c % 4)) := by
          rw [adv, if_pos (by omega), if_neg h32, if_pos h9]
        rw [e2, e3]
        by_cases hw2 : b < 4 - c % 4 - a
        · rw [if_pos hw2, if_pos (by omega), show c + a + b = c + (a + b) by omega]
        · rw [if_neg hw2, if_neg (by omega), show c + a + (4 - c % 4 - a) = c + (4 - c % 4) by omega, show b - (4 - c % 4 - a) = a + b - (4 - c % 4) by omega]
      · have e1 : adv s (k + 1) p c a = adv s k (p + 1) (c + (4 - c % 4)) (a - (4 - c % 4)) := by rw [adv, if_pos (by omega), if_neg h32, if_pos h9, if_neg hw]
        have e2 : adv s (k + 1) p c (a + b) = adv s k (p + 1) (c + (4 - c % 4)) (a - (4 - c % 4) + b) := by
          rw [adv, if_pos (by omega), if_neg h32, if_pos h9, if_neg (by omega), show a + b - (4 - c % 4) = a - (4 - c % 4) + b by omega]
        rw [e1, e2]
        exact adv_split hL k (p + 1) _ (a - (4 - c % 4)) b (by omega) hb (by omega)
    · have e1 : ∀ n, adv s (k + 1) p c n = (p, c) := fun n => by rw [adv, if_neg h32, if_neg h9]; split <;> rfl
      rw [e1, e1]
      show adv s (L - p) p c b = _
      rw [hf, e1]
end Go.Proofs.Qxb6617721a
