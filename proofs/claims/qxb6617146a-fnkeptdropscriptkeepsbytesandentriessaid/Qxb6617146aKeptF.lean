import Derived.Test.Qxb6617146aKeptD
namespace Go.Proofs.Qxb6617146a
open Go.RowKit Go.Maps
set_option linter.unusedVariables false

/-! the plain law: a table of last places beside a map -/
def upd {α : Type} (c : Nat → α) (j : Nat) (v : α) : Nat → α := fun x => if x = j then v else c x
theorem upd_at {α : Type} (c : Nat → α) (j : Nat) (v : α) : upd c j v j = v := if_pos rfl
theorem upd_off {α : Type} (c : Nat → α) {j x : Nat} (v : α) (h : x ≠ j) : upd c j v x = c x := if_neg h

/-- the last place below i at which s stands -/
def lastIx (f : Nat → ByteArray) : Nat → ByteArray → Option Nat
  | 0, _ => none
  | i + 1, s => if f i = s then some i else lastIx f i s
theorem lastIx_lt {f : Nat → ByteArray} {s : ByteArray} {x : Nat} : ∀ {i : Nat}, lastIx f i s = some x → x < i ∧ f x = s
  | 0, h => by cases h
  | i + 1, h => by
    unfold lastIx at h
    split at h
    · injection h with h; subst h; exact ⟨by omega, by assumption⟩
    · have := lastIx_lt h; exact ⟨by omega, this.2⟩
theorem lastIx_same (f : Nat → ByteArray) (i : Nat) : lastIx f (i + 1) (f i) = some i := by simp [lastIx]
theorem lastIx_other {f : Nat → ByteArray} {i : Nat} {s : ByteArray} (h : f i ≠ s) : lastIx f (i + 1) s = lastIx f i s := by simp [lastIx, h]

/-- how many distinct ones there are -/
def dist (f : Nat → ByteArray) : Nat → Nat
  | 0 => 0
  | i + 1 => dist f i + (if (lastIx f i (f i)).isSome then 0 else 1)

structure Tab (f : Nat → ByteArray) (i m : Nat) (K : Nat → ByteArray) (L : Nat → Nat) : Prop where
  at_ : ∀ j, j < m → lastIx f i (K j) = some (L j)
  one : ∀ j j', j < m → j' < m → K j = K j' → j = j'
  all : ∀ s x, lastIx f i s = some x → ∃ j, j < m ∧ K j = s
  len : m = dist f i
  le : m ≤ i

theorem Tab.start (f : Nat → ByteArray) (K : Nat → ByteArray) (L : Nat → Nat) : Tab f 0 0 K L :=
  ⟨fun j hj => by omega, fun j j' hj => by omega, fun s x h => (by cases h), rfl, Nat.le_refl _⟩
theorem Tab.hit {f : Nat → ByteArray} {i m j : Nat} {K : Nat → ByteArray} {L : Nat → Nat} (h : Tab f i m K L) (hj : j < m) (e : K j = f i) : Tab f (i + 1) m K (upd L j i) where
  at_ := fun j' hj' => by
    by_cases ej : j' = j
    · subst ej; rw [upd_at, e, lastIx_same]
    · rw [upd_off _ _ ej, lastIx_other (by rw [← e]; intro ee; exact ej (h.one j' j hj' hj ee.symm)), h.at_ j' hj']
  one := h.one
  all := fun s x hx => by
    by_cases es : f i = s
    · exact ⟨j, hj, e.trans es⟩
    · rw [lastIx_other es] at hx; exact h.all s x hx
  len := by
    have : (lastIx f i (f i)).isSome = true := by rw [← e, h.at_ j hj]; rfl
    simp only [dist, this, if_true]
    exact h.len
  le := by have := h.le; omega
theorem Tab.miss {f : Nat → ByteArray} {i m : Nat} {K : Nat → ByteArray} {L : Nat → Nat} (h : Tab f i m K L) (e : ∀ j, j < m → K j ≠ f i) : Tab f (i + 1) (m + 1) (upd K m (f i)) (upd L m i) where
  at_ := fun j' hj' => by
    by_cases ej : j' = m
    · subst ej; rw [upd_at, upd_at, lastIx_same]
    · rw [upd_off _ _ ej, upd_off _ _ ej, lastIx_other (fun ee => e j' (by omega) ee.symm), h.at_ j' (by omega)]
  one := fun j j' hj hj' ee => by
    by_cases ej : j = m <;> by_cases ej' : j' = m
    · omega
    · subst ej; rw [upd_at, upd_off _ _ ej'] at ee; exact absurd ee.symm (e j' (by omega))
    · subst ej'; rw [upd_at, upd_off _ _ ej] at ee; exact absurd ee (e j (by omega))
    · rw [upd_off _ _ ej, upd_off _ _ ej'] at ee; exact h.one j j' (by omega) (by omega) ee
  all := fun s x hx => by
    by_cases es : f i = s
    · exact ⟨m, by omega, by rw [upd_at]; exact es⟩
    · rw [lastIx_other es] at hx
      obtain ⟨j, hj, ej⟩ := h.all s x hx
      exact ⟨j, by omega, by rw [upd_off _ _ (by omega)]; exact ej⟩
  len := by
    have : (lastIx f i (f i)).isSome = false := by
      cases hx : lastIx f i (f i) with
      | none => rfl
      | some x => obtain ⟨j, hj, ej⟩ := h.all _ _ hx; exact absurd ej (e j hj)
    simp only [dist, this]
    have := h.len
    simp; omega
  le := by have := h.le; omega

structure MapI (f : Nat → ByteArray) (i : Nat) (V : Nat → Value) (D : DataW Value) : Prop where
  some_ : ∀ s x, lastIx f i s = some x → Maps.has D (ky s) = true ∧ ∀ z, D.atKey (ky s) z = .held (V x)
  none_ : ∀ s, lastIx f i s = none → Maps.has D (ky s) = false
  size : Maps.size D = dist f i

theorem MapI.start (f : Nat → ByteArray) (V : Nat → Value) : MapI f 0 V (.map []) :=
  ⟨fun s x h => (by cases h), fun s _ => rfl, rfl⟩
theorem MapI.step {f : Nat → ByteArray} {i : Nat} {V : Nat → Value} {D : DataW Value} (h : MapI f i V D) (t : Tidy D) (v : Value) : MapI f (i + 1) (upd V i v) (D.put (ky (f i)) (.held v)) where
  some_ := fun s x hx => by
    by_cases es : f i = s
    · subst es
      rw [lastIx_same] at hx
      injection hx with hx
      subst hx
      rw [upd_at]
      exact ⟨has_put_same t.isMap (isKey _) _, fun z => atKey_put_same t.isMap (isKey _) _ _⟩
    · rw [lastIx_other es] at hx
      have hne : ky s ≠ ky (f i) := fun e => es (ky_inj e).symm
      have hxi := (lastIx_lt hx).1
      rw [upd_off _ _ (by omega)]
      obtain ⟨a, b⟩ := h.some_ s x hx
      exact ⟨by rw [has_put_other hne]; exact a, fun z => by rw [atKey_put_other hne]; exact b z⟩
  none_ := fun s hx => by
    by_cases es : f i = s
    · subst es; rw [lastIx_same] at hx; cases hx
    · rw [lastIx_other es] at hx
      have hne : ky s ≠ ky (f i) := fun e => es (ky_inj e).symm
      rw [has_put_other hne]
      exact h.none_ s hx
  size := by
    rw [size_put t]
    unfold dist
    cases hx : lastIx f i (f i) with
    | none => rw [h.none_ _ hx, h.size]; simp
    | some x => rw [(h.some_ _ _ hx).1, h.size]; simp

/-- how many are present -/
def cnt (P : Nat → Bool) : Nat → Nat
  | 0 => 0
  | m + 1 => cnt P m + (if P m then 1 else 0)
theorem cnt_true (m : Nat) : cnt (fun _ => true) m = m := by
  induction m with
  | zero => rfl
  | succ m ih => simp [cnt, ih]
theorem cnt_upd_far (P : Nat → Bool) (j : Nat) (b : Bool) : ∀ m, m ≤ j → cnt (upd P j b) m = cnt P m
  | 0, _ => rfl
  | m + 1, h => by
    simp only [cnt]
    rw [cnt_upd_far P j b m (by omega), upd_off _ _ (by omega)]
theorem cnt_upd (P : Nat → Bool) (j : Nat) (hp : P j = true) : ∀ m, j < m → cnt (upd P j false) m + 1 = cnt P m
  | 0, h => by omega
  | m + 1, h => by
    simp only [cnt]
    by_cases e : m = j
    · subst e; rw [cnt_upd_far P m false m (Nat.le_refl _), upd_at, hp]; simp
    · have := cnt_upd P j hp m (by omega)
      rw [upd_off _ _ e]; omega

structure Dr (m : Nat) (K : Nat → ByteArray) (L : Nat → Nat) (V : Nat → Value) (P : Nat → Bool) (D : DataW Value) : Prop where
  tidy : Tidy D
  one : ∀ j j', j < m → j' < m → K j = K j' → j = j'
  pres : ∀ j, j < m → P j = true → Maps.has D (ky (K j)) = true ∧ ∀ z, D.atKey (ky (K j)) z = .held (V (L j))
  gone : ∀ j, j < m → P j = false → Maps.has D (ky (K j)) = false
  other : ∀ s, (∀ j, j < m → K j ≠ s) → Maps.has D (ky s) = false
  size : Maps.size D = cnt P m

theorem Dr.start {f : Nat → ByteArray} {n m : Nat} {K : Nat → ByteArray} {L : Nat → Nat} {V : Nat → Value} {D : DataW Value} (t : Tab f n m K L) (h : MapI f n V D) (ht : Tidy D) : Dr m K L V (fun _ => true) D where
  tidy := ht
  one := t.one
  pres := fun j hj _ => h.some_ _ _ (t.at_ j hj)
  gone := fun j hj hp => by cases hp
  other := fun s hs => h.none_ s (by
    cases hx : lastIx f n s with
    | none => rfl
    | some x => obtain ⟨j, hj, ej⟩ := t.all _ _ hx; exact absurd ej (hs j hj))
  size := by rw [h.size, cnt_true, t.len]
theorem Dr.drop {m j : Nat} {K : Nat → ByteArray} {L : Nat → Nat} {V : Nat → Value} {P : Nat → Bool} {D : DataW Value} (h : Dr m K L V P D) (hj : j < m) (hp : P j = true) : Dr m K L V (upd P j false) (D.del (ky (K j))) where
  tidy := h.tidy.del _
  one := h.one
  pres := fun j' hj' hp' => by
    by_cases e : j' = j
    · subst e; rw [upd_at] at hp'; cases hp'
    · rw [upd_off _ _ e] at hp'
      have hne : ky (K j') ≠ ky (K j) := fun ee => e (h.one _ _ hj' hj (ky_inj ee))
      obtain ⟨a, b⟩ := h.pres j' hj' hp'
      exact ⟨by rw [has_del_other hne]; exact a, fun z => by rw [atKey_del_other hne]; exact b z⟩
  gone := fun j' hj' hp' => by
    by_cases e : j' = j
    · subst e; exact has_del_same
    · rw [upd_off _ _ e] at hp'
      have hne : ky (K j') ≠ ky (K j) := fun ee => e (h.one _ _ hj' hj (ky_inj ee))
      rw [has_del_other hne]; exact h.gone j' hj' hp'
  other := fun s hs => by
    have hne : ky s ≠ ky (K j) := fun ee => hs j hj (ky_inj ee).symm
    rw [has_del_other hne]; exact h.other s hs
  size := by
    have a := size_del (k := ky (K j)) h.tidy
    rw [(h.pres j hj hp).1, h.size] at a
    have b := cnt_upd P j hp m hj
    simp at a
    omega
theorem Dr.same {m : Nat} {K : Nat → ByteArray} {L : Nat → Nat} {V : Nat → Value} {P : Nat → Bool} {D : DataW Value} {s : ByteArray} (h : Dr m K L V P D) (hs : Maps.has D (ky s) = false) : Dr m K L V P (D.del (ky s)) := by
  rw [del_of_not_has hs]; exact h
end Go.Proofs.Qxb6617146a
