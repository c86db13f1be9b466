import Derived.Test.Qxb6617146aKeptD
namespace Go.Proofs.Qxb6617146a
open Go.RowKit Go.Maps
set_option linter.unusedVariables false

/-- behind some rounds of drop -/
structure DL (w wr : World) (gz : Nat) (mv : Value) (z : Int) : Prop where
  keep : Keep gz w wr
  kept : Kept wr gz mv z

theorem DL.later {w wr w' : World} {gz : Nat} {mv : Value} {z : Int} (h : DL w wr gz mv z) (hb : Below wr.heap.size wr w') : DL w w' gz mv z := ⟨h.keep.later hb, h.kept.later hb⟩
theorem DL.put {w wr : World} {gz : Nat} {mv : Value} {z : Int} (h : DL w wr gz mv z) (y : Int) : DL w (wr.setCell ⟨gz, 1, none⟩ (.int .i64 y)) gz mv y := ⟨h.keep.setCell _ _, h.kept.put y⟩

theorem branchSize_dl (r : Br) (w : World) (gz : Nat) (mv : Value) (z : Int) (hs : bsz r ≤ 1048576) (W : World) (h : DL w W gz mv z) :
    Calls Try.prog 33 #[.agg #[.string r.id, .string r.conf, .string r.canc, .slice r.da r.dl r.dc, .string r.st, .int .i64 r.att]] W fun e w' => e = .returned (.int .i64 (bsz r)) ∧ DL w w' gz mv z ∧
      w'.cell? ⟨gz, 1, none⟩ = some (.int .i64 z) ∧ ∀ o, w'.frozen? ⟨gz, o, none⟩ = false :=
  (branchSize_any r W hs).mono fun e w' ⟨he, hb⟩ => ⟨he, h.later hb, (h.later hb).kept.c1, (h.later hb).kept.live⟩

set_option maxHeartbeats 1000000 in
set_option maxRecDepth 100000 in
theorem drop_any (gz B : Nat) (mv : Value) (N : Nat) (D : DataW Value) (z : Int) (s : ByteArray) (A : Option Addr) (g n c : Nat) (r : Nat → Br) (w : World) (K : Kept w gz mv z) (M : Mp w B mv N D) (hB : mv = .map (some B) → B ≠ gz)
    (hs : s.size ≤ 1048576) (hl : (Instr.lookup 51 mv (.string s) false).run Try.prog w = .ok (.slice A n c) w) (hO : Own w g A n r) (hg : 0 < n → g ≠ gz) (hn : n ≤ 65536) (hz : gsz r n ≤ 1048576)
    (z0 : -1000000000000000 ≤ z) (z1 : z ≤ 9223372036854775807) :
    Calls Try.prog 31 #[.pointer (some ⟨gz, 0, none⟩), .string s] w fun e w' => e = .returned (.tuple #[]) ∧ Kept w' gz mv (z - gsz r n) ∧ Mp w' B mv N (D.del (ky s)) ∧ Keep2 gz B w w' := by
  have c0 := K.c0
  go_enter Try.func31, Try.ntmps31
  go_wp2
  go_loopw [13] (fun i wr => ∃ k : Nat, k ≤ n ∧ i = .int .i64 k ∧ DL w wr gz mv (z - gsz r k)) (fun i _ => n - (intOf i).toNat)
  case atStart => exact ⟨0, Nat.zero_le _, rfl, Keep.refl _ _, by simpa [gsz] using K⟩
  case round =>
    obtain ⟨k, hk, rfl, hD⟩ := hrel
    by_cases hlt : k < n
    · rcases hO with hO | ⟨rfl, hc, hlv⟩
      · omega
      have hgg : g < w.heap.size := World.block_lt_of_cell? _ _ (hc 0 (by omega)).c0
      obtain ⟨e0, e1, e2, e3, e4, e5⟩ := (hc k hlt).later (w' := wr) fun x => hD.keep.cell hgg (hg (by omega))
      have hgs := gsz_step r hlt
      have hgn : Hid (gsz r (k + 1) = gsz r k + bsz (r k)) := rfl
      have hbs : bsz (r k) ≤ 1048576 := by unfold bsz; omega
      have hgk : gsz r k ≤ 1048576 := by omega
      obtain ⟨y, hy⟩ : ∃ y, gsz r k = y := ⟨_, rfl⟩
      obtain ⟨bs, hbz⟩ : ∃ bs, bsz (r k) = bs := ⟨_, rfl⟩
      rw [hy] at hD hgk
      rw [hy] at hgn
      rw [hbz] at hgn hbs
      have c1 := hD.kept.c1
      have hfr := hD.kept.live
      have hDa : ∀ o, DL w (wr.alloc o).drew gz mv (z - y) := fun o => hD.later ((Below.refl _ _).alloc (Nat.le_refl _) _).drew
      have hcall := branchSize_dl (r k) w gz mv (z - y) (by rw [hbz]; exact hbs)
      rw [hbz] at hcall
      have c1a : ∀ o, (wr.alloc o).cell? ⟨gz, 1, none⟩ = some (.int .i64 (z - y)) := fun o => (hD.later ((Below.refl _ _).alloc (Nat.le_refl _) o)).kept.c1
      clear hy hbz hgs c0 hl
      go_upto_region 3 with fail
      go_region_with (first | (go_at_call 33; refine (hcall _ ?_).mono ?_; exact hDa _; rintro e w1 ⟨rfl, d1, c2, hf2⟩))
      all_goals
        go_wp2
        go_roundw
        case rel =>
          have e : z - ((gsz r (k + 1) : Nat) : Int) = z - y - bs := by rw [hgn.out]; push_cast; omega
          exact ⟨k + 1, by omega, by go_num, by rw [e]; exact d1.put _⟩
        case measure => simp [intOf]; omega
    · have e : k = n := by omega
      subst e
      have c0' := hD.kept.c0
      have hdel := (M.keep hD.keep hB).drop hs
      obtain ⟨wd, hd⟩ := Classical.axiomOfChoice hdel
      have hrun := fun ty => (hd ty).1
      have HF : Hid (∀ ty, Kept (wd ty) gz mv (z - gsz r k) ∧ Mp (wd ty) B mv N (D.del (ky s)) ∧ Keep2 gz B w (wd ty)) := fun ty => by
        obtain ⟨_, h1, h2, h3⟩ := hd ty
        refine ⟨?_, h1, hD.keep.two.trans h2.two'⟩
        rcases h3 with h3 | h3
        · rw [h3]; exact hD.kept
        · exact hD.kept.keep h2 (hB h3).symm
      clear hd
      go_wp2
      go_end0
      exact ⟨rfl, HF.out _⟩

theorem zzDrop_any (gz B : Nat) (mv : Value) (N : Nat) (D : DataW Value) (z : Int) (s : ByteArray) (A : Option Addr) (g n c : Nat) (r : Nat → Br) (w : World) (K : Kept w gz mv z) (M : Mp w B mv N D) (hB : mv = .map (some B) → B ≠ gz)
    (hs : s.size ≤ 1048576) (hl : (Instr.lookup 51 mv (.string s) false).run Try.prog w = .ok (.slice A n c) w) (hO : Own w g A n r) (hg : 0 < n → g ≠ gz) (hn : n ≤ 65536) (hz : gsz r n ≤ 1048576)
    (z0 : -1000000000000000 ≤ z) (z1 : z ≤ 9223372036854775807) :
    Calls Try.prog 22 #[.pointer (some ⟨gz, 0, none⟩), .string s] w fun e w' => e = .returned (.tuple #[]) ∧ Kept w' gz mv (z - gsz r n) ∧ Mp w' B mv N (D.del (ky s)) ∧ Keep2 gz B w w' := by
  have hd := drop_any gz B mv N D z s A g n c r w K M hB hs hl hO hg hn hz z0 z1
  clear K M hB hs hl hO hg hz
  go_enter Try.func22, Try.ntmps22
  go_wp2_with fail
  refine hd.mono ?_
  rintro e w' ⟨rfl, k1, m1, p1⟩
  go_wp2
  go_end0
  exact ⟨rfl, k1, m1, p1⟩
end Go.Proofs.Qxb6617146a
