import Derived.Test.Qxb6617146aKeptH
import Derived.Test.Qxb6617146aKeptJ
namespace Go.Proofs.Qxb6617146a
open Go.RowKit Go.Maps
set_option linter.unusedVariables false

def Small (H : Nat → Hd) (k : Nat) : Prop := ∀ x, x < k → (H x).n ≤ 65536 ∧ gsz (H x).r (H x).n ≤ 1048576

theorem cnt_le (P : Nat → Bool) : ∀ m, cnt P m ≤ m
  | 0 => Nat.le_refl _
  | m + 1 => by
    have := cnt_le P m
    simp only [cnt]
    split <;> omega

/-- where the map is made -/
def CutR (w W : World) (n : Nat) (f : Nat → ByteArray) (H : Nat → Hd) (ck cl cp : Nat → Value) (mv : Value) : Prop :=
  ∃ (B : Nat) (A : Nat → Option Addr) (g : Nat → Nat) (D : DataW Value) (N : Nat), Rows3 w W n ck cl cp ∧ w.heap.size + 3 ≤ B ∧ Mp W B mv N D ∧ MapI f n (vOf H A) D ∧ ∀ x, x < n → Own W (g x) (A x) (H x).n (H x).r ∧ (0 < (H x).n → B < g x)
/-- an append whose run is known -/
theorem app_run {ops : Array Oper} {rest : List Oper} {o : Oper} {a : Act} {Q : Exit → Act → World → Prop} {w : World} (hg : o.guard = none) (s x : Operand) (t : TypeId)
    (hop : o.op = .call { callee := .builtin .append, args := #[s, x], argTypes := #[t, t] }) (v1 v2 : Value) (h1 : a.eval s = v1) (h2 : a.eval x = v2) (v' : Value) (w' : World)
    (hr : ∀ ty, (Builtin.append_ #[t, t] ty #[v1, v2]).run Try.prog w = .ok v' w') (h : wpList Try.prog ops Q rest (a.put o.dst v') w') : wpList Try.prog ops Q (o :: rest) a w := by
  refine wpList_plain hg fun K hK => ?_
  unfold Oper.wp execOp
  simp only [hop, resolve, invoke, builtin, Sem.run_bind, Sem.run_pure, Result.andThen_ok, List.map_toArray, List.map_cons, List.map_nil, h1, h2, hr]
  exact hK _ _ h

set_option maxHeartbeats 4000000 in
set_option maxRecDepth 100000 in
theorem law6_main (a a' a3 : Option Addr) (n c n' c' n3 c3 : Nat) (z : Int) (f f3 : Nat → ByteArray) (H : Nat → Hd) (w : World) (h : Strs w a n f) (hG : Hds w a' n' H) (hBr : ∀ i, i < n' → Brs w (H i).a (H i).n (H i).r)
    (hBy : ∀ i, i < n' → ∀ p, p < (H i).n → Bytes w ((H i).r p).da ((H i).r p).dl) (h3 : Strs w a3 n3 f3) (hnil : a = none → n = 0) (z1 : z ≤ 9223372036854775807) (s1 : (n : Int) ≤ 65536) (s2 : (n' : Int) ≤ 65536) (s3 : (n3 : Int) ≤ 65536) :
    Calls Try.prog 6 #[.slice a n c, .slice a' n' c', .int .i64 z, .slice a3 n3 c3] w fun e w' => e = .returned (.bool true) ∧ Below w.heap.size w w' := by
  go_enter Try.func6, Try.ntmps6
  go_wp2_with fail
  refine (zzBytes20_any a a' a3 n c n' c' n3 c3 z f f3 H _ h hG hBr h3).mono ?_
  rintro e w' ⟨⟨x, rfl⟩, rfl⟩
  cases x
  · go_wp2; go_ret; exact ⟨rfl, Below.refl _ _⟩
  go_wp2_with fail
  refine (addStrs_nn _ a n c f _ h (by omega)).mono ?_
  rintro e w ⟨⟨r1, rfl, p1, q1⟩, rfl⟩
  have Q1 := (show Hid _ from q1); clear q1
  go_wp2_with fail
  refine (addStrs_nn _ a3 n3 c3 f3 _ h3 p1).mono ?_
  rintro e w ⟨⟨r2, rfl, p2, q2⟩, rfl⟩
  have Q2 := (show Hid _ from q2); clear q2
  go_wp2_with fail
  refine (addLen_nn _ _ _ p2 (by omega)).mono ?_
  rintro e w ⟨⟨r3, rfl, p3, q3⟩, rfl⟩
  have Q3 := (show Hid _ from q3); clear q3
  go_wp2
  go_loop [9, 10] (fun s i => ∃ k : Nat, k ≤ n' ∧ i = .int .i64 k ∧ ∃ y : Int, 0 ≤ y ∧ s = .int .i64 y ∧ Hid (y ≤ 1048576 → r3 ≤ y ∧ Small H k)) (fun _ i => n' - (intOf i).toNat)
  case atStart => exact ⟨0, Nat.zero_le _, rfl, _, p3, rfl, fun _ => ⟨Int.le_refl _, fun x hx => by omega⟩⟩
  case round =>
    obtain ⟨k, hk, rfl, y, hy0, rfl, hyq⟩ := hrel
    by_cases hy : 1048576 < y
    · clear hyq
      by_cases hlt : k < n'
      · go_wp2; go_ret; exact ⟨rfl, Below.refl _ _⟩
      · go_wp2; go_ret; exact ⟨rfl, Below.refl _ _⟩
    by_cases hlt : k < n'
    · obtain ⟨b, off, rfl, hc⟩ := hG.2.resolve_left (by omega)
      have hcell := hc k hlt
      have HY : Hid _ := hyq.out (by omega)
      clear hyq
      go_wp2_with fail
      refine (addBranches_nn _ _ _ _ _ _ (hBr k hlt) hy0).mono ?_
      rintro e w ⟨⟨r4, rfl, p4, q4⟩, rfl⟩
      have Q4 := (show Hid _ from q4); clear q4
      go_wp2
      go_round
      case rel =>
        refine ⟨k + 1, by omega, by go_num, _, p4, rfl, fun h5 => ?_⟩
        have q4 := Q4.out h5
        have hy2 := HY.out
        refine ⟨by omega, fun x hx => ?_⟩
        by_cases ex : x = k
        · subst ex; exact q4.2
        · exact hy2.2 x (by omega)
      case measure => simp [intOf]; omega
    · have ek : k = n' := by omega
      subst ek
      obtain ⟨q5, hSm⟩ := hyq.out (by omega)
      have q3 := Q3.out (by omega)
      have q2 := Q2.out (by omega)
      have q1 := Q1.out (by omega)
      have hfs : Hid _ := q1.2
      have hf3s : Hid _ := q2.2
      clear hyq q1 q2 q3 q5 Q1 Q2 Q3 hlt hk
      by_cases hnn : n = k
      case neg => go_wp2; go_ret; exact ⟨rfl, Below.refl _ _⟩
      subst hnn
      by_cases hzz : z < -1073741824
      · go_wp2; go_ret; exact ⟨rfl, Below.refl _ _⟩
      have hm1 := make_cap Try.underlying28 info9 (by omega) n (by omega)
      have hm2 := make_cap Try.underlying49 info3 (by omega) n (by omega)
      have hm3 := make_cap Try.underlying50 info4 (by omega) n (by omega)
      go_wp2
      clear hm1 hm2 hm3
      go_loopw [11, 12, 13, 14] (fun ks ls ps i wr => ∃ k m : Nat, k ≤ n ∧ i = .int .i64 k ∧ ks = .slice (some ⟨w.heap.size, 0, none⟩) m n ∧ ls = .slice (some ⟨w.heap.size + 1, 0, none⟩) m n ∧ ps = .slice (some ⟨w.heap.size + 2, 0, none⟩) m n ∧
        ∃ K L ck cl cp, TL w wr n k m f K L ck cl cp) (fun _ _ _ i _ => n - (intOf i).toNat)
      case atStart => exact ⟨0, 0, Nat.zero_le _, rfl, rfl, rfl, rfl, fun _ => ⟨#[]⟩, fun _ => 0, _, _, _, Rows3.start w n, fun j hj => by omega, fun j hj => by omega, fun j hj => by omega, Tab.start _ _ _⟩
      case round =>
        obtain ⟨k, m, hk, rfl, rfl, rfl, rfl, K, L, ck, cl, cp, hT⟩ := hrel
        by_cases hlt : k < n
        · obtain ⟨b, off, rfl, hc⟩ := h.2.resolve_left (by omega)
          have hcell : wr.cell? ⟨b, off + k, none⟩ = some (.string (f k)) := by
            rw [hT.rows.below.cell (p := ⟨b, off + k, none⟩) (World.block_lt_of_cell? _ _ (hc k hlt))]; exact hc k hlt
          have hmk := hT.tab.le
          have HT := hide hT
          have hst := hide (hT.strs hk (by omega))
          clear hT
          go_wp2_with fail
          refine (index_at _ m n K (f k) _ hst.out).mono ?_
          rintro e wr ⟨hix, rfl⟩
          rcases hix with ⟨j, hj, ej, rfl⟩ | ⟨rfl, hne⟩
          · have hcl := HT.out.rows.l j (by omega)
            have hfl := HT.out.rows.live 1 j (by omega)
            go_wp2
            go_roundw
            case rel => exact ⟨k + 1, m, by omega, by go_num, rfl, rfl, rfl, K, _, ck, _, cp, HT.out.hit hlt hj ej⟩
            case measure => simp [intOf]; omega
          · obtain ⟨W1, W2, W3, ap1, ap2, ap3, _, hT3⟩ := HT.out.push hlt hne
            have HT3 := hide hT3
            clear hT3 hne HT
            go_wp2_with (first
              | (at_builtin; refine app_run rfl _ _ 28 rfl (.slice (some ⟨w.heap.size, 0, none⟩) m n) (.slice (some ⟨wr.heap.size, 0, none⟩) 1 1) rfl rfl _ _ ap1 ?_)
              | (at_builtin; refine app_run rfl _ _ 49 rfl (.slice (some ⟨w.heap.size + 1, 0, none⟩) m n) (.slice (some ⟨W1.heap.size, 0, none⟩) 1 1) rfl rfl _ _ ap2 ?_)
              | (at_builtin; refine app_run rfl _ _ 50 rfl (.slice (some ⟨w.heap.size + 2, 0, none⟩) m n) (.slice (some ⟨W2.heap.size, 0, none⟩) 1 1) rfl rfl _ _ ap3 ?_))
            go_roundw
            case rel => exact ⟨k + 1, m + 1, by omega, by go_num, rfl, rfl, rfl, _, _, _, _, _, HT3.out⟩
            case measure => simp [intOf]; omega
        · have ek : n = k := by omega
          subst ek
          clear hlt hk
          have hmh := makeMap_hint n
          have hne := neNil28
          have HN := hide hnil
          clear hnil
          have HT := hide hT
          clear hT
          go_upto_if 126 with fail
          go_cut [16, 17] (fun mv i W2 => CutR w W2 n f H ck cl cp mv)
          case first =>
            cases a with
            | none =>
              go_wp2_with fail
              go_meet
              case rel =>
                have e0 : n = 0 := by first | exact HN.out rfl | exact HN.out trivial
                exact ⟨wr.heap.size, fun _ => none, fun _ => 0, .map [], 0, HT.out.rows, HT.out.rows.size, .inl ⟨rfl, rfl⟩, by rw [e0]; exact MapI.start _ _, fun x hx => by omega⟩
            | some x =>
              obtain ⟨B, hBe⟩ : ∃ B, Hid (wr.heap.size = B) := ⟨_, rfl⟩
              have hM0 : Hid (MLx w (wr.alloc (.map #[] 0)) n B 0 f H ck cl cp) :=
                ⟨fun _ => none, fun _ => 0, .map [], HT.out.rows.later ((Below.refl _ _).alloc (Nat.le_refl _) _), by rw [← hBe.out]; exact HT.out.rows.size, by rw [← hBe.out]; exact World.ownsMap_made _ _ _ _, MapI.start _ _, fun y hy => by omega⟩
              obtain ⟨W0, hW0⟩ : ∃ W0, Hid (wr.alloc (.map #[] 0) = W0) := ⟨_, rfl⟩
              go_wp2_with fail
              rw [hBe.out, hW0.out]
              rw [hW0.out] at hM0
              clear HT hBe hW0
              go_loopw [17] (fun i wr => ∃ k : Nat, k ≤ n ∧ i = .int .i64 k ∧ MLx w wr n B k f H ck cl cp) (fun i _ => n - (intOf i).toNat)
              case atStart => exact ⟨0, Nat.zero_le _, rfl, hM0.out⟩
              case round =>
                obtain ⟨k, hk, rfl, hM⟩ := hrel
                by_cases hlt : k < n
                · obtain ⟨b, off, hab, hc⟩ := h.2.resolve_left (by omega)
                  injection hab with hab
                  subst hab
                  obtain ⟨b', off', rfl, hc'⟩ := hG.2.resolve_left (by omega)
                  obtain ⟨A, g, D, hML⟩ := hM
                  have hbl := hML.rows.below
                  have e1 : wr.cell? ⟨b, off + k, none⟩ = some (.string (f k)) := by rw [hbl.cell (p := ⟨b, off + k, none⟩) (World.block_lt_of_cell? _ _ (hc k hlt))]; exact hc k hlt
                  have e2 : wr.cell? ⟨b', off' + k, none⟩ = some (.slice (H k).a (H k).n (H k).c) := by rw [hbl.cell (p := ⟨b', off' + k, none⟩) (World.block_lt_of_cell? _ _ (hc' k hlt))]; exact hc' k hlt
                  have hcall := toTxn_ml (w := w) (n := n) (B := B) (ck := ck) (cl := cl) (cp := cp) (f := f) (H := H) (k := k) (hBr k hlt) (hSm k hlt).1 (hfs.out k hlt) (by omega) (hc k hlt) (hc' k hlt)
                  have hMd : MLx w wr.drew n B k f H ck cl cp := ⟨A, g, D, hML.later (Below.refl _ _).drew⟩
                  clear hML hbl hc hc'
                  go_upto_region 36 with fail
                  go_region_with (first | (go_at_call 14; refine (hcall _ ?_).mono ?_; exact hMd; rintro e w1 ⟨a2, w2, rfl, d1, d2, hup, hM2⟩))
                  all_goals
                    go_wp2
                    go_roundw
                    case rel =>
                      (repeat apply Exists.intro)
                      exact ⟨⟨k + 1, by omega, by go_num, hM2⟩, rfl⟩
                    case measure => simp [intOf]; omega
                · have ek : n = k := by omega
                  subst ek
                  obtain ⟨A, g, D, hML⟩ := hM
                  go_wp2
                  go_meet
                  case rel => exact ⟨B, A, g, D, _, hML.rows, hML.base, .inr ⟨rfl, hML.map⟩, hML.mapI, hML.own⟩
          case rest =>
            obtain ⟨B, A, g, D0, N, hR, hB3, hMp, hMI, hOw⟩ := hcut
            have hT := HT.out
            have hmn := hT.tab.le
            have fK : Hid (∀ j, j < m → ck j = .string (K j)) := hT.hk
            have fL : Hid (∀ j, j < m → cl j = .int .i64 (L j)) := hT.hl
            have fLt : Hid (∀ j, j < m → L j < n) := fun j hj => (lastIx_lt (hT.tab.at_ j hj)).1
            have fKs : Hid (∀ j, j < m → (K j).size ≤ 1048576) := fun j hj => by have := lastIx_lt (hT.tab.at_ j hj); rw [← this.2]; exact hfs.out _ this.1
            have hD0 : Hid (Dr m K L (vOf H A) (fun _ => true) D0) := Dr.start hT.tab hMI hMp.tidy
            have hP0 : Hid (∀ j, j < m → cp j = .bool true) := hT.hp
            clear hT HT hMI hfs HN hne hmh
            go_wp2_with fail
            refine (newKept_any _ z _ hMp.shape).mono ?_
            rintro e W0 ⟨gz, rfl, hK0, hb0, hgz⟩
            have hM0 : Hid (Mem w W0 n B gz N _ H ck cl cp A g D0 z) := ⟨hR.later hb0, hK0, hMp.later hb0, fun x hx => (hOw x hx).1.later hb0⟩
            have fx : Hid (Fx w n B gz _ H g) := ⟨hB3, Nat.le_trans hR.size hgz, fun e => by have := hMp.lt e; omega, fun x hx hn => by
              have o1 := (hOw x hx).1.lt hn
              have o2 := (hOw x hx).2 hn
              exact ⟨by omega, by omega, by omega⟩⟩
            clear hR hMp hOw hK0 hb0 hgz
            go_wp2
            go_loopw [19, 20] (fun wv i wr => ∃ k : Nat, k ≤ n3 ∧ i = .int .i64 k ∧ ∃ y : Int, wv = .int .i64 y ∧ -1073741824 - 1048576 * (k : Int) ≤ y ∧ y ≤ 9223372036854775807 ∧ DS w wr n m B gz N _ H K L ck cl A g y) (fun _ i _ => n3 - (intOf i).toNat)
            case atStart => exact ⟨0, Nat.zero_le _, rfl, z, rfl, by omega, by omega, cp, _, _, hM0.out, hP0.out, hD0.out⟩
            case round =>
              obtain ⟨k, hk, rfl, y4, rfl, y40, y41, cp4, P, D, hM', hP', hDr'⟩ := hrel
              have hM := hide hM'
              have hP := hide hP'
              have hDr := hide hDr'
              have hbel : Hid (Below w.heap.size w wr) := hM'.rows.below
              clear hM' hP' hDr' hM0 hP0 hD0
              have y42 : -1000000000000000 ≤ y4 := by omega
              by_cases hlt : k < n3
              · obtain ⟨b3, off3, rfl, hc3⟩ := h3.2.resolve_left (by omega)
                have hs := hide (hf3s.out k hlt)
                have hb3 : b3 < w.heap.size := World.block_lt_of_cell? _ _ (hc3 k hlt)
                have hc3k : Hid (w.cell? ⟨b3, off3 + k, none⟩ = some (.string (f3 k))) := hc3 k hlt
                have e3 : wr.cell? ⟨b3, off3 + k, none⟩ = some (.string (f3 k)) := by rw [hbel.out.cell (p := ⟨b3, off3 + k, none⟩) hb3]; exact hc3k.out
                clear hc3
                by_cases hex : Hid (∃ j, j < m ∧ K j = f3 k)
                · obtain ⟨j, hj, ej⟩ := hex
                  cases hPj : P j with
                  | false =>
                    have hmiss := hide (hDr.out.gone j hj hPj)
                    rw [ej] at hmiss
                    go_wp2_with fail
                    refine (drop_miss hM.out fx.out hs.out hmiss.out y42 y41).mono ?_
                    rintro e w1 ⟨rfl, hM1'⟩
                    have hM1 := hide hM1'
                    have e31 : w1.cell? ⟨b3, off3 + k, none⟩ = some (.string (f3 k)) := by rw [hM1'.rows.below.cell (p := ⟨b3, off3 + k, none⟩) hb3]; exact hc3k.out
                    clear hM1' hM
                    go_wp2_with fail
                    refine (index_at _ m n K (f3 k) _ (hM1.out.rows.strs fK.out hmn (by omega))).mono ?_
                    rintro e w1 ⟨hix, rfl⟩
                    rcases hix with ⟨j', hj', ej', rfl⟩ | ⟨_, hno⟩
                    case inr => exact absurd ej (hno j hj)
                    obtain rfl : j' = j := hDr.out.one j' j hj' hj (ej'.trans ej.symm)
                    have hpc : w1.cell? ⟨w.heap.size + 2, j', none⟩ = some (.bool false) := by rw [hM1.out.rows.p j' (by omega), hP.out j' hj, hPj]
                    go_wp2_with fail
                    refine (keptBytes_any gz _ y4 _ hM1.out.kept).mono ?_
                    rintro e w1 ⟨rfl, rfl⟩
                    go_wp2_with fail
                    refine (branches_miss hM1.out hs.out hmiss.out).mono ?_
                    rintro e w1 ⟨rfl, rfl⟩
                    go_wp2
                    go_roundw
                    case rel => exact ⟨k + 1, by omega, by go_num, y4, rfl, by omega, by omega, cp4, P, D, hM1.out, hP.out, hDr.out⟩
                    case measure => simp [intOf]; omega
                  | true =>
                    obtain ⟨hhas, hat⟩ := hDr.out.pres j hj hPj
                    have hLj := fLt.out j hj
                    rw [ej] at hhas hat
                    obtain ⟨hgn, hgs⟩ := hSm (L j) hLj
                    obtain ⟨b', off', rfl, hc'⟩ := hG.2.resolve_left (by omega)
                    have hcg : Hid (w.cell? ⟨b', off' + L j, none⟩ = some (.slice (H (L j)).a (H (L j)).n (H (L j)).c)) := hc' _ hLj
                    have hb' : b' < w.heap.size := World.block_lt_of_cell? _ _ (hc' _ hLj)
                    have hBrj := hide (hBr (L j) hLj)
                    have hdrop := drop_hit hM.out fx.out hLj hs.out hhas hat hgn hgs y42 y41
                    have hgsz := fun W1 hh => groupSize_b (H (L j)).a (H (L j)).n (H (L j)).c (H (L j)).r W1 hh hgs
                    have hDr2 : Hid (Dr m K L (vOf H A) (upd P j false) (D.del (ky (f3 k)))) := by have := hDr.out.drop hj hPj; rw [ej] at this; exact this
                    obtain ⟨G, hGe⟩ : ∃ G, gsz (H (L j)).r (H (L j)).n = G := ⟨_, rfl⟩
                    rw [hGe] at hdrop hgs hgsz
                    clear hGe hhas hat hc'
                    go_wp2_with fail
                    refine hdrop.mono ?_
                    rintro e w1 ⟨rfl, hM1'⟩
                    have hM1 := hide hM1'
                    have e31 : w1.cell? ⟨b3, off3 + k, none⟩ = some (.string (f3 k)) := by rw [hM1'.rows.below.cell (p := ⟨b3, off3 + k, none⟩) hb3]; exact hc3k.out
                    clear hM1' hM hdrop
                    go_wp2_with fail
                    refine (index_at _ m n K (f3 k) _ (hM1.out.rows.strs fK.out hmn (by omega))).mono ?_
                    rintro e w1 ⟨hix, rfl⟩
                    rcases hix with ⟨j', hj', ej', rfl⟩ | ⟨_, hno⟩
                    case inr => exact absurd ej (hno j hj)
                    obtain rfl : j' = j := hDr.out.one j' j hj' hj (ej'.trans ej.symm)
                    have hpc : w1.cell? ⟨w.heap.size + 2, j', none⟩ = some (.bool true) := by rw [hM1.out.rows.p j' (by omega), hP.out j' hj, hPj]
                    have hlc : w1.cell? ⟨w.heap.size + 1, j', none⟩ = some (.int .i64 (L j')) := by rw [hM1.out.rows.l j' (by omega), fL.out j' hj]
                    have hgc : w1.cell? ⟨b', off' + L j', none⟩ = some (.slice (H (L j')).a (H (L j')).n (H (L j')).c) := by rw [hM1.out.rows.below.cell (p := ⟨b', off' + L j', none⟩) hb']; exact hcg.out
                    go_wp2_with fail
                    refine (hgsz _ (hBrj.out.later hM1.out.rows.below)).mono ?_
                    rintro e w2 ⟨rfl, hbl2⟩
                    have hM2 := hide (hM1.out.later hbl2)
                    have hpc2 : w2.cell? ⟨w.heap.size + 2, j', none⟩ = some (.bool true) := by rw [hM2.out.rows.p j' (by omega), hP.out j' hj, hPj]
                    have hpf2 := hM2.out.rows.live 2 j' (by omega)
                    have hM3 := hide (hM2.out.setP fx.out (.bool false) (j := j') (by omega))
                    have e33 : (w2.setCell ⟨w.heap.size + 2, j', none⟩ (.bool false)).cell? ⟨b3, off3 + k, none⟩ = some (.string (f3 k)) := by rw [hM3.out.rows.below.cell (p := ⟨b3, off3 + k, none⟩) hb3]; exact hc3k.out
                    clear hbl2 hM1 hpc hlc hgc e31 hgsz
                    go_wp2_with fail
                    refine (keptBytes_any gz _ _ _ hM3.out.kept).mono ?_
                    rintro e w4 ⟨rfl, rfl⟩
                    go_wp2_with fail
                    refine (branches_miss hM3.out hs.out has_del_same).mono ?_
                    rintro e w4 ⟨rfl, rfl⟩
                    go_wp2
                    go_roundw
                    case rel =>
                      exact ⟨k + 1, by omega, by go_num, _, rfl, by omega, by omega, _, _, _, hM3.out, fun i hi => by
                        by_cases ei : i = j'
                        · subst ei; rw [upd_at, upd_at]
                        · rw [upd_off _ _ ei, upd_off _ _ ei]; exact hP.out i hi, hDr2.out⟩
                    case measure => simp [intOf]; omega
                · have hmiss := hide (hDr.out.other (f3 k) (fun j hj ej => hex ⟨j, hj, ej⟩))
                  go_wp2_with fail
                  refine (drop_miss hM.out fx.out hs.out hmiss.out y42 y41).mono ?_
                  rintro e w1 ⟨rfl, hM1'⟩
                  have hM1 := hide hM1'
                  have e31 : w1.cell? ⟨b3, off3 + k, none⟩ = some (.string (f3 k)) := by rw [hM1'.rows.below.cell (p := ⟨b3, off3 + k, none⟩) hb3]; exact hc3k.out
                  clear hM1' hM
                  go_wp2_with fail
                  refine (index_at _ m n K (f3 k) _ (hM1.out.rows.strs fK.out hmn (by omega))).mono ?_
                  rintro e w1 ⟨hix, rfl⟩
                  rcases hix with ⟨j', hj', ej', rfl⟩ | ⟨rfl, _⟩
                  case inl => exact absurd ⟨j', hj', ej'⟩ hex
                  clear hex
                  go_wp2_with fail
                  refine (keptBytes_any gz _ y4 _ hM1.out.kept).mono ?_
                  rintro e w1 ⟨rfl, rfl⟩
                  go_wp2_with fail
                  refine (branches_miss hM1.out hs.out hmiss.out).mono ?_
                  rintro e w1 ⟨rfl, rfl⟩
                  go_wp2
                  go_roundw
                  case rel => exact ⟨k + 1, by omega, by go_num, y4, rfl, by omega, by omega, cp4, P, D, hM1.out, hP.out, hDr.out⟩
                  case measure => simp [intOf]; omega
              · clear hf3s h3
                obtain ⟨W, hWe⟩ : ∃ W, W = wr := ⟨_, rfl⟩
                subst hWe
                go_wp2
                go_loopw [24, 25] (fun lv q wr => ∃ k : Nat, k ≤ m ∧ q = .int .i64 k ∧ lv = .int .i64 (cnt P k) ∧ Below W.heap.size W wr) (fun _ q _ => m - (intOf q).toNat)
                case atStart => exact ⟨0, Nat.zero_le _, rfl, rfl, Below.refl _ _⟩
                case round =>
                  obtain ⟨k5, hk5, rfl, rfl, hBr5'⟩ := hrel
                  have hM5 := hide (hM.out.later hBr5')
                  have hBr5 := hide hBr5'
                  have hcn : Hid (cnt P (k5 + 1) = cnt P k5 + (if P k5 then 1 else 0)) := rfl
                  have hcb := cnt_le P k5
                  have hsz := hDr.out.size
                  obtain ⟨cc, hcc⟩ : ∃ cc, cnt P k5 = cc := ⟨_, rfl⟩
                  have HC := hide hcc
                  rw [hcc] at hcb hcn ⊢
                  clear hcc hBr5'
                  by_cases hlt : k5 < m
                  · have hkc : wr.cell? ⟨w.heap.size, k5, none⟩ = some (.string (K k5)) := by rw [hM5.out.rows.k k5 (by omega), fK.out k5 hlt]
                    clear hsz
                    cases hPk : P k5 with
                    | false =>
                      have hpc : wr.cell? ⟨w.heap.size + 2, k5, none⟩ = some (.bool false) := by rw [hM5.out.rows.p k5 (by omega), hP.out k5 hlt, hPk]
                      have hmiss := hide (hDr.out.gone k5 hlt hPk)
                      have hcn1 : Hid (cnt P (k5 + 1) = cc) := hide (by rw [hcn.out, hPk]; simp)
                      clear hcn hPk
                      go_wp2_with fail
                      refine (branches_miss hM5.out (fKs.out k5 hlt) hmiss.out).mono ?_
                      rintro e wr ⟨rfl, rfl⟩
                      go_wp2
                      go_roundw
                      case rel => exact ⟨k5 + 1, by omega, by go_num, by rw [hcn1.out], hBr5.out⟩
                      case measure => simp [intOf]; omega
                    | true =>
                      have hLk := fLt.out k5 hlt
                      have hpc : wr.cell? ⟨w.heap.size + 2, k5, none⟩ = some (.bool true) := by rw [hM5.out.rows.p k5 (by omega), hP.out k5 hlt, hPk]
                      have hlc : wr.cell? ⟨w.heap.size + 1, k5, none⟩ = some (.int .i64 (L k5)) := by rw [hM5.out.rows.l k5 (by omega), fL.out k5 hlt]
                      obtain ⟨hhas, hat⟩ := hDr.out.pres k5 hlt hPk
                      have hbr := branches_hit hM5.out (fKs.out k5 hlt) hhas hat
                      have hO := hM5.out.own (L k5) hLk
                      have hBrk := (hBr (L k5) hLk).later hM5.out.rows.below
                      have hByk := hBy (L k5) hLk
                      have hSk := (hSm (L k5) hLk).1
                      obtain ⟨b', off', rfl, hc'⟩ := hG.2.resolve_left (by omega)
                      have hgc : wr.cell? ⟨b', off' + L k5, none⟩ = some (.slice (H (L k5)).a (H (L k5)).n (H (L k5)).c) := by rw [hM5.out.rows.below.cell (p := ⟨b', off' + L k5, none⟩) (World.block_lt_of_cell? _ _ (hc' _ hLk))]; exact hc' _ hLk
                      have hcn1 : Hid (cnt P (k5 + 1) = cc + 1) := hide (by rw [hcn.out, hPk]; simp)
                      clear hcn hPk hhas hat hc'
                      obtain ⟨a2, n2, c2, r2, hH⟩ : ∃ a2 n2 c2 r2, H (L k5) = ⟨a2, n2, c2, r2⟩ := ⟨_, _, _, _, rfl⟩
                      rw [hH] at hbr hO hBrk hByk hSk hgc
                      obtain ⟨Ak, hAk⟩ : ∃ Ak, A (L k5) = Ak := ⟨_, rfl⟩
                      rw [hAk] at hbr hO
                      obtain ⟨gg, hgg⟩ : ∃ gg, g (L k5) = gg := ⟨_, rfl⟩
                      rw [hgg] at hO
                      clear hgg hAk hH
                      dsimp only at hbr hO hBrk hByk hSk hgc
                      have HO := hide hO
                      have HBr := hide hBrk
                      have HBy := hide hByk
                      clear hO hBrk hByk
                      go_wp2_with fail
                      refine hbr.mono ?_
                      rintro e wr ⟨rfl, rfl⟩
                      clear hbr
                      go_wp2
                      obtain ⟨W5, h5e⟩ : ∃ W5, W5 = wr := ⟨_, rfl⟩
                      subst h5e
                      go_loopw [29] (fun p wr => ∃ q : Nat, q ≤ n2 ∧ p = .int .i64 q ∧ Below W5.heap.size W5 wr) (fun p _ => n2 - (intOf p).toNat)
                      case atStart => exact ⟨0, Nat.zero_le _, rfl, Below.refl _ _⟩
                      case round =>
                        obtain ⟨q, hq, rfl, hB6'⟩ := hrel
                        have hB6 := hide hB6'
                        clear hB6'
                        by_cases hltq : q < n2
                        · obtain ⟨rfl, x1⟩ := HO.out.row hltq hB6.out (y := r2 q) (s := (r2 q).st) rfl
                          obtain ⟨b2, off2, rfl, xb⟩ := HBr.out.row hltq hB6.out
                          have hby : Bytes wr (r2 q).da (r2 q).dl := ((HBy.out q hltq).later hM5.out.rows.below).later hB6.out
                          have H1 : Held2 W5 gg b2 (q * 6) (off2 + q * 6) (r2 q) (r2 q).st (r2 q).st wr.drew := (Held2.mk x1 xb hby hB6.out).drew
                          clear x1 xb hby
                          go_upto_region 67 with fail
                          go_region_held3 (fun wx => wx.cell? ⟨gg, q * 6, none⟩ = some (.string (r2 q).id) ∧ wx.cell? ⟨gg, q * 6 + 1, none⟩ = some (.string (r2 q).conf) ∧ wx.cell? ⟨gg, q * 6 + 2, none⟩ = some (.string (r2 q).canc) ∧ wx.cell? ⟨gg, q * 6 + 3, none⟩ = some (.slice (r2 q).da (r2 q).dl (r2 q).dc) ∧ wx.cell? ⟨gg, q * 6 + 4, none⟩ = some (.string (r2 q).st) ∧ wx.cell? ⟨gg, q * 6 + 5, none⟩ = some (.int .i64 (r2 q).att) ∧ wx.cell? ⟨b2, off2 + q * 6, none⟩ = some (.string (r2 q).id) ∧ wx.cell? ⟨b2, off2 + q * 6 + 1, none⟩ = some (.string (r2 q).conf) ∧ wx.cell? ⟨b2, off2 + q * 6 + 2, none⟩ = some (.string (r2 q).canc) ∧ wx.cell? ⟨b2, off2 + q * 6 + 3, none⟩ = some (.slice (r2 q).da (r2 q).dl (r2 q).dc) ∧ wx.cell? ⟨b2, off2 + q * 6 + 4, none⟩ = some (.string (r2 q).st) ∧ wx.cell? ⟨b2, off2 + q * 6 + 5, none⟩ = some (.int .i64 (r2 q).att) ∧ Bytes wx (r2 q).da (r2 q).dl ∧ Below W5.heap.size W5 wx) (first | exact H1 | exact Held2.later (w := _) (by assumption) hb6)
                            (first
                              | (go_at_call 26; refine (samePlain_agg (r2 q) _ ?_).mono ?_; (go_split_ands; assumption); rintro e w6 ⟨rfl, hb6⟩))
                          have hH6 : Held2 W5 gg b2 (q * 6) (off2 + q * 6) (r2 q) (r2 q).st (r2 q).st w6 := by assumption
                          obtain ⟨_, _, _, hB7⟩ := hH6.out
                          have HB7 := hide hB7
                          clear hB7 hH6 H1
                          go_wp2
                          go_roundw
                          case rel => exact ⟨q + 1, by omega, by go_num, HB7.out⟩
                          case measure => simp [intOf]; omega
                        · go_wp2
                          go_roundw
                          case rel => exact ⟨k5 + 1, by omega, by go_num, by rw [hcn1.out]; go_num, hBr5.out.trans (hB6.out.mono hBr5.out.size)⟩
                          case measure => simp [intOf]; omega
                  · have ek : k5 = m := by omega
                    subst ek
                    rw [HC.out] at hsz
                    go_wp2_with fail
                    refine (keptLen_cnt hM5.out hsz).mono ?_
                    rintro e wr ⟨rfl, rfl⟩
                    go_wp2
                    go_ret
                    exact ⟨rfl, hM5.out.rows.below⟩
end Go.Proofs.Qxb6617146a
