/- laws.FnCYSends, walked. -/
import Derived.Test.YtdhhccpeikhilaaDoorF4b
import Derived.Deep.CutBlock
import Derived.Deep.RegionLaw
import Derived.Deep.CutRange
import Derived.Deep.QuietTactic
import Derived.BigQuiet
import Derived.Deep.RegionHeld3
namespace Go.Proofs.YtdhhccpeikhilaaDoor
open Go.RowKit

theorem snext_le (s : SS) (a : Stp) (h : SOk s a) : (snext s a).off + (snext s a).buf.length ≤ s.off + s.buf.length + 1000 := by
  unfold snext
  split
  · have := h.2.1; simp only [List.length_append]; omega
  · have : snum s a ≤ s.buf.length := Nat.min_le_right _ _
    simp only [List.length_drop]; omega
theorem sees_get : ∀ (xs : List Stp) (s : SS) (j : Nat) (X : Stp), SOks s xs → xs[j]? = some X → ∃ t, SOk t X ∧ (sees s xs)[j]? = some (sseen t X) ∧ t.off + t.buf.length ≤ s.off + s.buf.length + 1000 * j
  | [], _, _, _, _, h => by simp at h
  | a :: r, s, 0, X, ⟨h1, _⟩, h => by
    rw [List.getElem?_cons_zero] at h
    injection h with h; subst h
    exact ⟨s, h1, rfl, by omega⟩
  | a :: r, s, j + 1, X, ⟨h1, h2⟩, h => by
    rw [List.getElem?_cons_succ] at h
    obtain ⟨t, e1, e2, e3⟩ := sees_get r (snext s a) j X h2 h
    have := snext_le s a h1
    exact ⟨t, e1, by rw [← e2]; rfl, by omega⟩
theorem sseen_facts (t : SS) (X : Stp) (h : SOk t X) (hb : t.off + t.buf.length ≤ 60000) : (sseen t X).code = 0 ∧ ((sseen t X).is = false ∨ ((sseen t X).is = true ∧ (sseen t X).off ≤ 60000 ∧ (sseen t X).data.length ≤ 60000 ∧ 1 + vlen (sseen t X).off + vlen (sseen t X).data.length + (sseen t X).data.length ≤ X.most)) := by
  rcases h.2.2 with hk | ⟨hk, hp⟩
  · have e : sseen t X = ⟨false, decide (0 < (snext t X).buf.length), 0, [], 0⟩ := if_pos hk
    rw [e]
    exact ⟨rfl, .inl rfl⟩
  · have e : sseen t X = ⟨true, decide (0 < (snext t X).buf.length), t.off, t.buf.take (snum t X), 0⟩ := if_neg (by omega)
    have h1 := h.1
    have hl : snum t X ≤ t.buf.length := Nat.min_le_right _ _
    have hr : snum t X ≤ room t.off X.most := Nat.min_le_left _ _
    have hd : (t.buf.take (snum t X)).length = snum t X := by rw [List.length_take]; omega
    rw [e]
    refine ⟨rfl, .inr ⟨rfl, by show t.off ≤ 60000; omega, by show (t.buf.take (snum t X)).length ≤ 60000; omega, ?_⟩⟩
    show 1 + vlen t.off + vlen (t.buf.take (snum t X)).length + (t.buf.take (snum t X)).length ≤ X.most
    rw [hd]
    generalize snum t X = n at *
    have hv := vlen_le t.off
    have hvn : (n ≤ 63 ∧ vlen n = 1) ∨ (63 < n ∧ vlen n = 2) := by
      rcases Nat.lt_or_ge n 64 with c | c
      · exact .inl ⟨by omega, vlen_lo c⟩
      · refine .inr ⟨by omega, vlen_mid c ?_⟩
        unfold room at hr
        split at hr
        · omega
        · split at hr <;> omega
    unfold room at hr
    split at hr
    · omega
    · split at hr <;> omega

set_option maxRecDepth 100000 in
set_option maxHeartbeats 16000000 in
theorem sends (w : World) (v : Value) (ops : List COp) (h : OpsAt w v ops) : Calls Tryd.prog 5 #[v] w fun e w' => e = .returned (.bool true) ∧ Grow w w' := by
  obtain ⟨p, c, rfl, hlc, hcm, _⟩ := id h
  have HO := Lib.hid h
  clear h
  go_enter Tryd.func5, Tryd.ntmps5
  go_upto_region 1 with fail
  go_upto_region 4 with (go_at_call 6; refine (fits5 w _ ops HO.out).mono ?_; rintro e w1 ⟨⟨bb, rfl⟩, hG1⟩; cases bb)
  · go_ret
    exact ⟨rfl, hG1⟩
  have HG1 := Lib.hid hG1
  clear hG1
  go_upto_region 6 with fail
  have hS0 : LawIn w (w1.alloc (.cells (cyS (.slice none 0 0) 0) 35)) w1.heap.size (.slice none 0 0) (.slice none 0 0) (.slice none 0 0) [] :=
    ⟨HG1.out.alloc _, Blk.new w1 _ _, Own.nil _ 5 1, trivial, RowX.nil _ _, RowX.nil _ _, HG1.out.size, (fun k h => nomatch h), (fun k h => nomatch h), (fun k h => nomatch h)⟩
  have HS0 := Lib.hid hS0
  clear hS0
  obtain ⟨bS, hbS⟩ : ∃ bS, bS = w1.heap.size := ⟨_, rfl⟩
  rw [← hbS] at HS0 ⊢
  clear hbS
  obtain ⟨m, hm⟩ : ∃ m, m = min ops.length 60 := ⟨_, rfl⟩
  have hm1 : m ≤ ops.length ∧ m ≤ 60 := by omega
  go_cut [25, 26, 27] from 21 to 24 (fun s25 s26 s27 wx => s25 = .slice p m c ∧ s26 = .int .i64 (m : Int) ∧ s27 = .int .i64 0 ∧ wx = w1.alloc (.cells (cyS (.slice none 0 0) 0) 35))
  case first =>
    rcases Nat.lt_or_ge 60 ops.length with d | d
    · have e : m = 60 := by omega
      subst e
      clear hm
      go_wp2_with fail
      go_meet
      exact ⟨rfl, rfl, rfl, rfl⟩
    · have e : m = ops.length := by omega
      subst e
      clear hm
      go_wp2_with fail
      go_meet
      exact ⟨rfl, rfl, rfl, rfl⟩
  case rest =>
  obtain ⟨rfl, rfl, rfl, rfl⟩ := hcut
  clear hm
  generalize w1.alloc (.cells (cyS (.slice none 0 0) 0) 35) = w2 at *
  go_wp2_with fail
  go_loopg [3, 4, 27] m (fun k s3 s4 s27 wr => ∃ (i : Nat) (xs : List Stp) (wv : Value), k + i = m ∧ s27 = .int .i64 (i : Int) ∧ xs.length ≤ i ∧ Hid (LawIn w wr bS wv s3 s4 xs))
  case atStart => exact ⟨0, [], _, by simp, rfl, Nat.le_refl _, HS0⟩
  case round =>
    obtain ⟨i, xs, wv, hk, rfl, hxi, HI⟩ := hrel
    by_cases hend : i = m
    · have hne : ¬ (i < m) := by omega
      have hlen60 : xs.length ≤ 60 := by omega
      obtain ⟨p3, c3, he3, hc31, hc32⟩ := HI.out.steps.row.slice
      obtain ⟨p4, c4, he4, hc41, hc42⟩ := HI.out.seen.row.slice
      rw [sees_length] at he4 hc41
      subst he3
      subst he4
      have HST : Hid (StepsAt wr (.slice p3 xs.length c3) xs) := Lib.hid HI.out.steps.row
      have HSE : Hid (SeenAt wr (.slice p4 xs.length c4) (sees s00 xs)) := Lib.hid HI.out.seen.row
      have HOk : Hid (SOks s00 xs) := Lib.hid HI.out.oks
      have HGr : Hid (Grow w wr) := Lib.hid HI.out.grow
      have HL : Hid (xs.length ≤ 60) := Lib.hid hlen60
      have HC : Hid (Calls Tryd.prog 8 #[.slice p3 xs.length c3] wr fun e w' => Grow wr w' ∧ ∃ p5 c5, e = .returned (.tuple #[.slice p5 xs.length c5, .bool true]) ∧ xs.length ≤ c5 ∧ c5 ≤ 9223372036854775807 ∧ SeenAt w' (.slice p5 xs.length c5) (sees s00 xs)) :=
        Lib.hid ((cyPlay_any wr _ xs HST.out (by omega) (fun x hx => by
            obtain ⟨j, hj⟩ := List.mem_iff_getElem?.1 hx
            have := (soks_get xs s00 j x HOk.out hj).2.1
            omega) (fun ys => ys = sees s00 xs) (fun w1 v1 _ hs1 => (play_send w1 v1 xs hs1 hlen60 HOk.out).mono (fun e w2 ⟨hg, vs, he, hS⟩ => ⟨hg, vs, _, he, sees_length _ _, hS, rfl⟩))).mono (fun e w2 ⟨hg, vs, ys, he, hyl, hS, hys⟩ => by
              subst hys
              obtain ⟨p5, c5, rfl, h1, h2⟩ := hS.slice
              rw [sees_length] at h1 he hS
              exact ⟨hg, p5, c5, he, h1, h2, hS⟩))
      clear HI hxi hlen60
      subst hend
      go_upto_region 21 with (go_at_call 8; refine HC.out.mono ?_; rintro e wp ⟨hGp, p5, c5, rfl, hc51, hc52, hSn⟩)
      have HI0 : Hid (Grow w wp ∧ StepsAt wp (.slice p3 xs.length c3) xs ∧ SeenAt wp (.slice p4 xs.length c4) (sees s00 xs) ∧ SeenAt wp (.slice p5 xs.length c5) (sees s00 xs)) := Lib.hid ⟨HGr.out.trans hGp, HST.out.grow hGp, HSE.out.grow hGp, hSn⟩
      clear hSn hGp HC HST HSE HGr
      go_wp2_with fail
      go_loopg [113] xs.length (fun k s113 wx => ∃ j : Nat, k + j = xs.length ∧ s113 = .int .i64 (j : Int) ∧ Hid (Grow w wx ∧ StepsAt wx (.slice p3 xs.length c3) xs ∧ SeenAt wx (.slice p4 xs.length c4) (sees s00 xs) ∧ SeenAt wx (.slice p5 xs.length c5) (sees s00 xs)))
      case atStart => exact ⟨0, by simp, rfl, HI0⟩
      case round =>
        clear HI0
        obtain ⟨j, hkj, rfl, HJ⟩ := hrel
        by_cases hjend : j = xs.length
        · have hne : ¬ (j < xs.length) := by omega
          go_wp2_with (go_at_call 14; refine (awake wr).mono ?_; rintro e w' ⟨rfl, hg⟩)
          go_ret
          exact ⟨rfl, HJ.out.1.trans hg⟩
        · have hjl : j < xs.length := by omega
          obtain ⟨X, hX⟩ : ∃ X, xs[j]? = some X := ⟨_, List.getElem?_eq_getElem hjl⟩
          obtain ⟨t, hok, hY, hbd⟩ := sees_get xs s00 j X HOk.out hX
          have hbd : t.off + t.buf.length ≤ 60000 := by have e : s00.off + s00.buf.length = 0 := rfl; have := HL.out; omega
          have hfa := sseen_facts t X hok hbd
          obtain ⟨xb, xo, xc, xd, hv, _, _, hxd, xcell, xcur, hxcur⟩ := RowAt.get (cs := stC) (size := 4) (fun _ _ => rfl) HJ.out.2.1 hX
          injection hv with hv1 hv2 hv3
          subst hv1
          subst hv3
          obtain ⟨yb, yo, yc, yd, hv, _, _, hyd, ycell, ycur, hycur⟩ := RowAt.get (cs := snC) (size := 5) (fun _ _ => rfl) HJ.out.2.2.1 hY
          injection hv with hv1 hv2y hv3
          subst hv1
          subst hv3
          obtain ⟨zb, zo, zc, zd, hv, _, _, hzd, zcell, zcur, hzcur⟩ := RowAt.get (cs := snC) (size := 5) (fun _ _ => rfl) HJ.out.2.2.2 hY
          injection hv with hv1 hv2z hv3
          subst hv1
          subst hv3
          clear hv2 hv2y hv2z
          obtain ⟨K, A, M, D⟩ := X
          obtain ⟨Y, hYe⟩ : ∃ Y, Y = sseen t ⟨K, A, M, D⟩ := ⟨_, rfl⟩
          rw [← hYe] at hfa hyd hzd ycell zcell
          obtain ⟨Yi, Yh, Yo, Yd, Yc⟩ := Y
          obtain ⟨hYc, hfa⟩ := hfa
          have hYc : Yc = 0 := hYc
          subst hYc
          have e2 : wr.cell? ⟨xb, xo + j * 4 + 2, none⟩ = some (.int .i64 (M : Int)) := xcell 2 _ rfl
          have f0 : wr.cell? ⟨yb, yo + j * 5, none⟩ = some (.bool Yi) := ycell 0 _ rfl
          have f1 : wr.cell? ⟨yb, yo + j * 5 + 1, none⟩ = some (.bool Yh) := ycell 1 _ rfl
          have f2 : wr.cell? ⟨yb, yo + j * 5 + 2, none⟩ = some (.int .i64 (Yo : Int)) := ycell 2 _ rfl
          have f3 : wr.cell? ⟨yb, yo + j * 5 + 3, none⟩ = some yd := ycell 3 _ rfl
          have f4 : wr.cell? ⟨yb, yo + j * 5 + 4, none⟩ = some (.int .i64 0) := ycell 4 _ rfl
          have g0 : wr.cell? ⟨zb, zo + j * 5, none⟩ = some (.bool Yi) := zcell 0 _ rfl
          have g1 : wr.cell? ⟨zb, zo + j * 5 + 1, none⟩ = some (.bool Yh) := zcell 1 _ rfl
          have g2 : wr.cell? ⟨zb, zo + j * 5 + 2, none⟩ = some (.int .i64 (Yo : Int)) := zcell 2 _ rfl
          have g3 : wr.cell? ⟨zb, zo + j * 5 + 3, none⟩ = some zd := zcell 3 _ rfl
          have g4 : wr.cell? ⟨zb, zo + j * 5 + 4, none⟩ = some (.int .i64 0) := zcell 4 _ rfl
          have hxlt : xb < wr.heap.size := (Array.getElem?_eq_some_iff.1 hxcur).1
          have hylt : yb < wr.heap.size := (Array.getElem?_eq_some_iff.1 hycur).1
          have hzlt : zb < wr.heap.size := (Array.getElem?_eq_some_iff.1 hzcur).1
          obtain ⟨yp, yq, rfl, hyq1, hyq2, _⟩ := id hyd
          obtain ⟨zp, zq, rfl, hzq1, hzq2, _⟩ := id hzd
          have hyq1 : Yd.length ≤ yq := hyq1
          have hzq1 : Yd.length ≤ zq := hzq1
          have hj60 : j ≤ 60 := by have := HL.out; omega
          have HYd := Lib.hid hyd
          have HZd := Lib.hid hzd
          have HFa := Lib.hid hfa
          clear hxd hyd hzd hfa hok hbd hYe xcell ycell zcell hxcur hycur hzcur xcur ycur zcur hX hY hjend
          go_upto_region 24 with fail
          obtain ⟨L, hL⟩ : ∃ L, L = Yd.length := ⟨_, rfl⟩
          rw [← hL] at f3 g3 hyq1 hzq1 HYd HZd HFa ⊢
          have hG9 : Grow wr (wr.alloc (.cells #[.bool Yi, .bool Yh, .int .i64 (Yo : Int), .slice yp L yq, .int .i64 0] 41)) := (Fr.refl _ _).alloc _
          have hb9 : Blk (wr.alloc (.cells #[.bool Yi, .bool Yh, .int .i64 (Yo : Int), .slice yp L yq, .int .i64 0] 41)) wr.heap.size #[.bool Yi, .bool Yh, .int .i64 (Yo : Int), .slice yp L yq, .int .i64 0] 41 := Blk.new wr _ _
          generalize (wr.alloc (.cells #[.bool Yi, .bool Yh, .int .i64 (Yo : Int), .slice yp L yq, .int .i64 0] 41)) = wa at *
          have HJ1 : Hid (Grow w wa ∧ StepsAt wa (.slice (some ⟨xb, xo, none⟩) xs.length c3) xs ∧ SeenAt wa (.slice (some ⟨yb, yo, none⟩) xs.length c4) (sees s00 xs) ∧ SeenAt wa (.slice (some ⟨zb, zo, none⟩) xs.length c5) (sees s00 xs)) := Lib.hid ⟨HJ.out.1.trans hG9, HJ.out.2.1.grow hG9, HJ.out.2.2.1.grow hG9, HJ.out.2.2.2.grow hG9⟩
          have hlq := hb9.lt
          have HS : Hid (∀ w', Grow wa w' → w'.cell? ⟨zb, zo + j * 5, none⟩ = some (.bool Yi) ∧ w'.cell? ⟨zb, zo + j * 5 + 1, none⟩ = some (.bool Yh) ∧ w'.cell? ⟨zb, zo + j * 5 + 2, none⟩ = some (.int .i64 (Yo : Int)) ∧ w'.cell? ⟨zb, zo + j * 5 + 3, none⟩ = some (.slice zp L zq) ∧ w'.cell? ⟨zb, zo + j * 5 + 4, none⟩ = some (.int .i64 0) ∧ w'.cell? ⟨wr.heap.size, 0, none⟩ = some (.bool Yi) ∧ w'.cell? ⟨wr.heap.size, 1, none⟩ = some (.bool Yh) ∧ w'.cell? ⟨wr.heap.size, 2, none⟩ = some (.int .i64 (Yo : Int)) ∧ w'.cell? ⟨wr.heap.size, 3, none⟩ = some (.slice yp L yq) ∧ w'.cell? ⟨xb, xo + j * 4 + 2, none⟩ = some (.int .i64 (M : Int))) :=
            Lib.hid (fun w' hg => by
              have hq := hg.blk hb9 (fun e => e)
              have hz := fun (o : Nat) => (World.cell?_of_block (w := wr) (w' := w') (a := ⟨zb, o, none⟩) ((hG9.trans hg).block zb hzlt (fun e => e)))
              have hx := (World.cell?_of_block (w := wr) (w' := w') (a := ⟨xb, xo + j * 4 + 2, none⟩) ((hG9.trans hg).block xb hxlt (fun e => e)))
              exact ⟨(hz _).trans g0, (hz _).trans g1, (hz _).trans g2, (hz _).trans g3, (hz _).trans g4, hq.cellAt 0 _ rfl, hq.cellAt 1 _ rfl, hq.cellAt 2 _ rfl, hq.cellAt 3 _ rfl, hx.trans e2⟩)
          have HYa : Hid (Rd wa (.slice yp L yq) Yd) := Lib.hid (HYd.out.keep (Grow.bytes hG9))
          have HZa : Hid (Rd wa (.slice zp L zq) Yd) := Lib.hid (HZd.out.keep (Grow.bytes hG9))
          have HLe := Lib.hid hL
          have hxla : xb < wa.heap.size := Nat.lt_of_lt_of_le hxlt hG9.size
          have hzla : zb < wa.heap.size := Nat.lt_of_lt_of_le hzlt hG9.size
          clear hb9 hG9 f0 f1 f2 f3 f4 g0 g1 g2 g3 g4 e2 hL HYd HZd
          have hjy : j < (sees s00 xs).length := by rw [sees_length]; exact hjl
          have j0 : (0 : Int) ≤ (j : Int) := by omega
          have j1 : (j : Int) < (xs.length : Int) := by omega
          obtain ⟨z0, z1, z2, z3, z4, q0, q1, q2, q3, m2⟩ := HS.out wa (Fr.refl _ _)
          obtain hYi | ⟨hYi, hYo, hYl, hYm⟩ := HFa.out
          · subst hYi
            go_quiet (fail)
            have hGd := drewN_grow wa nq
            generalize wa.drewN nq = wb at *
            clear z0 z1 z2 z3 z4 q0 q1 q2 q3 m2
            obtain ⟨z0, z1, z2, z3, z4, q0, q1, q2, q3, m2⟩ := HS.out wb hGd
            go_wp2_with fail
            go_quiet (fail)
            have hGd2 := drewN_grow wb nq
            generalize wb.drewN nq = wb2 at *
            go_wp2_with fail
            go_roundg (gk - 1)
            case measure => omega
            case rel =>
              have hGe : Grow wa wb2 := (by repeat (first | exact Fr.refl _ _ | assumption | apply Fr.drew | apply Fr.alloc | refine Fr.trans ?_ (by assumption)))
              exact ⟨j + 1, by omega, by go_num, Lib.hid ⟨HJ1.out.1.trans hGe, HJ1.out.2.1.grow hGe, HJ1.out.2.2.1.grow hGe, HJ1.out.2.2.2.grow hGe⟩⟩
          · subst hYi
            have HYl : Hid (Yd.length = L) := Lib.hid HLe.out.symm
            have hYo : Yo ≤ 60000 := hYo
            have hYl : L ≤ 60000 := hYl
            obtain ⟨T, hT⟩ : ∃ T, T = 1 + vlen Yo + vlen L + L := ⟨_, rfl⟩
            have hTM : T ≤ M := by
              have h : 1 + vlen Yo + vlen L + L ≤ M := hYm
              omega
            have H18 : Hid (∀ w', Grow wa w' → Calls Tryd.prog 18 #[.int .i64 (Yo : Int), .slice zp L zq] w' fun e w2 => Grow w' w2 ∧ ∃ q d, e = .returned (.slice q T d)) :=
              Lib.hid (fun w' hg => by rw [hT]; exact crypto_any w' Yo L zp zq Yd HYl.out (HZa.out.keep (Grow.bytes hg)) (by omega) (by omega))
            have HS4 : Hid (∀ w', Grow wa w' → w'.cell? ⟨zb, zo + j * 5 + 2, none⟩ = some (.int .i64 (Yo : Int)) ∧ w'.cell? ⟨zb, zo + j * 5 + 3, none⟩ = some (.slice zp L zq) ∧ w'.cell? ⟨wr.heap.size, 0, none⟩ = some (.bool true) ∧ w'.cell? ⟨xb, xo + j * 4 + 2, none⟩ = some (.int .i64 (M : Int))) := Lib.hid (fun w' hg => by have hk := HS.out w' hg; exact ⟨hk.2.2.1, hk.2.2.2.1, hk.2.2.2.2.2.1, hk.2.2.2.2.2.2.2.2.2⟩)
            clear hT hYm
            have hTn := Nat.not_lt.2 hTM
            go_quiet (first | (go_at_call 11; refine Calls.quiet_of_same (flip_world (equal_same _ _ _ Yd HZa.out HYa.out))))
            have hGd := drewN_grow wa nq
            generalize wa.drewN nq = wb at *
            clear z0 z1 z2 z3 z4 q0 q1 q2 q3 m2
            obtain ⟨z0, z1, z2, z3, z4, q0, q1, q2, q3, m2⟩ := HS.out wb hGd
            go_upto_region 26 with fail
            go_region_held3 (fun w' => w'.cell? ⟨zb, zo + j * 5 + 2, none⟩ = some (.int .i64 (Yo : Int)) ∧ w'.cell? ⟨zb, zo + j * 5 + 3, none⟩ = some (.slice zp L zq) ∧ w'.cell? ⟨wr.heap.size, 0, none⟩ = some (.bool true) ∧ w'.cell? ⟨xb, xo + j * 4 + 2, none⟩ = some (.int .i64 (M : Int)))
              (first | exact HS4.out _ (by repeat (first | exact Fr.refl _ _ | assumption | apply Fr.drew | apply Fr.alloc | refine Fr.trans ?_ (by assumption))))
              (first | (go_at_call 18; refine (H18.out _ (by repeat (first | exact Fr.refl _ _ | assumption | apply Fr.drew | apply Fr.alloc | refine Fr.trans ?_ (by assumption)))).mono ?_; rintro e w7 ⟨hG7, q7, d7, rfl⟩))
            go_wp2_with fail
            go_roundg (gk - 1)
            case measure => omega
            case rel =>
              have hGe : Grow wa w7 := (by repeat (first | exact Fr.refl _ _ | assumption | apply Fr.drew | apply Fr.alloc | refine Fr.trans ?_ (by assumption)))
              exact ⟨j + 1, by omega, by go_num, Lib.hid ⟨HJ1.out.1.trans hGe, HJ1.out.2.1.grow hGe, HJ1.out.2.2.1.grow hGe, HJ1.out.2.2.2.grow hGe⟩⟩
    · have him : i < m := by omega
      obtain ⟨X, hX⟩ : ∃ X, ops[i]? = some X := ⟨_, List.getElem?_eq_getElem (by omega)⟩
      obtain ⟨p', c', hv, _, _, hall⟩ := HO.out.grow HI.out.grow
      injection hv with q1 q2 q3
      subst q1
      subst q3
      obtain ⟨k1, k2, k3, b, o, d, rfl, hb, hd, e0, e1, e2, e3⟩ := hall i X hX
      obtain ⟨K, M, A, D⟩ := X
      have e0 : wr.cell? ⟨b, o + i * 4, none⟩ = some (.int .u8 (K : Int)) := e0
      have e1 : wr.cell? ⟨b, o + i * 4 + 1, none⟩ = some (.int .u8 (M : Int)) := e1
      have e2 : wr.cell? ⟨b, o + i * 4 + 2, none⟩ = some (.int .u16 (A : Int)) := e2
      have k1 : K < 256 := k1
      have k2 : M < 256 := k2
      have k3 : A < 65536 := k3
      obtain ⟨pd, cd, rfl, hdl, hdc, _⟩ := id hd
      have hdl : D.length ≤ cd := hdl
      have HX := Lib.hid hX
      have HD : Hid (RdC wr (.slice pd D.length cd) D) := Lib.hid hd
      have hi60 : xs.length ≤ 60 := by omega
      have HB := Lib.hid (HI.out.bound hi60)
      clear hall hX hd q2 hend
      by_cases hK : K % 3 = 0
      · have hK3 : (K : Int) % 3 = 0 := by omega
        go_upto_region 10 with fail
        have hGa : Grow wr (wr.alloc (.cells #[.int .u8 (K : Int), .int .u8 (M : Int), .int .u16 (A : Int), .slice pd D.length cd] 28)) := (Fr.refl _ _).alloc _
        have hBa : Blk (wr.alloc (.cells #[.int .u8 (K : Int), .int .u8 (M : Int), .int .u16 (A : Int), .slice pd D.length cd] 28)) wr.heap.size #[.int .u8 (K : Int), .int .u8 (M : Int), .int .u16 (A : Int), .slice pd D.length cd] 28 := Blk.new wr _ _
        generalize (wr.alloc (.cells #[.int .u8 (K : Int), .int .u8 (M : Int), .int .u16 (A : Int), .slice pd D.length cd] 28)) = wa at *
        have a3 : wa.cell? ⟨wr.heap.size, 3, none⟩ = some (.slice pd D.length cd) := hBa.cellAt 3 _ rfl
        have hlta := hBa.lt
        have HGa := Lib.hid hGa
        have HDw := Lib.hid (HD.out.grow hGa)
        clear hGa e0 e1 e2 e3 hBa
        obtain ⟨DD, hDD⟩ : ∃ DD, DD = D.take 400 := ⟨_, rfl⟩
        have HT4 : Hid (DD.length ≤ 400) := Lib.hid (by rw [hDD, List.length_take]; exact Nat.min_le_left _ _)
        have HDD := Lib.hid hDD
        clear hDD
        go_cut [8] from 32 to 44 (fun s8 wx => ∃ (xb : Nat) (dv : Value), s8 = .pointer (some ⟨xb, 0, none⟩) ∧ Hid (Grow wr wx ∧ wr.heap.size < xb ∧ Blk wx xb #[.int .i64 3, .int .i64 0, .int .i64 0, dv] 30 ∧ OwnB wx dv DD ∧ ∀ k, dv.ownBlock = some k → wr.heap.size ≤ k ∧ k < wx.heap.size))
        case first =>
          rcases Nat.lt_or_ge 400 D.length with d | d
          · have HDa : Hid (RdC wa (.slice pd 400 cd) DD) := Lib.hid (by rw [HDD.out]; exact HDw.out.take 400 (by omega))
            have HT : Hid (([] ++ DD).length = 400) := Lib.hid (by rw [HDD.out, List.nil_append, List.length_take]; exact Nat.min_eq_left (by omega))
            go_wp2_with (at_builtin; refine wpList_append_run _ rfl _ _ 26 rfl (.slice (some ⟨wa.heap.size, 0, none⟩) 0 0) (.slice pd 400 cd) rfl rfl (run_appendC (l := []) (m := DD) ⟨rfl, _, 0, rfl, Nat.le_refl _, by omega, .inl rfl⟩ (HDa.out.grow ((Fr.refl _ _).alloc _)) (by simp only [List.length_nil]; have := HT4.out; omega)) ?_; rintro dv w3 ⟨hO3, hF3, hf3⟩; obtain ⟨p3, c3, rfl, hO3⟩ := hO3.int (n := 400) HT.out)
            go_meet
            have hG3 : Grow wr w3 := Grow.trans' (HGa.out.alloc _) hF3 (fun k hk => by have e : wa.heap.size = k := Option.some.inj hk; have := HGa.out.size; omega)
            have hsz3 := hF3.size
            have h2 : wa.heap.size < (wa.alloc (.cells #[] 5)).heap.size := by simp
            have h1 := HGa.out.size
            have hb3 : ∀ k, (Value.slice p3 400 c3).ownBlock = some k → wr.heap.size ≤ k ∧ k < w3.heap.size := fun k hk => by
              rcases hf3 k hk with e | e
              · have e1 : wa.heap.size = k := Option.some.inj e
                omega
              · exact ⟨by omega, e.2⟩
            rw [List.nil_append] at hO3
            refine ⟨_, _, rfl, Lib.hid ⟨hG3.alloc _, by omega, Blk.new w3 _ _, hO3.keep (fun k hk => Below.heap_alloc _ _ _ (hb3 k hk).2), fun k hk => ⟨(hb3 k hk).1, Nat.lt_of_lt_of_le (hb3 k hk).2 ((Fr.refl (fun _ => False) w3).alloc _).size⟩⟩⟩
          · have HDa : Hid (RdC wa (.slice pd D.length cd) DD) := Lib.hid (by rw [HDD.out, List.take_of_length_le d]; exact HDw.out)
            have HT : Hid (([] ++ DD).length = D.length) := Lib.hid (by rw [HDD.out, List.take_of_length_le d]; rfl)
            go_wp2_with (at_builtin; refine wpList_append_run _ rfl _ _ 26 rfl (.slice (some ⟨wa.heap.size, 0, none⟩) 0 0) (.slice pd D.length cd) rfl rfl (run_appendC (l := []) (m := DD) ⟨rfl, _, 0, rfl, Nat.le_refl _, by omega, .inl rfl⟩ (HDa.out.grow ((Fr.refl _ _).alloc _)) (by simp only [List.length_nil]; have := HT4.out; omega)) ?_; rintro dv w3 ⟨hO3, hF3, hf3⟩; obtain ⟨p3, c3, rfl, hO3⟩ := hO3.int (n := D.length) HT.out)
            go_meet
            have hG3 : Grow wr w3 := Grow.trans' (HGa.out.alloc _) hF3 (fun k hk => by have e : wa.heap.size = k := Option.some.inj hk; have := HGa.out.size; omega)
            have hsz3 := hF3.size
            have h2 : wa.heap.size < (wa.alloc (.cells #[] 5)).heap.size := by simp
            have h1 := HGa.out.size
            have hb3 : ∀ k, (Value.slice p3 D.length c3).ownBlock = some k → wr.heap.size ≤ k ∧ k < w3.heap.size := fun k hk => by
              rcases hf3 k hk with e | e
              · have e1 : wa.heap.size = k := Option.some.inj e
                omega
              · exact ⟨by omega, e.2⟩
            rw [List.nil_append] at hO3
            refine ⟨_, _, rfl, Lib.hid ⟨hG3.alloc _, by omega, Blk.new w3 _ _, hO3.keep (fun k hk => Below.heap_alloc _ _ _ (hb3 k hk).2), fun k hk => ⟨(hb3 k hk).1, Nat.lt_of_lt_of_le (hb3 k hk).2 ((Fr.refl (fun _ => False) w3).alloc _).size⟩⟩⟩
        case rest =>
        obtain ⟨xb, dv, rfl, HC⟩ := hcut
        obtain ⟨px, cx, rfl, hOx⟩ := HC.out.2.2.2.1.int (n := DD.length) rfl
        have HI1 := Lib.hid (HI.out.grow' HC.out.1)
        obtain ⟨pw, cw, hwv, hOw⟩ := HI1.out.own.int rfl
        subst hwv
        have HOx := Lib.hid hOx
        have HOw := Lib.hid hOw
        obtain ⟨s, hs⟩ : ∃ s, s = xs.foldl snext s00 := ⟨_, rfl⟩
        rw [← hs] at hOw HOw HI1 HB
        have c4 : wc.cell? ⟨bS, 4, none⟩ = some (.slice pw s.buf.length cw) := by have := HI1.out.blk.cellAt 4 _ rfl; exact this
        have x3 : wc.cell? ⟨xb, 3, none⟩ = some (.slice px DD.length cx) := HC.out.2.2.1.cellAt 3 _ rfl
        have hltb := HI1.out.blk.lt
        have hltx := HC.out.2.2.1.lt
        have HWr : Hid (∀ k, (Value.slice pw s.buf.length cw).ownBlock = some k → k < wr.heap.size) := Lib.hid (fun k hk => (HI.out.hw k (by rw [← hs]; exact hk)).2.1)
        have Hs := Lib.hid hs
        clear hOx hOw a3 hlta hs
        have HC2 := HC
        have HXB := Lib.hid HC.out.2.1
        clear HC
        go_upto_region 11 with fail
        have hb4 := HI1.out.blk
        have hfrb := hb4.free
        have HOwd : Hid (OwnB wc.drew (.slice pw s.buf.length cw) s.buf) := Lib.hid (HOw.out.keep (fun _ _ => rfl))
        have HOxd : Hid (OwnB wc.drew (.slice px DD.length cx) DD) := Lib.hid (HOx.out.keep (fun _ _ => rfl))
        have hlen6 : s.buf.length + DD.length ≤ 1000000 := by have := HB.out; have := HT4.out; omega
        have HLen6 := Lib.hid hlen6
        have HB4 := Lib.hid hb4.drew
        clear hlen6 hb4
        go_cut [] from 45 to 54 (fun wx => ∃ (wv' : Value), Hid (LawMid w wx bS wv' u3 u4 xs ⟨3, 0, 0, DD⟩ ∧ Blk wx xb #[.int .i64 3, .int .i64 0, .int .i64 0, .slice px DD.length cx] 30 ∧ Rd wx (.slice px DD.length cx) DD ∧ (∀ k, (Value.slice px DD.length cx).ownBlock = some k → k < wx.heap.size ∧ wv'.ownBlock ≠ some k) ∧ wc.heap.size ≤ wx.heap.size))
        case first =>
          go_region_law (refine step_append_run (by go_simp) _ _ 26 (by rfl) (.slice pw s.buf.length cw) (.slice px DD.length cx) (by rfl) (by rfl) (appendB2 (w := wc.drew) HOwd.out HOxd.out.rd HLen6.out _) ?_; rintro wv' w4 ⟨hO4, hF4, hf4⟩; obtain ⟨pv, cv, rfl, hO4⟩ := hO4.int (n := (s.buf ++ DD).length) rfl; have hB4 := hF4.blk HB4.out (fun e => (HI1.out.hw _ e).2.2 rfl); have c44 : w4.cell? ⟨bS, 4, none⟩ = some (.slice pw s.buf.length cw) := hB4.cellAt 4 _ rfl; have hlt4 := hB4.lt; have hfr4 := hB4.free)
          all_goals
            go_wp2_with fail
            go_meet
            have hO4' : OwnB w4 (.slice pv (s.buf.length + DD.length) cv) (s.buf ++ DD) := by rw [← List.length_append]; exact hO4
            have hsz4 := hF4.size
            have hszd : wc.drew.heap.size = wc.heap.size := rfl
            have hbl : bS < wc.heap.size := hltb
            have hwfr : ∀ k, (Value.slice pv (s.buf.length + DD.length) cv).ownBlock = some k → (Value.slice pw s.buf.length cw).ownBlock = some k ∨ (wc.heap.size ≤ k ∧ k < w4.heap.size) := by
              have h := hf4
              rw [List.length_append] at h
              exact h
            have hF5 : Fr (fun k => k = bS ∨ (Value.slice pw s.buf.length cw).ownBlock = some k) wc.drew (w4.setCell ⟨bS, 4, none⟩ (.slice pv (s.buf.length + DD.length) cv)) := (hF4.mono (fun k _ hk => .inr hk)).setCell _ _ (.inl (.inl rfl))
            have hsn : snext (xs.foldl snext s00) ⟨3, 0, 0, DD⟩ = ⟨s.off, s.buf ++ DD⟩ := by rw [← Hs.out]; exact if_pos rfl
            have hwb : ∀ k, (Value.slice pw s.buf.length cw).ownBlock = some k → k < wc.heap.size ∧ k ≠ bS := fun k hk => (HI1.out.hw k hk).2
            refine ⟨_, Lib.hid ⟨(HI1.out.grow' ((Fr.refl _ wc).drew)).mid hF5 ⟨by show 0 ≤ 1000; omega, by have := HT4.out; show DD.length ≤ 1000; omega, .inl rfl⟩ (by rw [hsn]; have := hB4.set 4 (.slice pv (s.buf.length + DD.length) cv); rw [← Hs.out] at this; exact this) (by
              rw [hsn]
              refine hO4'.keep (fun k hk => Below.heap_setCell _ _ _ _ (fun e => ?_))
              have e : k = bS := e
              rcases hwfr k hk with e1 | e1
              · exact (hwb k e1).2 e
              · omega) (fun k hk => (hwfr k hk).imp id (fun e => ⟨e.1, by simpa using e.2⟩)), ?_, ?_, fun k hk => ?_, ?_⟩⟩
            · refine hF5.blk HC2.out.2.2.1 ?_
              rintro (e | e)
              · exact absurd (e ▸ HC2.out.2.2.1 : Blk wc bS _ 30) (fun h => absurd (HI1.out.blk.unique h).2 (by decide))
              · have := HWr.out _ e; have := HC2.out.2.1; omega
            · refine HOxd.out.rd.avoid hF5 ?_
              rintro k (e | e) hbk hk
              · subst e; exact (HB4.out.noBytes (by decide) hbk).elim
              · have := HWr.out k e; have := (HC2.out.2.2.2.2 k hk).1; omega
            · have h1 := HC2.out.2.2.2.2 k hk
              refine ⟨by simp; omega, fun hk2 => ?_⟩
              rcases hwfr k hk2 with e | e
              · have := HWr.out k e; omega
              · omega
            · simp; omega
        case rest =>
        obtain ⟨wv', HM⟩ := hcut
        rename_i wcE
        clear HC2 HI1 HOx HOw HB4
        clear c4 x3 hltb hltx hfrb HOwd HOxd HLen6
        obtain ⟨pv, cv, hwv, hOv⟩ := HM.out.1.own.int rfl
        subst hwv
        obtain ⟨B, hB⟩ : ∃ B, B = (snext (xs.foldl snext s00) ⟨3, 0, 0, DD⟩).buf := ⟨_, rfl⟩
        have HY : Hid (sseen (xs.foldl snext s00) ⟨3, 0, 0, DD⟩ = ⟨false, decide (0 < B.length), 0, [], 0⟩) := Lib.hid (by rw [hB]; exact if_pos rfl)
        have HBB := Lib.hid hB
        have HM1 := Lib.hid HM.out.1
        rw [← hB] at HM1 hOv
        have b4 : wc.cell? ⟨bS, 4, none⟩ = some (.slice pv B.length cv) := by have := HM1.out.blk.cellAt 4 _ rfl; exact this
        have hx := HM.out.2.1
        have x0 : wc.cell? ⟨xb, 0, none⟩ = some (.int .i64 3) := hx.cellAt 0 _ rfl
        have x1 : wc.cell? ⟨xb, 1, none⟩ = some (.int .i64 0) := hx.cellAt 1 _ rfl
        have x2 : wc.cell? ⟨xb, 2, none⟩ = some (.int .i64 0) := hx.cellAt 2 _ rfl
        have x3 : wc.cell? ⟨xb, 3, none⟩ = some (.slice px DD.length cx) := hx.cellAt 3 _ rfl
        have hlb := HM1.out.blk.lt
        have hlx := hx.lt
        have HN3 : Hid (∀ k, u3.ownBlock = some k → k < wc.heap.size) := Lib.hid (fun k hk => HM1.out.steps.row.lt hk)
        have HN4 : Hid (∀ k, u4.ownBlock = some k → k < wc.heap.size) := Lib.hid (fun k hk => HM1.out.seen.row.lt hk)
        have hx3 : u3.ownBlock ≠ some xb := fun e => by have := HI.out.steps.row.lt e; have := HXB.out; omega
        have hx4 : u4.ownBlock ≠ some xb := fun e => by have := HI.out.seen.row.lt e; have := HXB.out; omega
        have hb3 : u3.ownBlock ≠ some bS := fun e => absurd (HM1.out.steps.type e HM1.out.blk) (by decide)
        have hb4 : u4.ownBlock ≠ some bS := fun e => absurd (HM1.out.seen.type e HM1.out.blk) (by decide)
        have HS : Hid (∀ w', Fr (fun k => u3.ownBlock = some k ∨ u4.ownBlock = some k ∨ wc.heap.size ≤ k) wc w' → w'.cell? ⟨xb, 0, none⟩ = some (.int .i64 3) ∧ w'.cell? ⟨xb, 1, none⟩ = some (.int .i64 0) ∧ w'.cell? ⟨xb, 2, none⟩ = some (.int .i64 0) ∧ w'.cell? ⟨xb, 3, none⟩ = some (.slice px DD.length cx) ∧ w'.cell? ⟨bS, 4, none⟩ = some (.slice pv B.length cv)) :=
          Lib.hid (fun w' hg => by
            have h1 := hg.block xb hlx (by rintro (e | e | e); exact hx3 e; exact hx4 e; omega)
            have h2 := hg.block bS hlb (by rintro (e | e | e); exact hb3 e; exact hb4 e; omega)
            exact ⟨(World.cell?_of_block (w := wc) (a := ⟨xb, 0, none⟩) h1).trans x0, (World.cell?_of_block (w := wc) (a := ⟨xb, 1, none⟩) h1).trans x1, (World.cell?_of_block (w := wc) (a := ⟨xb, 2, none⟩) h1).trans x2, (World.cell?_of_block (w := wc) (a := ⟨xb, 3, none⟩) h1).trans x3, (World.cell?_of_block (w := wc) (a := ⟨bS, 4, none⟩) h2).trans b4⟩)
        have HL3 : Hid (xs.length ≤ 1000000) := Lib.hid (by omega)
        have HRx : Hid (Rd wc (.slice px DD.length cx) DD) := Lib.hid HM.out.2.2.1
        have HAx : Hid (Av wc.heap.size (.slice pv B.length cv) (.slice px DD.length cx)) := Lib.hid (fun k hk => by have h := HM.out.2.2.2.1 k hk; rw [← hB] at h; exact h)
        clear hx x0 x1 x2 x3 b4 hOv hB hx3 hx4 hb3 hb4
        go_upto_region 12 with fail
        obtain ⟨x0, x1, x2, x3, b4⟩ := HS.out wc (Fr.refl _ _)
        go_region_held3 (fun w' => w'.cell? ⟨xb, 0, none⟩ = some (.int .i64 3) ∧ w'.cell? ⟨xb, 1, none⟩ = some (.int .i64 0) ∧ w'.cell? ⟨xb, 2, none⟩ = some (.int .i64 0) ∧ w'.cell? ⟨xb, 3, none⟩ = some (.slice px DD.length cx) ∧ w'.cell? ⟨bS, 4, none⟩ = some (.slice pv B.length cv))
          (first | exact HS.out _ (by repeat (first | exact Fr.refl _ _ | assumption | exact Grow.to (by assumption) | apply Fr.drew | apply Fr.alloc | refine Fr.trans ?_ (by assumption))))
          (first
            | (refine step_append_run (by go_simp) _ _ 24 (by rfl) u3 _ (by rfl) (by rfl) (layStep HM1.out HRx.out HAx.out HL3.out (by repeat (first | exact Fr.refl _ _ | assumption | apply Fr.drew | apply Fr.alloc | refine Fr.trans ?_ (by assumption))) (by repeat (first | (refine Blk.newAt _ _ _ _ ?_; simp; done) | (refine hK7 _ _ _ (by first | omega | (simp; done) | (simp; omega)) ?_) | apply Blk.drew | apply Blk.alloc))) ?_; rintro v7 w7 ⟨hL7, hK7⟩; have hF7 := hL7.fr)
            | (refine step_append_run (by go_simp) _ _ 36 (by rfl) u4 _ (by rfl) (by rfl) (laySeen (d := .slice none 0 0) HM1.out hL7 HY.out ⟨none, 0, rfl, Nat.le_refl _, by omega, fun h => absurd rfl h⟩ (Av.nil _ _ _ _) HL3.out (by repeat (first | exact Fr.refl _ _ | assumption | apply Fr.drew | apply Fr.alloc | refine Fr.trans ?_ (by assumption))) (by repeat (first | (refine Blk.newAt _ _ _ _ ?_; simp; done) | (refine hK7 _ _ _ (by first | omega | (simp; done) | (simp; omega)) ?_) | apply Blk.drew | apply Blk.alloc))) ?_; rintro v8 w8 ⟨hL8, hF8⟩; have HL8 := Lib.hid hL8; clear hL8))
        all_goals
          clear hL7 hK7 hF7 hF8
          go_wp2_with fail
          go_roundg (gk - 1)
          case measure => omega
          case rel => exact ⟨i + 1, xs ++ [⟨3, 0, 0, DD⟩], _, by omega, by go_num, by simp; omega, HL8⟩
      · have hK3 : ¬ (K : Int) % 3 = 0 := by omega
        go_upto_region 13 with fail
        clear hK3 hK
        have hGa : Grow wr (wr.alloc (.cells #[.int .u8 (K : Int), .int .u8 (M : Int), .int .u16 (A : Int), .slice pd D.length cd] 28)) := (Fr.refl _ _).alloc _
        have hBa : Blk (wr.alloc (.cells #[.int .u8 (K : Int), .int .u8 (M : Int), .int .u16 (A : Int), .slice pd D.length cd] 28)) wr.heap.size #[.int .u8 (K : Int), .int .u8 (M : Int), .int .u16 (A : Int), .slice pd D.length cd] 28 := Blk.new wr _ _
        generalize (wr.alloc (.cells #[.int .u8 (K : Int), .int .u8 (M : Int), .int .u16 (A : Int), .slice pd D.length cd] 28)) = wa at *
        have a1 : wa.cell? ⟨wr.heap.size, 1, none⟩ = some (.int .u8 (M : Int)) := hBa.cellAt 1 _ rfl
        have hlta := hBa.lt
        have HI1 := Lib.hid (HI.out.grow' hGa)
        clear hGa e0 e1 e2 e3 hBa
        obtain ⟨pw, cw, hwv, hOw⟩ := HI1.out.own.int rfl
        subst hwv
        have HOw := Lib.hid hOw
        obtain ⟨s, hs⟩ : ∃ s, s = xs.foldl snext s00 := ⟨_, rfl⟩
        rw [← hs] at hOw HOw HI1 HB
        have c4 : wa.cell? ⟨bS, 4, none⟩ = some (.slice pw s.buf.length cw) := by have := HI1.out.blk.cellAt 4 _ rfl; exact this
        have hltb := HI1.out.blk.lt
        have Hs := Lib.hid hs
        clear hOw hs
        by_cases hz : s.buf.length = 0
        · rw [hz] at c4
          go_wp2_with fail
          go_roundg (gk - 1)
          case measure => omega
          case rel => exact ⟨i + 1, xs, _, by omega, by go_num, by omega, HI1⟩
        · have hpos : 0 < s.buf.length := Nat.pos_of_ne_zero hz
          clear hz
          go_upto_region 15 with fail
          have hG9 : Grow wa (wa.alloc (.cells #[.int .i64 4, .int .i64 0, .int .i64 (12 + (M : Int)), .slice none 0 0] 30)) := (Fr.refl _ _).alloc _
          have hb9 : Blk (wa.alloc (.cells #[.int .i64 4, .int .i64 0, .int .i64 (12 + (M : Int)), .slice none 0 0] 30)) wa.heap.size #[.int .i64 4, .int .i64 0, .int .i64 (12 + (M : Int)), .slice none 0 0] 30 := Blk.new wa _ _
          generalize (wa.alloc (.cells #[.int .i64 4, .int .i64 0, .int .i64 (12 + (M : Int)), .slice none 0 0] 30)) = wb at *
          have q2 : wb.cell? ⟨wa.heap.size, 2, none⟩ = some (.int .i64 (12 + (M : Int))) := hb9.cellAt 2 _ rfl
          have hlq := hb9.lt
          obtain ⟨k, hk4⟩ : ∃ k, k = snum s ⟨4, 0, 12 + M, []⟩ := ⟨_, rfl⟩
          have hk4' : min (room s.off (12 + M)) s.buf.length = k := hk4.symm
          have hkpos : 0 < k := by
            have hv : vlen s.off ≤ 4 := by have := HB.out; unfold vlen; split; omega; split; omega; split <;> omega
            have hr : 6 ≤ room s.off (12 + M) := by unfold room; split; omega; split <;> omega
            omega
          have HI2 := Lib.hid (HI1.out.grow' hG9)
          have HPop : Hid (Calls Tryd.prog 19 #[pt bS, .int .i64 (12 + (M : Int))] wb fun e w' => ∃ dv wv', e = .returned (.tuple #[.int .i64 (s.off : Int), dv]) ∧ OwnB w' dv (s.buf.take k) ∧ (∀ j, dv.ownBlock = some j → wb.heap.size ≤ j ∧ j < w'.heap.size) ∧ Blk w' bS (cyS wv' (s.off + k)) 35 ∧ OwnB w' wv' (s.buf.drop k) ∧ wv'.ownBlock = (Value.slice pw s.buf.length cw).ownBlock ∧ Fr (fun j => j = bS) wb w') :=
            Lib.hid (by
              have := cypop_any wb bS s.off (12 + M) k (.slice pw s.buf.length cw) s.buf (by have h := HI2.out.blk; rw [← Hs.out] at h; exact h) (HOw.out.keep (fun j hj => hG9.block j (HI1.out.hw j hj).2.1 (fun e => e))) (by omega) (by omega) (by have := HB.out; omega) hk4' (fun j hj => (HI2.out.hw j hj).2)
              simpa using this)
          have HB9 := Lib.hid hb9
          have HXB : Hid (wr.heap.size ≤ wa.heap.size) := Lib.hid (by omega)
          have Hk := Lib.hid hk4
          have Hkp := Lib.hid hkpos
          have Hkl : Hid ((s.buf.take k).length = k) := Lib.hid (by rw [List.length_take]; omega)
          clear hb9 hk4 hk4' hkpos hpos c4 a1
          go_cut [10, 11] from 32 to 86 (fun s10 s11 wx => s10 = .int .i64 (s.off : Int) ∧ ∃ (px : Option Addr) (cx : Nat) (wv' : Value), s11 = .slice px k cx ∧ Hid (LawMid w wx bS wv' u3 u4 xs ⟨4, 0, 12 + M, []⟩ ∧ Blk wx wa.heap.size #[.int .i64 4, .int .i64 0, .int .i64 (12 + (M : Int)), .slice none 0 0] 30 ∧ Rd wx s11 (s.buf.take k) ∧ Av wx.heap.size wv' s11))
          case first =>
            go_wp2_with (go_at_call 19; refine HPop.out.mono ?_; rintro e w3 ⟨dv, wv', rfl, hD3, hd3, hB3, hO3, he3, hF3⟩; obtain ⟨px, cx, rfl, hD3⟩ := hD3.int (n := k) Hkl.out)
            go_meet
            have hsn : snext (xs.foldl snext s00) ⟨4, 0, 12 + M, []⟩ = ⟨s.off + k, s.buf.drop k⟩ := by rw [← Hs.out, Hk.out]; exact if_neg (show ¬ ((4 : Nat) = 3) by decide)
            have hsz := hF3.size
            refine ⟨rfl, px, cx, wv', rfl, Lib.hid ⟨HI2.out.mid (hF3.mono (fun j _ e => .inl e)) ⟨by show 12 + M ≤ 1000; omega, by show 0 ≤ 1000; omega, .inr ⟨rfl, by rw [← Hs.out, ← Hk.out]; exact Hkp.out⟩⟩ (by rw [hsn]; exact hB3) (by rw [hsn]; exact hO3) (fun j hj => .inl (he3 ▸ hj)), ?_, hD3.rd, fun j hj => ⟨(hd3 j hj).2, fun hj2 => ?_⟩⟩⟩
            · exact hF3.blk HB9.out (fun e => absurd (e ▸ HB9.out : Blk wb bS _ 30) (fun h => absurd (HI2.out.blk.unique h).2 (by decide)))
            · have h1 := (hd3 j hj).1
              have h2 := (HI2.out.hw j (he3 ▸ hj2)).2.1
              omega
          case rest =>
          obtain ⟨rfl, px, cx, wv', rfl, HM⟩ := hcut
          clear HI1 HI2 HPop q2 hlq HOw HB9
          obtain ⟨pv, cv, hwv, hOv⟩ := HM.out.1.own.int rfl
          subst hwv
          obtain ⟨B, hB⟩ : ∃ B, B = (snext (xs.foldl snext s00) ⟨4, 0, 12 + M, []⟩).buf := ⟨_, rfl⟩
          have HY : Hid (sseen (xs.foldl snext s00) ⟨4, 0, 12 + M, []⟩ = ⟨true, decide (0 < B.length), s.off, s.buf.take k, 0⟩) := Lib.hid (by rw [hB, Hk.out, Hs.out]; exact if_neg (show ¬ ((4 : Nat) = 3) by decide))
          have HM1 := Lib.hid HM.out.1
          rw [← hB] at HM1 hOv
          have b4 : wc.cell? ⟨bS, 4, none⟩ = some (.slice pv B.length cv) := by have := HM1.out.blk.cellAt 4 _ rfl; exact this
          have hx := HM.out.2.1
          have x0 : wc.cell? ⟨wa.heap.size, 0, none⟩ = some (.int .i64 4) := hx.cellAt 0 _ rfl
          have x1 : wc.cell? ⟨wa.heap.size, 1, none⟩ = some (.int .i64 0) := hx.cellAt 1 _ rfl
          have x2 : wc.cell? ⟨wa.heap.size, 2, none⟩ = some (.int .i64 (12 + (M : Int))) := hx.cellAt 2 _ rfl
          have x3 : wc.cell? ⟨wa.heap.size, 3, none⟩ = some (.slice none 0 0) := hx.cellAt 3 _ rfl
          have hlb := HM1.out.blk.lt
          have hlx := hx.lt
          have hx3 : u3.ownBlock ≠ some wa.heap.size := fun e => by have := HI.out.steps.row.lt e; have := HXB.out; omega
          have hx4 : u4.ownBlock ≠ some wa.heap.size := fun e => by have := HI.out.seen.row.lt e; have := HXB.out; omega
          have hb3 : u3.ownBlock ≠ some bS := fun e => absurd (HM1.out.steps.type e HM1.out.blk) (by decide)
          have hb4 : u4.ownBlock ≠ some bS := fun e => absurd (HM1.out.seen.type e HM1.out.blk) (by decide)
          have HS : Hid (∀ w', Fr (fun k => u3.ownBlock = some k ∨ u4.ownBlock = some k ∨ wc.heap.size ≤ k) wc w' → w'.cell? ⟨wa.heap.size, 0, none⟩ = some (.int .i64 4) ∧ w'.cell? ⟨wa.heap.size, 1, none⟩ = some (.int .i64 0) ∧ w'.cell? ⟨wa.heap.size, 2, none⟩ = some (.int .i64 (12 + (M : Int))) ∧ w'.cell? ⟨wa.heap.size, 3, none⟩ = some (.slice none 0 0) ∧ w'.cell? ⟨bS, 4, none⟩ = some (.slice pv B.length cv)) :=
            Lib.hid (fun w' hg => by
              have h1 := hg.block wa.heap.size hlx (by rintro (e | e | e); exact hx3 e; exact hx4 e; omega)
              have h2 := hg.block bS hlb (by rintro (e | e | e); exact hb3 e; exact hb4 e; omega)
              exact ⟨(World.cell?_of_block (w := wc) (a := ⟨wa.heap.size, 0, none⟩) h1).trans x0, (World.cell?_of_block (w := wc) (a := ⟨wa.heap.size, 1, none⟩) h1).trans x1, (World.cell?_of_block (w := wc) (a := ⟨wa.heap.size, 2, none⟩) h1).trans x2, (World.cell?_of_block (w := wc) (a := ⟨wa.heap.size, 3, none⟩) h1).trans x3, (World.cell?_of_block (w := wc) (a := ⟨bS, 4, none⟩) h2).trans b4⟩)
          have HL3 : Hid (xs.length ≤ 1000000) := Lib.hid (by omega)
          have HRx : Hid (Rd wc (.slice px k cx) (s.buf.take k)) := Lib.hid HM.out.2.2.1
          have HAx : Hid (Av wc.heap.size (.slice pv B.length cv) (.slice px k cx)) := Lib.hid (fun k hk => by have h := HM.out.2.2.2 k hk; rw [← hB] at h; exact h)
          clear hx x0 x1 x2 x3 b4 hOv hB hx3 hx4 hb3 hb4
          go_upto_region 16 with fail
          obtain ⟨x0, x1, x2, x3, b4⟩ := HS.out wc (Fr.refl _ _)
          go_region_held3 (fun w' => w'.cell? ⟨wa.heap.size, 0, none⟩ = some (.int .i64 4) ∧ w'.cell? ⟨wa.heap.size, 1, none⟩ = some (.int .i64 0) ∧ w'.cell? ⟨wa.heap.size, 2, none⟩ = some (.int .i64 (12 + (M : Int))) ∧ w'.cell? ⟨wa.heap.size, 3, none⟩ = some (.slice none 0 0) ∧ w'.cell? ⟨bS, 4, none⟩ = some (.slice pv B.length cv))
            (first | exact HS.out _ (by repeat (first | exact Fr.refl _ _ | assumption | exact Grow.to (by assumption) | apply Fr.drew | apply Fr.alloc | refine Fr.trans ?_ (by assumption))))
            (first
              | (refine step_append_run (by go_simp) _ _ 24 (by rfl) u3 _ (by rfl) (by rfl) (layStep (d := .slice none 0 0) HM1.out ⟨none, 0, rfl, Nat.le_refl _, by omega, fun h => absurd rfl h⟩ (Av.nil _ _ _ _) HL3.out (by repeat (first | exact Fr.refl _ _ | assumption | apply Fr.drew | apply Fr.alloc | refine Fr.trans ?_ (by assumption))) (by repeat (first | (refine Blk.newAt _ _ _ _ ?_; simp; done) | (refine hK7 _ _ _ (by first | omega | (simp; done) | (simp; omega)) ?_) | apply Blk.drew | apply Blk.alloc))) ?_; rintro v7 w7 ⟨hL7, hK7⟩; have hF7 := hL7.fr)
              | (refine step_append_run (by go_simp) _ _ 36 (by rfl) u4 _ (by rfl) (by rfl) (laySeen HM1.out hL7 HY.out HRx.out HAx.out HL3.out (by repeat (first | exact Fr.refl _ _ | assumption | apply Fr.drew | apply Fr.alloc | refine Fr.trans ?_ (by assumption))) (by repeat (first | (refine Blk.newAt _ _ _ _ ?_; simp; done) | (refine hK7 _ _ _ (by first | omega | (simp; done) | (simp; omega)) ?_) | apply Blk.drew | apply Blk.alloc))) ?_; rintro v8 w8 ⟨hL8, hF8⟩; have HL8 := Lib.hid hL8; clear hL8))
          all_goals
            clear hL7 hK7 hF7 hF8
            go_wp2_with fail
            go_roundg (gk - 1)
            case measure => omega
            case rel => exact ⟨i + 1, xs ++ [⟨4, 0, 12 + M, []⟩], _, by omega, by go_num, by simp; omega, HL8⟩
end Go.Proofs.YtdhhccpeikhilaaDoor
