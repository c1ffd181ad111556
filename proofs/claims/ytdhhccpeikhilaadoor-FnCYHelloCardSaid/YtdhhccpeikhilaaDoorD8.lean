/- laws.FnCYComes, walked. -/
import Derived.Test.YtdhhccpeikhilaaDoorD7
import Derived.Deep.CutBlock
import Derived.Deep.CutRange
namespace Go.Proofs.YtdhhccpeikhilaaDoor
open Go.RowKit

/-- The act that the law makes of an act of its argument. -/
def mkStep (o : COp) : Stp :=
  if o.kind % 8 ≤ 3 then (if 240 ≤ o.kind then ⟨0, 16384 - o.off % 300, 0, fB (16384 - o.off % 300) (1 + o.many)⟩ else ⟨0, o.off % 400, 0, fB (o.off % 400) (1 + o.many)⟩)
  else if o.kind % 8 = 7 ∧ o.many % 4 = 0 then ⟨2, 0, 0, []⟩ else ⟨1, 0, 0, []⟩

/-- .. of bytes that are the reference's. -/
def StepOk (x : Stp) : Prop := RecvOk x ∧ (x.kind = 0 → ∃ n, x.data = fB x.off n)
theorem mkStep_ok (o : COp) (hm : o.many < 256) : StepOk (mkStep o) := by
  obtain ⟨K, M, A, D⟩ := o
  have hm : M < 256 := hm
  unfold mkStep
  simp only
  split
  · split
    · exact ⟨⟨by show 16384 - A % 300 ≤ 1000000; omega, by show (fB _ _).length ≤ _; rw [fB_length]; omega, .inl ⟨rfl, by show 0 < (fB _ _).length; rw [fB_length]; omega⟩⟩, fun _ => ⟨_, rfl⟩⟩
    · exact ⟨⟨by show A % 400 ≤ 1000000; omega, by show (fB _ _).length ≤ _; rw [fB_length]; omega, .inl ⟨rfl, by show 0 < (fB _ _).length; rw [fB_length]; omega⟩⟩, fun _ => ⟨_, rfl⟩⟩
  · split
    · exact ⟨⟨by simp, by simp, .inr (.inr rfl)⟩, fun h => by simp at h⟩
    · exact ⟨⟨by simp, by simp, .inr (.inl rfl)⟩, fun h => by simp at h⟩

theorem RowAt.at {α : Type} {cs : α → Value → List Value} {dat : α → List UInt8} {e size : Nat} {w : World} {xs : List α} {b o n c : Nat} (hcs : ∀ x d, (cs x d).length = size) (h : RowAt cs dat e size w (.slice (some ⟨b, o, none⟩) n c) xs) {i : Nat} {x : α} (hx : xs[i]? = some x) :
    ∃ d : Value, Rd w d (dat x) ∧ (∀ (j : Nat) (u : Value), (cs x d)[j]? = some u → w.cell? ⟨b, o + (i * size + j), none⟩ = some u) ∧ b < w.heap.size := by
  obtain ⟨b', o', c', d, hv, _, _, hd, hcell, cur, hcur⟩ := RowAt.get hcs h hx
  injection hv with hv1 hv2 hv3
  injection hv1 with hv1
  injection hv1 with hv1 hv4
  subst hv1 hv4
  exact ⟨d, hd, hcell, (Array.getElem?_eq_some_iff.1 hcur).1⟩
theorem SpecAt.fr {w w' : World} {b r : Nat} {s : RS} (hS : SpecAt w b r s) {S : Nat → Prop} (hF : Fr S w w') (hb : ¬ S b) (hr : ¬ S r) : SpecAt w' b r s := by
  obtain ⟨H, h1, h2, h3⟩ := hS
  exact ⟨H, hF.blk h1 hb, h2.same (hF.block r h2.lt hr), h3⟩
theorem RStep.isIs {s s' : RS} {a m : Nat} {l : List UInt8} {y : Sn} (h : RStep s ⟨1, a, m, l⟩ y s') (hG : Good s.rp s.gs s.q) (hd : DataOk FB s.q) : y.code = 0 ∧ y.data = fB s.rp y.data.length ∧ y.data.length ≤ 16384 ∧ ((y.is = true ∧ 0 < y.data.length) ∨ (y.is = false ∧ y.data.length = 0)) := by
  obtain ⟨_, _, h⟩ := h
  rcases h with ⟨e, _⟩ | ⟨_, k0, h⟩ | ⟨e, _⟩
  · simp at e
  · rcases h with ⟨d', k1, k2, k3, _⟩ | ⟨_, k2, k3, _⟩
    · rw [k3]
      exact ⟨k0, data_bytes hd k1, by have := (hG.ge _ _ k1).2; omega, .inl ⟨k2, hG.ap.pos k1⟩⟩
    · rw [k3]
      exact ⟨k0, rfl, by simp, .inr ⟨k2, rfl⟩⟩
  · simp at e
theorem RowAt.spec {α : Type} {cs : α → Value → List Value} {dat : α → List UInt8} {e size : Nat} {w w' : World} {v : Value} {xs : List α} (h : RowAt cs dat e size w v xs) {b r : Nat} {s : RS} (hS : SpecAt w b r s) (he : e ≠ 35) (hF : Fr (fun k => k = b ∨ k = r) w w') : RowAt cs dat e size w' v xs := by
  obtain ⟨H, hB, hH, _⟩ := hS
  refine h.keep (fun k hk => ?_) (hF.bytes ?_)
  · obtain ⟨cur, f, hc⟩ := h.1 k hk
    refine hF.block k (h.lt hk) ?_
    rintro (e1 | e1)
    · subst e1
      have := Option.some.inj (hc.symm.trans hB)
      injection this with _ e4 _
      exact he e4
    · subst e1
      obtain ⟨es, cl, hm, _⟩ := hH
      rw [hc] at hm; cases hm
  · rintro k (e1 | e1)
    · subst e1; exact hB.noBytes (by decide)
    · subst e1; exact MapAt.noBytes hH

set_option maxRecDepth 100000 in
set_option maxHeartbeats 16000000 in
theorem comes (w : World) (v : Value) (ops : List COp) (h : OpsAt w v ops) : Calls Tryd.prog 3 #[v] w fun e w' => e = .returned (.bool true) ∧ Grow w w' := by
  obtain ⟨p, c, rfl, hlc, hcm, _⟩ := id h
  have HO := Lib.hid h
  clear h
  go_enter Tryd.func3, Tryd.ntmps3
  go_upto_region 1 with fail
  go_upto_region 4 with (go_at_call 6; refine (fits5 w _ ops HO.out).mono ?_; rintro e w1 ⟨⟨bb, rfl⟩, hG1⟩; cases bb)
  · go_ret
    exact ⟨rfl, hG1⟩
  have HG1 := Lib.hid hG1
  clear hG1
  obtain ⟨m, hm⟩ : ∃ m, m = min ops.length 60 := ⟨_, rfl⟩
  have hm1 : m ≤ ops.length ∧ m ≤ 60 := by omega
  have HM := Lib.hid hm
  go_cut [21, 22, 23] from 17 to 20 (fun s21 s22 s23 wx => s21 = .slice p m c ∧ s22 = .int .i64 (m : Int) ∧ s23 = .int .i64 0 ∧ wx = w1)
  case first =>
    rcases Nat.lt_or_ge 60 ops.length with d | d
    · have e : m = 60 := by omega
      subst e
      clear hm
      go_wp2_with fail
      go_meet
      exact ⟨rfl, rfl, rfl, rfl⟩
    · have e : m = ops.length := by omega
      subst e
      clear hm
      go_wp2_with fail
      go_meet
      exact ⟨rfl, rfl, rfl, rfl⟩
  case rest =>
  obtain ⟨rfl, rfl, rfl, rfl⟩ := hcut
  clear hm
  go_wp2_with fail
  go_loopg [3, 23] m (fun k s3 s23 wr => ∃ i : Nat, k + i = m ∧ s23 = .int .i64 (i : Int) ∧ Hid (Grow w wr ∧ StepsAt wr s3 ((ops.take i).map mkStep) ∧ ∀ k, s3.ownBlock = some k → w.heap.size ≤ k))
  case atStart => exact ⟨0, by simp, rfl, Lib.hid ⟨HG1.out, RowAt.nil _, fun k h => nomatch h⟩⟩
  case round =>
    obtain ⟨i, hk, rfl, HI⟩ := hrel
    by_cases hend : i = m
    · have hne : ¬ (i < m) := by omega
      subst hend
      obtain ⟨xs, hxs⟩ : ∃ xs, xs = (ops.take i).map mkStep := ⟨_, rfl⟩
      have hxl : xs.length = i := by rw [hxs, List.length_map, List.length_take]; omega
      have hxok : ∀ x ∈ xs, StepOk x := fun x hx => by
        rw [hxs] at hx
        obtain ⟨o, ho, rfl⟩ := List.mem_map.1 hx
        obtain ⟨j, hj⟩ := List.mem_iff_getElem?.1 (List.mem_of_mem_take ho)
        obtain ⟨_, _, _, _, _, hall⟩ := HO.out
        exact mkStep_ok o (hall j o hj).2.1
      have HI2 := HI.out
      rw [← hxs] at HI2
      obtain ⟨hg2, hst2, hfr2⟩ := HI2
      obtain ⟨p3, c3, rfl, hc31, hc32⟩ := hst2.slice
      have HXL := Lib.hid hxl
      have HXO := Lib.hid hxok
      have HST := Lib.hid hst2
      have HG2 := Lib.hid hg2
      have HFR := Lib.hid hfr2
      clear hxs hxok hst2 hg2 hfr2 HI hne hxl
      have hmm := @run_makeMap Tryd.prog
      go_upto_region 23 with fail
      clear hmm
      have hSp : ∀ g, SpecAt ((wr.alloc (.map #[] 0)).alloc (.cells #[.map (some wr.heap.size), .int .i64 0, .int .i64 0, .bool false, .slice none 0 0, .int .i64 0] 35)) (wr.heap.size + 1) wr.heap.size (rs0 g) := fun g => by
        refine ⟨fun _ => false, Blk.newAt _ _ _ _ (by simp), HaveAt.of ((MapAt.new wr).alloc _) (fun k => rfl), fun k => ⟨fun h => by simp at h, ?_⟩, ?_, good_new g⟩
        · rintro ⟨_, _, h, _⟩; cases h
        · intro k d h; cases h
      have hGs : Grow wr ((wr.alloc (.map #[] 0)).alloc (.cells #[.map (some wr.heap.size), .int .i64 0, .int .i64 0, .bool false, .slice none 0 0, .int .i64 0] 35)) := ((Fr.refl _ _).alloc _).alloc _
      generalize ((wr.alloc (.map #[] 0)).alloc (.cells #[.map (some wr.heap.size), .int .i64 0, .int .i64 0, .bool false, .slice none 0 0, .int .i64 0] 35)) = ws at *
      have hC := cyPlay_any ws _ xs (HST.out.grow hGs) (by rw [HXL.out]; omega) (fun x hx => (HXO.out x hx).1.2.1) (fun ys => ∃ s g, Ran RStep (rs0 g) xs ys s) (fun w1 v1 _ hs1 => (play_recv w1 v1 xs hs1 (by rw [HXL.out]; omega) (fun x hx => (HXO.out x hx).1)).mono (fun e w2 ⟨hg, vs, ys, s, g, he, hl, hS, hR⟩ => ⟨hg, vs, ys, he, hl, hS, s, g, hR⟩))
      have HC := Lib.hid hC
      have HSp := Lib.hid hSp
      have HGs := Lib.hid hGs
      clear hC hSp hGs
      go_upto_region 26 with (go_at_call 8; refine HC.out.mono ?_; rintro e wp ⟨hGp, vs, ys, rfl, hyl, hSn, s, g, hRan⟩; obtain ⟨p4, c4, rfl, hc41, hc42⟩ := hSn.slice)
      have hsp1 := (HSp.out g).grow hGp
      obtain ⟨st, hs0, _, hst⟩ := hRan
      rw [← hs0] at hsp1
      have HI0 : Hid (Grow w wp ∧ StepsAt wp (.slice p3 xs.length c3) xs ∧ SeenAt wp (.slice p4 ys.length c4) ys ∧ SpecAt wp (wr.heap.size + 1) wr.heap.size (st 0)) := Lib.hid ⟨(HG2.out.trans HGs.out).trans hGp, (HST.out.grow HGs.out).grow hGp, hSn, hsp1⟩
      have hb0 : w.heap.size ≤ wr.heap.size := HG2.out.size
      have HRan := Lib.hid hst
      have HYL := Lib.hid hyl
      clear hsp1 hs0 hst hSn hGp HSp HC HST HG2 HFR hyl HGs
      generalize wr.heap.size = rM at *
      go_wp2_with fail
      go_loopg [82] xs.length (fun k s82 wx => ∃ j : Nat, k + j = xs.length ∧ s82 = .int .i64 (j : Int) ∧ Hid (Grow w wx ∧ StepsAt wx (.slice p3 xs.length c3) xs ∧ SeenAt wx (.slice p4 ys.length c4) ys ∧ SpecAt wx (rM + 1) rM (st j)))
      case atStart => exact ⟨0, by simp, rfl, HI0⟩
      case round =>
        obtain ⟨j, hkj, rfl, HJ⟩ := hrel
        by_cases hjend : j = xs.length
        · have hne : ¬ (j < xs.length) := by omega
          go_wp2_with (go_at_call 14; refine (awake wr).mono ?_; rintro e w' ⟨rfl, hg⟩)
          go_ret
          exact ⟨rfl, HJ.out.1.trans hg⟩
        · have hjl : j < xs.length := by omega
          obtain ⟨X, hX⟩ : ∃ X, xs[j]? = some X := ⟨_, List.getElem?_eq_getElem hjl⟩
          obtain ⟨Y, hY⟩ : ∃ Y, ys[j]? = some Y := ⟨_, List.getElem?_eq_getElem (by rw [HYL.out]; exact hjl)⟩
          obtain ⟨X', hX', hR⟩ := HRan.out j Y hY
          have hXX := Option.some.inj (hX.symm.trans hX')
          subst hXX
          obtain ⟨hXo, hXe⟩ := HXO.out X (List.mem_of_getElem? hX)
          obtain ⟨xb, xo, xc, xd, hv, _, _, hxd, xcell, xcur, hxcur⟩ := RowAt.get (cs := stC) (size := 4) (fun _ _ => rfl) HJ.out.2.1 hX
          injection hv with hv1 hv2 hv3
          subst hv1
          subst hv3
          obtain ⟨yb, yo, yc, yd, hv, _, _, hyd, ycell, ycur, hycur⟩ := RowAt.get (cs := snC) (size := 5) (fun _ _ => rfl) HJ.out.2.2.1 hY
          injection hv with hv1 hv2 hv3
          subst hv1
          subst hv3
          obtain ⟨K, A, M, D⟩ := X
          obtain ⟨Yi, Yh, Yo, Yd, Yc⟩ := Y
          have e0 : wr.cell? ⟨xb, xo + j * 4, none⟩ = some (.int .i64 (K : Int)) := xcell 0 _ rfl
          have e1 : wr.cell? ⟨xb, xo + j * 4 + 1, none⟩ = some (.int .i64 (A : Int)) := xcell 1 _ rfl
          have e2 : wr.cell? ⟨xb, xo + j * 4 + 2, none⟩ = some (.int .i64 (M : Int)) := xcell 2 _ rfl
          have e3 : wr.cell? ⟨xb, xo + j * 4 + 3, none⟩ = some xd := xcell 3 _ rfl
          have f0 : wr.cell? ⟨yb, yo + j * 5, none⟩ = some (.bool Yi) := ycell 0 _ rfl
          have f3 : wr.cell? ⟨yb, yo + j * 5 + 3, none⟩ = some yd := ycell 3 _ rfl
          have f4 : wr.cell? ⟨yb, yo + j * 5 + 4, none⟩ = some (.int .i64 (Yc : Int)) := ycell 4 _ rfl
          have hxlt : xb < wr.heap.size := (Array.getElem?_eq_some_iff.1 hxcur).1
          have hylt : yb < wr.heap.size := (Array.getElem?_eq_some_iff.1 hycur).1
          obtain ⟨xp, xq, rfl, hxq1, hxq2, _⟩ := id hxd
          obtain ⟨yp, yq, rfl, hyq1, hyq2, _⟩ := id hyd
          have hxq1 : D.length ≤ xq := hxq1
          have hyq1 : Yd.length ≤ yq := hyq1
          have hj60 : j ≤ 60 := by have := HXL.out; omega
          have HXd := Lib.hid hxd
          have HYd := Lib.hid hyd
          have HR := Lib.hid hR
          have HYy := Lib.hid hY
          obtain ⟨hXa, hXb, hXk⟩ := hXo
          have HXe := Lib.hid hXe
          clear hxd hyd hR hXe xcell ycell hxcur hycur xcur ycur hX hX' hY hv2 hjend
          go_upto_block 5 with fail
          have hXb : Blk (wr.alloc (.cells #[.int .i64 (K : Int), .int .i64 (A : Int), .int .i64 (M : Int), .slice xp D.length xq] 30)) wr.heap.size #[.int .i64 (K : Int), .int .i64 (A : Int), .int .i64 (M : Int), .slice xp D.length xq] 30 := Blk.new wr _ _
          have hGx : Grow wr (wr.alloc (.cells #[.int .i64 (K : Int), .int .i64 (A : Int), .int .i64 (M : Int), .slice xp D.length xq] 30)) := (Fr.refl _ _).alloc _
          generalize (wr.alloc (.cells #[.int .i64 (K : Int), .int .i64 (A : Int), .int .i64 (M : Int), .slice xp D.length xq] 30)) = wa at *
          have hJ1 := HJ.out.1.trans hGx
          have hJ2 := HJ.out.2.1.grow hGx
          have hJ3 := HJ.out.2.2.1.grow hGx
          have hJ4 := HJ.out.2.2.2.grow hGx
          have HJ1 := Lib.hid hJ1
          have HJ2 := Lib.hid hJ2
          have HJ3 := Lib.hid hJ3
          have HJ4 := Lib.hid hJ4
          have HXb := Lib.hid hXb
          have x1 : wa.cell? ⟨wr.heap.size, 1, none⟩ = some (.int .i64 (A : Int)) := hXb.cellAt 1 _ rfl
          have x3 : wa.cell? ⟨wr.heap.size, 3, none⟩ = some (.slice xp D.length xq) := hXb.cellAt 3 _ rfl
          have hltx := hXb.lt
          have f0a : wa.cell? ⟨yb, yo + j * 5, none⟩ = some (.bool Yi) := (hGx.cell hylt).trans f0
          have f3a : wa.cell? ⟨yb, yo + j * 5 + 3, none⟩ = some (.slice yp Yd.length yq) := (hGx.cell hylt).trans f3
          have hylt2 : yb < wa.heap.size := Nat.lt_of_lt_of_le hylt hGx.size
          have HGx := Lib.hid hGx
          clear e0 e1 e2 e3 f0 f3 f4 hXb hJ1 hJ2 hJ3 hJ4 hGx hxlt
          go_cut [12, 13] from 89 to 149 (fun s12 _ wx => s12 = .int .i64 (Yc : Int) ∧ Hid (Grow w wx ∧ StepsAt wx (.slice (some ⟨xb, xo, none⟩) xs.length c3) xs ∧ SeenAt wx (.slice (some ⟨yb, yo, none⟩) ys.length c4) ys ∧ SpecAt wx (rM + 1) rM (st (j + 1))))
          case first =>
            rcases hXk with ⟨hk0, hDp⟩ | hk0 | hk0
            · have hk0 : K = 0 := hk0
              have HC9 : Hid (∀ w1, SpecAt w1 (rM + 1) rM (st j) → Calls Tryd.prog 9 #[pt (rM + 1), .int .i64 (A : Int), .int .i64 (D.length : Int)] w1 fun e w' => e = .returned (.int .i64 (Yc : Int)) ∧ SpecAt w' (rM + 1) rM (st (j + 1)) ∧ Fr (fun k => k = rM + 1 ∨ k = rM) w1 w') := by
                obtain ⟨n, hn⟩ := HXe.out hk0
                have hn' : D = fB A n := hn
                have hnl : D.length = n := by rw [hn', fB_length]
                exact Lib.hid (fun w1 h1 => came_step w1 (rM + 1) rM D.length (st j) (st (j + 1)) ⟨K, A, M, D⟩ ⟨Yi, Yh, Yo, Yd, Yc⟩ h1 hk0 HR.out (by rw [hnl]; exact hn') rfl hXa hXb)
              clear HXe
              subst hk0
              go_wp2_with (go_at_call 9; refine (HC9.out wa HJ4.out).mono ?_; rintro e w2 ⟨rfl, hS2, hF2⟩)
              go_meet
              exact ⟨rfl, Lib.hid ⟨Grow.trans' HJ1.out hF2 (by rintro k (rfl | rfl) <;> omega), HJ2.out.spec HJ4.out (by decide) hF2, HJ3.out.spec HJ4.out (by decide) hF2, hS2⟩⟩
            · have hk0 : K = 1 := hk0
              clear HXe
              subst hk0
              obtain ⟨H, hSB, hSH, hSQ, hSD, hSG⟩ := id HJ4.out
              obtain ⟨hYc, hYd, hYl, hYi⟩ := RStep.isIs HR.out hSG hSD
              have hYc : Yc = 0 := hYc
              have hYl : Yd.length ≤ 16384 := hYl
              subst hYc
              have hrp := hSG.rp_le
              obtain ⟨rp, hrpe⟩ : ∃ rp, rp = (st j).rp := ⟨_, rfl⟩
              rw [← hrpe] at hYd hrp hSB
              have s1 : wa.cell? ⟨rM + 1, 1, none⟩ = some (.int .i64 (rp : Int)) := hSB.cellAt 1 _ rfl
              have hltS := hSB.lt
              obtain ⟨L, hL⟩ : ∃ L, L = Yd.length := ⟨_, rfl⟩
              have f3b : wa.cell? ⟨yb, yo + j * 5 + 3, none⟩ = some (.slice yp L yq) := by rw [hL]; exact f3a
              have HS : Hid (∀ w', Grow wa w' → w'.cell? ⟨yb, yo + j * 5, none⟩ = some (.bool Yi) ∧ w'.cell? ⟨yb, yo + j * 5 + 3, none⟩ = some (.slice yp L yq) ∧ w'.cell? ⟨rM + 1, 1, none⟩ = some (.int .i64 (rp : Int))) :=
                Lib.hid (fun w' hg => ⟨(hg.cell hylt2).trans f0a, (hg.cell hylt2).trans f3b, (hg.cell hltS).trans s1⟩)
              have HYd2 : Hid (Rd wa (.slice yp L yq) (fB rp L)) := Lib.hid (by have := HYd.out.keep HGx.out.bytes; rw [hL, ← hYd]; exact this)
              have hYlen : L ≤ 1000000 := by omega
              have hyq1 : L ≤ yq := by omega
              have hrp6 : rp ≤ 1000000 := by omega
              have HTake : Hid (∀ w1, SpecAt w1 (rM + 1) rM (st j) → Calls Tryd.prog 12 #[pt (rM + 1), .int .i64 (L : Int)] w1 fun e w' => e = .returned (.tuple #[]) ∧ SpecAt w' (rM + 1) rM (st (j + 1)) ∧ Fr (fun k => k = rM + 1 ∨ k = rM) w1 w') :=
                Lib.hid (fun w1 h1 => by rw [hL]; exact take_step w1 (rM + 1) rM (st j) (st (j + 1)) ⟨1, A, M, D⟩ ⟨Yi, Yh, Yo, Yd, 0⟩ h1 rfl HR.out)
              have HReady : Hid (∀ w1, SpecAt w1 (rM + 1) rM (st j) → Calls Tryd.prog 10 #[pt (rM + 1)] w1 fun e w' => w1 = w' ∧ ∃ n : Nat, e = .returned (.int .i64 (n : Int)) ∧ L ≤ n ∧ (n = 0 ↔ L = 0) ∧ n ≤ 16384) :=
                Lib.hid (fun w1 h1 => by rw [hL]; exact ready_step w1 (rM + 1) rM (st j) (st (j + 1)) ⟨1, A, M, D⟩ ⟨Yi, Yh, Yo, Yd, 0⟩ h1 rfl HR.out)
              have hYi : (Yi = true ∧ 0 < L) ∨ (Yi = false ∧ L = 0) := by rw [hL]; exact hYi
              clear hSB hSH hSQ hSD hSG hYd hrpe hL f3a
              rcases hYi with ⟨hYi, hYp⟩ | ⟨hYi, hYp⟩
              · subst hYi
                go_upto_region 35 with fail
                have j0 : (0 : Int) ≤ (j : Int) := by omega
                have j1 : (j : Int) < (xs.length : Int) := by omega
                go_region_held3 (fun w' => w'.cell? ⟨yb, yo + j * 5, none⟩ = some (.bool true) ∧ w'.cell? ⟨yb, yo + j * 5 + 3, none⟩ = some (.slice yp L yq) ∧ w'.cell? ⟨rM + 1, 1, none⟩ = some (.int .i64 (rp : Int)))
                  (first | exact HS.out _ (by repeat (first | exact Fr.refl _ _ | assumption | apply Fr.drew | apply Fr.alloc | refine Fr.trans ?_ (by assumption))))
                  (first
                    | (go_at_call 10; refine (HReady.out _ (HJ4.out.grow (by repeat (first | exact Fr.refl _ _ | assumption | apply Fr.drew | apply Fr.alloc | refine Fr.trans ?_ (by assumption))))).mono ?_; rintro e w7 ⟨rfl, n7, rfl, g1, g2, g3⟩; have g4 : 0 < n7 := (by omega); have g5 := Nat.not_lt.2 g1)
                    | (go_at_call 7; refine (bytes_int _ _ _ rp L rfl rfl hrp6 hYlen).mono ?_; rintro e w5 ⟨p9, c9, rfl, hO9, hG9⟩)
                    | (go_at_call 11; refine (equal_same _ _ _ (fB rp L) (HYd2.out.keep (Grow.bytes (by repeat (first | exact Fr.refl _ _ | assumption | apply Fr.drew | apply Fr.alloc | refine Fr.trans ?_ (by assumption))))) (hO9.rd.keep (Grow.bytes (by repeat (first | exact Fr.refl _ _ | assumption | apply Fr.drew | apply Fr.alloc | refine Fr.trans ?_ (by assumption)))))).mono ?_; rintro e w6 ⟨rfl, rfl⟩))
                clear g1 g2 g3 j0 j1
                go_wp2_with (go_at_call 12; refine (HTake.out _ (HJ4.out.grow (by repeat (first | exact Fr.refl _ _ | assumption | apply Fr.drew | apply Fr.alloc | refine Fr.trans ?_ (by assumption))))).mono ?_; rintro e w8 ⟨rfl, hS8, hF8⟩)
                go_meet
                have hG5 : Grow wa w5 := (by repeat (first | exact Fr.refl _ _ | assumption | apply Fr.drew | apply Fr.alloc | refine Fr.trans ?_ (by assumption)))
                exact ⟨rfl, Lib.hid ⟨Grow.trans' (HJ1.out.trans hG5) hF8 (by rintro k (rfl | rfl) <;> omega), (HJ2.out.grow hG5).spec (HJ4.out.grow hG5) (by decide) hF8, (HJ3.out.grow hG5).spec (HJ4.out.grow hG5) (by decide) hF8, hS8⟩⟩
              · subst hYi
                subst hYp
                go_upto_region 35 with fail
                have j0 : (0 : Int) ≤ (j : Int) := by omega
                have j1 : (j : Int) < (xs.length : Int) := by omega
                go_region_held3 (fun w' => w'.cell? ⟨yb, yo + j * 5, none⟩ = some (.bool false) ∧ w'.cell? ⟨yb, yo + j * 5 + 3, none⟩ = some (.slice yp 0 yq) ∧ w'.cell? ⟨rM + 1, 1, none⟩ = some (.int .i64 (rp : Int)))
                  (first | exact HS.out _ (by repeat (first | exact Fr.refl _ _ | assumption | apply Fr.drew | apply Fr.alloc | refine Fr.trans ?_ (by assumption))))
                  (first
                    | (go_at_call 10; refine (HReady.out _ (HJ4.out.grow (by repeat (first | exact Fr.refl _ _ | assumption | apply Fr.drew | apply Fr.alloc | refine Fr.trans ?_ (by assumption))))).mono ?_; rintro e w7 ⟨rfl, n7, rfl, g1, g2, g3⟩; obtain rfl : n7 = 0 := (by simpa using g2))
                    | (go_at_call 7; refine (bytes_int _ _ _ rp 0 rfl rfl hrp6 hYlen).mono ?_; rintro e w5 ⟨p9, c9, rfl, hO9, hG9⟩)
                    | (go_at_call 11; refine (equal_same _ _ _ (fB rp 0) (HYd2.out.keep (Grow.bytes (by repeat (first | exact Fr.refl _ _ | assumption | apply Fr.drew | apply Fr.alloc | refine Fr.trans ?_ (by assumption))))) (hO9.rd.keep (Grow.bytes (by repeat (first | exact Fr.refl _ _ | assumption | apply Fr.drew | apply Fr.alloc | refine Fr.trans ?_ (by assumption)))))).mono ?_; rintro e w6 ⟨rfl, rfl⟩))
                clear g1 g2 g3 j0 j1
                go_wp2_with (go_at_call 12; refine (HTake.out _ (HJ4.out.grow (by repeat (first | exact Fr.refl _ _ | assumption | apply Fr.drew | apply Fr.alloc | refine Fr.trans ?_ (by assumption))))).mono ?_; rintro e w8 ⟨rfl, hS8, hF8⟩)
                go_meet
                have hG5 : Grow wa w5 := (by repeat (first | exact Fr.refl _ _ | assumption | apply Fr.drew | apply Fr.alloc | refine Fr.trans ?_ (by assumption)))
                exact ⟨rfl, Lib.hid ⟨Grow.trans' (HJ1.out.trans hG5) hF8 (by rintro k (rfl | rfl) <;> omega), (HJ2.out.grow hG5).spec (HJ4.out.grow hG5) (by decide) hF8, (HJ3.out.grow hG5).spec (HJ4.out.grow hG5) (by decide) hF8, hS8⟩⟩
            · have hk0 : K = 2 := hk0
              have HC13 : Hid (∀ w1, SpecAt w1 (rM + 1) rM (st j) → Calls Tryd.prog 13 #[pt (rM + 1)] w1 fun e w' => e = .returned (.int .i64 (Yc : Int)) ∧ SpecAt w' (rM + 1) rM (st (j + 1)) ∧ Fr (fun k => k = rM + 1 ∨ k = rM) w1 w') :=
                Lib.hid (fun w1 h1 => finish_step w1 (rM + 1) rM (st j) (st (j + 1)) ⟨K, A, M, D⟩ ⟨Yi, Yh, Yo, Yd, Yc⟩ h1 hk0 HR.out)
              clear HXe
              subst hk0
              go_wp2_with (go_at_call 13; refine (HC13.out wa HJ4.out).mono ?_; rintro e w2 ⟨rfl, hS2, hF2⟩)
              go_meet
              exact ⟨rfl, Lib.hid ⟨Grow.trans' HJ1.out hF2 (by rintro k (rfl | rfl) <;> omega), HJ2.out.spec HJ4.out (by decide) hF2, HJ3.out.spec HJ4.out (by decide) hF2, hS2⟩⟩
          case rest =>
          obtain ⟨rfl, HC⟩ := hcut
          obtain ⟨_, _, ycell, hylt3⟩ := RowAt.at (cs := snC) (size := 5) (fun _ _ => rfl) HC.out.2.2.1 HYy.out
          have f4 : wc.cell? ⟨yb, yo + j * 5 + 4, none⟩ = some (.int .i64 (Yc : Int)) := ycell 4 _ rfl
          clear ycell
          clear x1 x3 hltx f0a f3a hylt2
          by_cases hYc : Yc = 0
          · subst hYc
            have f4 : wc.cell? ⟨yb, yo + j * 5 + 4, none⟩ = some (.int .i64 0) := f4
            go_wp2_with fail
            go_roundg (gk - 1)
            case measure => omega
            case rel => exact ⟨j + 1, by omega, by go_num, HC⟩
          · have hYc2 : 0 < Yc := by omega
            go_wp2_with (go_at_call 14; refine (awake wc).mono ?_; rintro e w' ⟨rfl, hg⟩)
            go_ret
            exact ⟨rfl, HC.out.1.trans hg⟩
    · have him : i < m := by omega
      obtain ⟨X, hX⟩ : ∃ X, ops[i]? = some X := ⟨_, List.getElem?_eq_getElem (by omega)⟩
      obtain ⟨p', c', hv, _, _, hall⟩ := HO.out.grow HI.out.1
      injection hv with q1 q2 q3
      subst q1
      subst q3
      obtain ⟨k1, k2, k3, b, o, d, rfl, hb, hd, e0, e1, e2, e3⟩ := hall i X hX
      obtain ⟨K, M, A, D⟩ := X
      have e0 : wr.cell? ⟨b, o + i * 4, none⟩ = some (.int .u8 (K : Int)) := e0
      have e1 : wr.cell? ⟨b, o + i * 4 + 1, none⟩ = some (.int .u8 (M : Int)) := e1
      have e2 : wr.cell? ⟨b, o + i * 4 + 2, none⟩ = some (.int .u16 (A : Int)) := e2
      have k1 : K < 256 := k1
      have k2 : M < 256 := k2
      have k3 : A < 65536 := k3
      obtain ⟨pd, cd, rfl, _⟩ := id hd
      have HX := Lib.hid hX
      clear hall hX hd q2
      go_upto_block 2 with fail
      go_cut [] from 30 to 64 (fun wx => ∃ d, Hid (Grow wr wx ∧ Blk wx (wr.heap.size + 1) #[.int .i64 ((mkStep ⟨K, M, A, D⟩).kind : Int), .int .i64 ((mkStep ⟨K, M, A, D⟩).off : Int), .int .i64 ((mkStep ⟨K, M, A, D⟩).most : Int), d] 30 ∧ Rd wx d (mkStep ⟨K, M, A, D⟩).data))
      case first =>
        have hr : ((K : Int) % 8) = ((K % 8 : Nat) : Int) := by omega
        rw [hr]
        clear hr
        clear e0 e1 e2 e3
        have hr8 : K % 8 < 8 := by omega
        obtain ⟨r, hr⟩ : ∃ r, r = K % 8 := ⟨_, rfl⟩
        rw [← hr] at hr8 ⊢
        have HK := Lib.hid hr
        clear hr
        have hcase : (r = 0 ∨ r = 1 ∨ r = 2 ∨ r = 3) ∨ r = 4 ∨ r = 5 ∨ r = 6 ∨ r = 7 := by omega
        rcases hcase with hcase | rfl | rfl | rfl | rfl
        · have hr3 : r ≤ 3 := by omega
          by_cases hK : 240 ≤ K
          · have hms : mkStep ⟨K, M, A, D⟩ = ⟨0, 16384 - A % 300, 0, fB (16384 - A % 300) (1 + M)⟩ := by unfold mkStep; simp only; rw [if_pos (by have := HK.out; omega), if_pos hK]
            have HMS := Lib.hid hms
            clear hms
            have hoffb : 16384 - A % 300 ≤ 1000000 := by omega
            have Hoff : Hid ((16384 - (A : Int) % 300) = ((16384 - A % 300 : Nat) : Int)) := Lib.hid (by omega)
            have Hone : Hid ((1 : Int) + (M : Int) = ((1 + M : Nat) : Int)) := Lib.hid (by omega)
            have hMb : 1 + M ≤ 1000000 := by omega
            rcases hcase with rfl | rfl | rfl | rfl
            all_goals
              go_wp2_with (go_at_call 7; refine (bytes_int _ _ _ (16384 - A % 300) (1 + M) Hoff.out Hone.out hoffb hMb).mono ?_; rintro e wb ⟨pb, cb, rfl, hOb, hGb⟩; have hYb := hGb.blk (Blk.newAt (wr.alloc (.cells #[.int .u8 (K : Int), .int .u8 (M : Int), .int .u16 (A : Int), .slice pd D.length cd] 28)) #[.int .i64 0, .int .i64 (16384 - (A : Int) % 300), .int .i64 0, .slice none 0 0] 30 (wr.heap.size + 1) (by simp)) (fun e => e); have hltY := hYb.lt; have hfY := hYb.free; have y3 : wb.cell? ⟨wr.heap.size + 1, 3, none⟩ = some (.slice none 0 0) := hYb.cellAt 3 _ rfl)
              go_meet
              have hYc := hYb.set 3 (.slice pb (1 + M) cb)
              refine ⟨.slice pb (1 + M) cb, Lib.hid ⟨?_, ?_, ?_⟩⟩
              · exact ((((Fr.refl _ wr).alloc _).alloc _).trans hGb).setCell _ _ (.inr (Nat.le_succ _))
              · rw [HMS.out]; show Blk _ _ #[_, .int .i64 ((16384 - A % 300 : Nat) : Int), _, _] _; rw [← Hoff.out]; exact hYc
              · rw [HMS.out]; exact hOb.rd.set hYb (by decide) 3 _
          · have hK' : K < 240 := by omega
            have hms : mkStep ⟨K, M, A, D⟩ = ⟨0, A % 400, 0, fB (A % 400) (1 + M)⟩ := by unfold mkStep; simp only; rw [if_pos (by have := HK.out; omega), if_neg hK]
            have HMS := Lib.hid hms
            clear hms
            have hoffb : A % 400 ≤ 1000000 := by omega
            have Hoff : Hid (((A : Int) % 400) = ((A % 400 : Nat) : Int)) := Lib.hid (by omega)
            have Hone : Hid ((1 : Int) + (M : Int) = ((1 + M : Nat) : Int)) := Lib.hid (by omega)
            have hMb : 1 + M ≤ 1000000 := by omega
            rcases hcase with rfl | rfl | rfl | rfl
            all_goals
              go_wp2_with (go_at_call 7; refine (bytes_int _ _ _ (A % 400) (1 + M) Hoff.out Hone.out hoffb hMb).mono ?_; rintro e wb ⟨pb, cb, rfl, hOb, hGb⟩; have hYb := hGb.blk (Blk.newAt (wr.alloc (.cells #[.int .u8 (K : Int), .int .u8 (M : Int), .int .u16 (A : Int), .slice pd D.length cd] 28)) #[.int .i64 0, .int .i64 ((A : Int) % 400), .int .i64 0, .slice none 0 0] 30 (wr.heap.size + 1) (by simp)) (fun e => e); have hltY := hYb.lt; have hfY := hYb.free; have y3 : wb.cell? ⟨wr.heap.size + 1, 3, none⟩ = some (.slice none 0 0) := hYb.cellAt 3 _ rfl)
              go_meet
              have hYc := hYb.set 3 (.slice pb (1 + M) cb)
              refine ⟨.slice pb (1 + M) cb, Lib.hid ⟨?_, ?_, ?_⟩⟩
              · exact ((((Fr.refl _ wr).alloc _).alloc _).trans hGb).setCell _ _ (.inr (Nat.le_succ _))
              · rw [HMS.out]; show Blk _ _ #[_, .int .i64 ((A % 400 : Nat) : Int), _, _] _; rw [← Hoff.out]; exact hYc
              · rw [HMS.out]; exact hOb.rd.set hYb (by decide) 3 _
        · have hms : mkStep ⟨K, M, A, D⟩ = ⟨1, 0, 0, []⟩ := by unfold mkStep; simp only; rw [if_neg (by have := HK.out; omega), if_neg (by have := HK.out; omega)]
          have HMS := Lib.hid hms
          clear hms
          go_wp2_with fail
          go_meet
          refine ⟨.slice none 0 0, Lib.hid ⟨?_, ?_, ?_⟩⟩
          · exact ((Fr.refl _ wr).alloc _).alloc _
          · rw [HMS.out]; exact Blk.newAt _ _ _ _ (by simp)
          · rw [HMS.out]; exact ⟨none, 0, rfl, Nat.le_refl _, by omega, fun h => (h rfl).elim⟩
        · have hms : mkStep ⟨K, M, A, D⟩ = ⟨1, 0, 0, []⟩ := by unfold mkStep; simp only; rw [if_neg (by have := HK.out; omega), if_neg (by have := HK.out; omega)]
          have HMS := Lib.hid hms
          clear hms
          go_wp2_with fail
          go_meet
          refine ⟨.slice none 0 0, Lib.hid ⟨?_, ?_, ?_⟩⟩
          · exact ((Fr.refl _ wr).alloc _).alloc _
          · rw [HMS.out]; exact Blk.newAt _ _ _ _ (by simp)
          · rw [HMS.out]; exact ⟨none, 0, rfl, Nat.le_refl _, by omega, fun h => (h rfl).elim⟩
        · have hms : mkStep ⟨K, M, A, D⟩ = ⟨1, 0, 0, []⟩ := by unfold mkStep; simp only; rw [if_neg (by have := HK.out; omega), if_neg (by have := HK.out; omega)]
          have HMS := Lib.hid hms
          clear hms
          go_wp2_with fail
          go_meet
          refine ⟨.slice none 0 0, Lib.hid ⟨?_, ?_, ?_⟩⟩
          · exact ((Fr.refl _ wr).alloc _).alloc _
          · rw [HMS.out]; exact Blk.newAt _ _ _ _ (by simp)
          · rw [HMS.out]; exact ⟨none, 0, rfl, Nat.le_refl _, by omega, fun h => (h rfl).elim⟩
        · by_cases hM : M % 4 = 0
          · have hms : mkStep ⟨K, M, A, D⟩ = ⟨2, 0, 0, []⟩ := by unfold mkStep; simp only; rw [if_neg (by have := HK.out; omega), if_pos (by have := HK.out; omega)]
            have HMS := Lib.hid hms
            clear hms
            have hM4 : ((M : Int) % 4) = 0 := by omega
            go_wp2_with fail
            go_meet
            refine ⟨.slice none 0 0, Lib.hid ⟨?_, ?_, ?_⟩⟩
            · exact ((Fr.refl _ wr).alloc _).alloc _
            · rw [HMS.out]; exact Blk.newAt _ _ _ _ (by simp)
            · rw [HMS.out]; exact ⟨none, 0, rfl, Nat.le_refl _, by omega, fun h => (h rfl).elim⟩
          · have hms : mkStep ⟨K, M, A, D⟩ = ⟨1, 0, 0, []⟩ := by unfold mkStep; simp only; rw [if_neg (by have := HK.out; omega), if_neg (by have := HK.out; omega)]
            have HMS := Lib.hid hms
            clear hms
            have hM4 : ¬ ((M : Int) % 4) = 0 := by omega
            go_wp2_with fail
            go_meet
            refine ⟨.slice none 0 0, Lib.hid ⟨?_, ?_, ?_⟩⟩
            · exact ((Fr.refl _ wr).alloc _).alloc _
            · rw [HMS.out]; exact Blk.newAt _ _ _ _ (by simp)
            · rw [HMS.out]; exact ⟨none, 0, rfl, Nat.le_refl _, by omega, fun h => (h rfl).elim⟩
      case rest =>
      obtain ⟨d', HC⟩ := hcut
      have hgen := HC.out
      have hmk : ∃ Y, Y = mkStep ⟨K, M, A, D⟩ := ⟨_, rfl⟩
      obtain ⟨Y, hY⟩ := hmk
      rw [← hY] at hgen
      have HY := Lib.hid hY
      clear hY HC
      obtain ⟨yk, ya, ym, yd⟩ := Y
      obtain ⟨hg, hB, hR⟩ := hgen
      obtain ⟨p9, c9, rfl, _⟩ := id hR
      have z0 : wc.cell? ⟨wr.heap.size + 1, 0, none⟩ = some (.int .i64 (yk : Int)) := hB.cellAt 0 _ rfl
      have z1 : wc.cell? ⟨wr.heap.size + 1, 1, none⟩ = some (.int .i64 (ya : Int)) := hB.cellAt 1 _ rfl
      have z2 : wc.cell? ⟨wr.heap.size + 1, 2, none⟩ = some (.int .i64 (ym : Int)) := hB.cellAt 2 _ rfl
      have z3 : wc.cell? ⟨wr.heap.size + 1, 3, none⟩ = some (.slice p9 yd.length c9) := hB.cellAt 3 _ rfl
      have hltY := hB.lt
      have hGz : Grow wc (wc.alloc (.cells #[.int .i64 (yk : Int), .int .i64 (ya : Int), .int .i64 (ym : Int), .slice p9 yd.length c9] 30)) := (Fr.refl _ _).alloc _
      have HGz := Lib.hid hGz
      have HRz := Lib.hid hR
      have HG := Lib.hid hg
      have hlen : ((ops.take i).map mkStep).length ≤ 1000000 := by rw [List.length_map, List.length_take]; omega
      have HLen := Lib.hid hlen
      clear hGz hR hg hB hlen e0 e1 e2 e3
      go_wp2_with (at_builtin; refine wpList_appendStep _ rfl _ _ rfl _ ((ops.take i).map mkStep) ⟨yk, ya, ym, yd⟩ (.slice p9 yd.length c9) wc.heap.size ((HI.out.2.1.grow HG.out).grow HGz.out) (Blk.new wc _ _) HLen.out (HRz.out.keep HGz.out.bytes) rfl rfl ?_; intro v9 w9 hS9 hF9 hfr9; obtain ⟨p8, c8, rfl, _⟩ := hS9.slice)
      go_roundg (gk - 1)
      case measure => omega
      case rel =>
        have e1 : (ops.take i).map mkStep ++ [⟨yk, ya, ym, yd⟩] = (ops.take (i + 1)).map mkStep := by rw [List.take_add_one, HX.out, HY.out]; simp
        refine ⟨i + 1, by omega, by go_num, Lib.hid ⟨Grow.trans' (HI.out.1.trans (HG.out.trans HGz.out)) hF9 (fun k hk => HI.out.2.2 k hk.1), ?_, fun k hk => ?_⟩⟩
        · rw [← e1]; simpa using hS9
        · rcases hfr9 k (by simpa using hk) with e | e
          · exact HI.out.2.2 k e
          · exact Nat.le_trans (Nat.le_trans HI.out.1.size (Nat.le_trans HG.out.size HGz.out.size)) e
end Go.Proofs.YtdhhccpeikhilaaDoor
