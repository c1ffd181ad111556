/- laws.FnRQPlays, walked. -/
import Derived.Test.YtgdkbflhgcchfaaB4
import Derived.Test.YtgdkbflhgcchfaaB13
import Derived.Test.YtgdkbflhgcchfaaB15
namespace Go.Proofs.Ytgdkbflhgcchfaa
open Go.RowKit

theorem St0_ref (w : World) : RefE (w.alloc (.cells #[.slice none 0 0, .slice none 0 0, .slice none 0 0, .slice none 0 0, .slice none 0 0, .slice none 0 0, .bool false, .bool false, .bool false] 54)) w.heap.size (fun _ => .slice none 0 0) (fun _ => .slice none 0 0) St0 := by
  refine ⟨Blk.new w _ _, fun i hi => ?_, fun i hi => ?_, (fun _ _ _ _ _ _ e => nomatch e), (fun _ _ _ _ _ _ e => nomatch e)⟩
  · have hc : i = 0 ∨ i = 1 ∨ i = 2 := by omega
    rcases hc with rfl | rfl | rfl <;> exact RowAt.nil _
  · have hc : i = 0 ∨ i = 1 ∨ i = 2 := by omega
    rcases hc with rfl | rfl | rfl <;> exact RowAt.nil _
/-- The law between two acts of the reference. -/
structure RefIn (w wr : World) (s : Nat) (st : St) (u v : Value) (ys : List Sn) (xs : List Sp) : Prop where
  grow : Grow w wr
  ref : ∃ cv ov, RefE wr s cv ov st ∧ ∀ k, RefR s cv ov k → w.heap.size ≤ k
  seen : SeenAt wr u ys
  unew : ∀ k, u.ownBlock = some k → w.heap.size ≤ k
  steps : StepsAt wr v xs
section
variable {w wr w' : World} {s : Nat} {st st' : St} {u v u' : Value} {ys : List Sn} {xs : List Sp}
theorem RefIn.growTo (h : RefIn w wr s st u v ys xs) (hG : Grow wr w') : RefIn w w' s st u v ys xs := by
  obtain ⟨h1, ⟨cv, ov, h2, h3⟩, h4, h5, h6⟩ := h
  exact ⟨h1.trans hG, ⟨cv, ov, h2.grow hG, h3⟩, h4.grow hG, h5, h6.grow hG⟩
theorem RefE.noRow {cv ov : Nat → Value} (h : RefE wr s cv ov st) {k : Nat} {cur : Array Value} {T : TypeId} {f : Nat × Nat} (hk : wr.heap[k]? = some (Obj.cells cur T f)) (hT : T = 44 ∨ T = 35 ∨ T = 5) : ¬ RefR s cv ov k := fun e => by
  obtain ⟨cur', T', f', h1, h2⟩ := h.typed k e
  have := Option.some.inj (h1.symm.trans hk)
  injection this with _ x _
  subst x
  rcases hT with rfl | rfl | rfl <;> rcases h2 with h2 | h2 | h2 <;> exact absurd h2 (by decide)
theorem RefIn.act (h : RefIn w wr s st u v ys xs) {cv ov : Nat → Value} (hr : RefE wr s cv ov st) (hn : ∀ k, RefR s cv ov k → w.heap.size ≤ k) (hR : ROut wr w' s cv ov st') : RefIn w w' s st' u v ys xs := by
  obtain ⟨cv', ov', g1, g2, g3⟩ := hR
  have hkb : KeepB wr w' := g2.bytes (fun k hk ⟨c, f, hb⟩ => hr.noRow hb (.inr (.inr rfl)) hk)
  refine ⟨h.grow.trans' g2 hn, ⟨cv', ov', g1, fun k hk => (g3 k hk).elim (hn k) (fun e => Nat.le_trans h.grow.size e)⟩, h.seen.keep (fun k hk => ?_) hkb, h.unew, h.steps.keep (fun k hk => ?_) hkb⟩
  · obtain ⟨cur, f, hc⟩ := h.seen.1 k hk
    exact g2.block k (h.seen.lt hk) (hr.noRow hc (.inl rfl))
  · obtain ⟨cur, f, hc⟩ := h.steps.1 k hk
    exact g2.block k (h.steps.lt hk) (hr.noRow hc (.inr (.inl rfl)))
theorem RefIn.app (h : RefIn w wr s st u v ys xs) {ys' : List Sn} (hS : SeenAt w' u' ys') (hF : Fr (fun k => u.ownBlock = some k ∧ ¬ BytesBlk wr k) wr w') (hv : ∀ k, u'.ownBlock = some k → u.ownBlock = some k ∨ (wr.heap.size ≤ k ∧ k < w'.heap.size)) : RefIn w w' s st u' v ys' xs := by
  obtain ⟨cv, ov, hr, hn⟩ := h.ref
  have hkb := hF.bytes (fun k hk => hk.2)
  refine ⟨h.grow.trans' hF (fun k hk => h.unew k hk.1), ⟨cv, ov, hr.keep (fun k hk => ?_) hkb, hn⟩, hS, fun k hk => (hv k hk).elim (h.unew k) (fun e => Nat.le_trans h.grow.size e.1), h.steps.keep (fun k hk => hF.block k (h.steps.lt hk) (fun e => ?_)) hkb⟩
  · obtain ⟨cur, T, f, hc, _⟩ := hr.typed k hk
    refine hF.block k (Array.getElem?_eq_some_iff.1 hc).1 (fun e => ?_)
    obtain ⟨cur', f', hc'⟩ := h.seen.1 k e.1
    exact hr.noRow hc' (.inl rfl) hk
  · obtain ⟨cur, f, hc⟩ := h.steps.1 k hk
    obtain ⟨cur', f', hc'⟩ := h.seen.1 k e.1
    have := Option.some.inj (hc.symm.trans hc')
    injection this with _ x _
    exact absurd x (by decide)
end

set_option maxRecDepth 100000 in
set_option maxHeartbeats 8000000 in
theorem plays_any (w : World) (v : Value) (ops : List ROp) (h : OpsAt w v ops)
    (HSt : ∀ (W : World), Grow w W → Calls Try.prog 6 #[v] W fun e w' => Grow W w' ∧ ∃ v' xs, e = .returned v' ∧ StepsAt w' v' xs ∧ xs.length ≤ 60 ∧ (∀ x ∈ xs, x.Ok) ∧ ∀ k, v'.ownBlock = some k → W.heap.size ≤ k) :
    Calls Try.prog 4 #[v] w fun e w' => e = .returned (.bool true) ∧ Grow w w' := by
  have H5 := Lib.hid (fits3 w v ops h)
  have H6 := Lib.hid HSt
  clear h HSt
  go_enter Try.func4, Try.ntmps4
  go_wp2_with fail
  refine H5.out.mono ?_
  rintro e w1 ⟨⟨bb, rfl⟩, hG1⟩
  have HG1 := Lib.hid hG1
  clear hG1
  cases bb
  · go_wp2_with fail
    go_ret
    exact ⟨rfl, HG1.out⟩
  go_wp2_with fail
  refine (H6.out w1 HG1.out).mono ?_
  rintro e w2 ⟨hG2, v3, xs, rfl, hS, hl, hok, hnew⟩
  obtain ⟨p3, c3, rfl, hlc, _⟩ := hS.slice
  have HI : Hid (RefIn w (w2.alloc (.cells #[.slice none 0 0, .slice none 0 0, .slice none 0 0, .slice none 0 0, .slice none 0 0, .slice none 0 0, .bool false, .bool false, .bool false] 54)) w2.heap.size St0 (.slice none 0 0) (.slice p3 xs.length c3) [] xs) :=
    Lib.hid ⟨(HG1.out.trans hG2).alloc _, ⟨_, _, St0_ref w2, fun k hk => by
      rcases hk with rfl | ⟨i, _, e | e⟩
      · exact (HG1.out.trans hG2).size
      · cases e
      · cases e⟩, RowAt.nil _, (fun _ e => nomatch e), hS.grow ((Fr.refl _ w2).alloc _)⟩
  have Hok := Lib.hid hok
  clear hG2 hS hok hnew
  go_wp2_with fail
  generalize w2.alloc (.cells #[.slice none 0 0, .slice none 0 0, .slice none 0 0, .slice none 0 0, .slice none 0 0, .slice none 0 0, .bool false, .bool false, .bool false] 54) = w3 at *
  go_loopg [5, 20] xs.length (fun k s5 s20 wr => ∃ i : Nat, k + i = xs.length ∧ s20 = .int .i64 (i : Int) ∧ Hid (RefIn w wr w2.heap.size (St0.run (xs.take i)) s5 (.slice p3 xs.length c3) (sees St0 (xs.take i)) xs))
  case atStart => exact ⟨0, by simp, rfl, HI⟩
  case round =>
    obtain ⟨i, hk, rfl, HI⟩ := hrel
    by_cases hend : i = xs.length
    · have hne : ¬ (i < xs.length) := by omega
      have HE : Hid (RefIn w wr w2.heap.size (St0.run xs) u5 (.slice p3 xs.length c3) (sees St0 xs) xs) := Lib.hid (by have := HI.out; rwa [List.take_of_length_le (by omega)] at this)
      have HP := Lib.hid (rqPlay_any wr _ xs HE.out.steps (by omega) Hok.out)
      have hsl : (sees St0 xs).length = xs.length := sees_length xs St0
      obtain ⟨p5, c5, hu5, _⟩ := HE.out.seen.slice
      rw [hsl] at hu5
      subst hu5
      have HSL := Lib.hid hsl
      clear hsl
      go_wp2_with (go_at_call 9; refine HP.out.mono ?_; rintro e w4 ⟨hG4, vs, rfl, hS4⟩; obtain ⟨p6, c6, hu6, _⟩ := hS4.slice; rw [HSL.out] at hu6; subst hu6; have HJ := Lib.hid (show Grow w w4 ∧ SeenAt w4 (.slice p5 xs.length c5) (sees St0 xs) ∧ SeenAt w4 (.slice p6 xs.length c6) (sees St0 xs) from ⟨HE.out.grow.trans hG4, HE.out.seen.grow hG4, hS4⟩); clear hG4 hS4)
      go_loopg [40] xs.length (fun k s40 wx => ∃ j : Nat, k + j = xs.length ∧ s40 = .int .i64 (j : Int) ∧ Hid (Grow w wx ∧ SeenAt wx (.slice p5 xs.length c5) (sees St0 xs) ∧ SeenAt wx (.slice p6 xs.length c6) (sees St0 xs)))
      case atStart => exact ⟨0, by simp, rfl, HJ⟩
      case round =>
        obtain ⟨j, hk, rfl, HJ⟩ := hrel
        by_cases hej : j = xs.length
        · have hne : ¬ (j < xs.length) := by omega
          go_wp2_with (go_at_call 11; refine (awake_any _).mono ?_; rintro e w9 ⟨rfl, hG9⟩; have HG9 := Lib.hid hG9; clear hG9)
          go_ret
          exact ⟨rfl, HJ.out.1.trans HG9.out⟩
        · have hjl : j < (sees St0 xs).length := by rw [HSL.out]; omega
          have hy : (sees St0 xs)[j]? = some ((sees St0 xs)[j]'hjl) := List.getElem?_eq_getElem hjl
          generalize (sees St0 xs)[j]'hjl = Y at hy
          obtain ⟨b5, o5, cc5, d5, hv5, _, _, hd5, hcl5, cur5, hcur5⟩ := RowAt.get (cs := snC) (size := 3) (fun _ _ => rfl) HJ.out.2.1 hy
          obtain ⟨b6, o6, cc6, d6, hv6, _, _, hd6, hcl6, cur6, hcur6⟩ := RowAt.get (cs := snC) (size := 3) (fun _ _ => rfl) HJ.out.2.2 hy
          injection hv5 with q1 q2 q3
          subst q1
          clear q2 q3
          injection hv6 with q1 q2 q3
          subst q1
          clear q2 q3
          obtain ⟨Yi, Yh, Yf⟩ := Y
          have f0 : wr.cell? ⟨b5, o5 + j * 3, none⟩ = some (.bool Yi) := hcl5 0 _ rfl
          have f1 : wr.cell? ⟨b5, o5 + j * 3 + 1, none⟩ = some (.bool Yh) := hcl5 1 _ rfl
          have f2 : wr.cell? ⟨b5, o5 + j * 3 + 2, none⟩ = some d5 := hcl5 2 _ rfl
          have g0 : wr.cell? ⟨b6, o6 + j * 3, none⟩ = some (.bool Yi) := hcl6 0 _ rfl
          have g1 : wr.cell? ⟨b6, o6 + j * 3 + 1, none⟩ = some (.bool Yh) := hcl6 1 _ rfl
          have g2 : wr.cell? ⟨b6, o6 + j * 3 + 2, none⟩ = some d6 := hcl6 2 _ rfl
          have hlt5 := (Array.getElem?_eq_some_iff.1 hcur5).1
          have hlt6 := (Array.getElem?_eq_some_iff.1 hcur6).1
          have HD5 := Lib.hid hd5
          have HD6 := Lib.hid hd6
          have hjn : j < xs.length := by omega
          clear hcl5 hcl6 hcur5 hcur6 hd5 hd6 hy hej hjl
          go_upto_region 17 with fail
          go_quiet ((go_at_call 13; exact Calls.quiet_of_same (flip_world (equal_same _ _ _ Yf HD6.out HD5.out))))
          go_wp2_with fail
          go_roundg (gk - 1)
          case measure => omega
          case rel => exact ⟨j + 1, by omega, by go_num, Lib.hid ⟨HJ.out.1.trans (drewN_grow wr nq), HJ.out.2.1.grow (drewN_grow wr nq), HJ.out.2.2.grow (drewN_grow wr nq)⟩⟩
    · have hxi : xs[i]? = some (xs[i]'(by omega)) := List.getElem?_eq_getElem (by omega)
      have htk : xs.take (i + 1) = xs.take i ++ [xs[i]'(by omega)] := by rw [List.take_add_one, hxi]; rfl
      have hx0 : xs[i]'(by omega) ∈ xs := List.getElem_mem _
      generalize xs[i]'(by omega) = x at hxi htk hx0
      have hxok := Hok.out x hx0
      obtain ⟨st, hs⟩ : ∃ st, st = St0.run (xs.take i) := ⟨_, rfl⟩
      obtain ⟨ys, hysd⟩ : ∃ ys, ys = sees St0 (xs.take i) := ⟨_, rfl⟩
      have hnx : St0.run (xs.take (i + 1)) = (st.step x).2 := by rw [htk, run_snoc, ← hs]
      have hny : sees St0 (xs.take (i + 1)) = ys ++ [(st.step x).1] := by rw [htk, sees_snoc, ← hs, ← hysd]
      have hsok : SOk3 100 st := by
        have h1 := run_ok (xs.take i) 0 St0 St0_ok (fun y hy => Hok.out y (List.mem_of_mem_take hy))
        rw [← hs] at h1
        exact fun n L hn e => (h1 n L hn e).mono (by rw [List.length_take]; omega)
      have hyl : ys.length ≤ 300 := by rw [hysd, sees_length, List.length_take]; omega
      have HI2 := HI.out
      rw [← hs, ← hysd] at HI2
      have HI3 := Lib.hid HI2
      have HN := Lib.hid (And.intro hnx hny)
      have HSO := Lib.hid hsok
      have HXO := Lib.hid hxok
      obtain ⟨bs, o, cs, d, hv, _, _, hd, hcell, cur, hcur⟩ := RowAt.get (cs := stC) (size := 8) (fun _ _ => rfl) HI2.steps hxi
      injection hv with hv1 hv2 hv3
      subst hv1
      clear hv2 hv3
      have e0 : wr.cell? ⟨bs, o + i * 8, none⟩ = some (.int .i64 (x.kind : Int)) := hcell 0 _ rfl
      have e1 : wr.cell? ⟨bs, o + i * 8 + 1, none⟩ = some (.int .i64 (x.lev : Int)) := hcell 1 _ rfl
      have e2 : wr.cell? ⟨bs, o + i * 8 + 2, none⟩ = some (.int .i64 (x.ty : Int)) := hcell 2 _ rfl
      have e3 : wr.cell? ⟨bs, o + i * 8 + 3, none⟩ = some (.int .u64 (x.a : Int)) := hcell 3 _ rfl
      have e4 : wr.cell? ⟨bs, o + i * 8 + 4, none⟩ = some (.int .u64 (x.b : Int)) := hcell 4 _ rfl
      have e5 : wr.cell? ⟨bs, o + i * 8 + 5, none⟩ = some (.int .u64 (x.c : Int)) := hcell 5 _ rfl
      have e6 : wr.cell? ⟨bs, o + i * 8 + 6, none⟩ = some d := hcell 6 _ rfl
      have e7 : wr.cell? ⟨bs, o + i * 8 + 7, none⟩ = some (.int .i64 (x.most : Int)) := hcell 7 _ rfl
      have hbl : bs < wr.heap.size := (Array.getElem?_eq_some_iff.1 hcur).1
      have hys : i < xs.length := by omega
      obtain ⟨pd, cd, rfl, _⟩ := id hd
      have Hd := Lib.hid hd
      clear hcell hcur cur hxi hd hend HI HI2 hs hysd hnx hny hsok hxok htk hx0
      go_upto_region 9 with fail
      have HGa : Hid (Grow wr (wr.alloc (.cells (stC x (.slice pd x.data.length cd)).toArray 35))) := Lib.hid ((Fr.refl _ _).alloc _)
      have hX : Blk (wr.alloc (.cells (stC x (.slice pd x.data.length cd)).toArray 35)) wr.heap.size (stC x (.slice pd x.data.length cd)).toArray 35 := Blk.new wr _ _
      have hfold : #[Value.int .i64 (x.kind : Int), .int .i64 (x.lev : Int), .int .i64 (x.ty : Int), .int .u64 (x.a : Int), .int .u64 (x.b : Int), .int .u64 (x.c : Int), .slice pd x.data.length cd, .int .i64 (x.most : Int)] = (stC x (.slice pd x.data.length cd)).toArray := rfl
      rw [hfold]
      clear hfold
      generalize (wr.alloc (.cells (stC x (.slice pd x.data.length cd)).toArray 35)) = wa at *
      have x0 : wa.cell? ⟨wr.heap.size, 0, none⟩ = some (.int .i64 (x.kind : Int)) := hX.cellAt 0 _ rfl
      have x1 : wa.cell? ⟨wr.heap.size, 1, none⟩ = some (.int .i64 (x.lev : Int)) := hX.cellAt 1 _ rfl
      have x2 : wa.cell? ⟨wr.heap.size, 2, none⟩ = some (.int .i64 (x.ty : Int)) := hX.cellAt 2 _ rfl
      have x3 : wa.cell? ⟨wr.heap.size, 3, none⟩ = some (.int .u64 (x.a : Int)) := hX.cellAt 3 _ rfl
      have x4 : wa.cell? ⟨wr.heap.size, 4, none⟩ = some (.int .u64 (x.b : Int)) := hX.cellAt 4 _ rfl
      have x5 : wa.cell? ⟨wr.heap.size, 5, none⟩ = some (.int .u64 (x.c : Int)) := hX.cellAt 5 _ rfl
      have x6 : wa.cell? ⟨wr.heap.size, 6, none⟩ = some (.slice pd x.data.length cd) := hX.cellAt 6 _ rfl
      have x7 : wa.cell? ⟨wr.heap.size, 7, none⟩ = some (.int .i64 (x.most : Int)) := hX.cellAt 7 _ rfl
      have hltX := hX.lt
      have HI4 := Lib.hid (HI3.out.growTo HGa.out)
      obtain ⟨cv, ov, hre, hrn⟩ := HI4.out.ref
      have HC := Lib.hid (step_ref hre HSO.out (by omega) x HXO.out (.slice pd x.data.length cd) (Hd.out.keep (Grow.bytes HGa.out)))
      have HA : Hid (∀ w5, ROut wa w5 w2.heap.size cv ov (st.step x).2 → RefIn w w5 w2.heap.size (st.step x).2 u5 (.slice (some ⟨bs, o, none⟩) xs.length c3) ys xs) := Lib.hid fun w5 hr => HI4.out.act hre hrn hr
      obtain ⟨Y, hY⟩ : ∃ Y, Y = (st.step x).1 := ⟨_, rfl⟩
      have HN2 : Hid (St0.run (xs.take (i + 1)) = (st.step x).2 ∧ sees St0 (xs.take (i + 1)) = ys ++ [Y]) := Lib.hid (by rw [hY]; exact HN.out)
      have HC2 : Hid (Calls Try.prog 12 #[pt w2.heap.size, stA x (.slice pd x.data.length cd)] wa fun e w' => (∃ d', e = .returned (.agg #[.bool Y.is, .bool Y.has, d']) ∧ Rd w' d' Y.frame) ∧ ROut wa w' w2.heap.size cv ov (st.step x).2) := Lib.hid (by rw [hY]; exact HC.out)
      clear e0 e1 e2 e3 e4 e5 e6 e7 hbl hX hre hrn HC hY
      obtain ⟨Yi, Yh, Yf⟩ := Y
      go_wp2_with fail
      refine HC2.out.mono ?_
      rintro e w5 ⟨⟨d', rfl, hrd⟩, hro⟩
      obtain ⟨p9, c9, rfl, _⟩ := id hrd
      have HR5 := Lib.hid (HA.out w5 hro)
      have HD5 := Lib.hid hrd
      clear hrd hro x0 x1 x2 x3 x4 x5 x6 x7 hltX
      have HR6 := Lib.hid (HR5.out.growTo ((Fr.refl _ w5).alloc (.cells #[.bool Yi, .bool Yh, .slice p9 Yf.length c9] 44)))
      have HD6 := Lib.hid (HD5.out.keep (w' := w5.alloc (.cells #[.bool Yi, .bool Yh, .slice p9 Yf.length c9] 44)) (Grow.bytes ((Fr.refl _ w5).alloc _)))
      go_wp2_with (at_builtin; refine wpList_append_run _ rfl _ _ 39 rfl _ _ rfl rfl (run_appendSeen u5 ys ⟨Yi, Yh, Yf⟩ _ w5.heap.size HR6.out.seen (Blk.new w5 _ _) (by omega) HD6.out) ?_; rintro v' w' ⟨g1, g2, g3⟩; have HE := Lib.hid (HR6.out.app g1 g2 g3); clear g1 g2 g3)
      go_roundg (gk - 1)
      case measure => omega
      case rel =>
        refine ⟨i + 1, by omega, by go_num, ?_⟩
        rw [HN2.out.1, HN2.out.2]
        exact HE
end Go.Proofs.Ytgdkbflhgcchfaa
