/- impl.CYPlay, walked: the acts of a stream that receives. -/
import Derived.Test.YtdhhccpeikhilaaDoorC10
import Derived.Deep.CutRange
import Derived.Deep.CutBlock
import Derived.Deep.LoopGhost
import Derived.Defers
namespace Go.Proofs.YtdhhccpeikhilaaDoor
open Go.RowKit

set_option maxRecDepth 100000 in
set_option maxHeartbeats 4000000 in
theorem play_recv (w0 : World) (v : Value) (xs : List Stp) (hst : StepsAt w0 v xs) (hl : xs.length ≤ 60) (hok : ∀ x ∈ xs, RecvOk x) :
    Calls Tryd.prog 17 #[.bool false, .bool false, v] w0 fun e w => Grow w0 w ∧ ∃ (vs : Value) (ys : List Sn) (s : RS) (g : Nat), e = .returned (.tuple #[vs, .bool true]) ∧ ys.length = xs.length ∧ SeenAt w vs ys ∧ Ran RStep ⟨0, 0, false, [⟨g, 0, 4611686018427387903⟩], fun _ => none⟩ xs ys s := by
  obtain ⟨pv, cv, rfl, hlc, hcm⟩ := hst.slice
  have Hst := Lib.hid hst
  have Hok := Lib.hid hok
  clear hst hok
  go_enter_defers Tryd.func17, Tryd.ntmps17
  go_wp2_with (go_at_call 24; refine (new_plain _).mono ?_; rintro e w1 ⟨hg1, x, b, r, bL, g, rfl, h1, h2, h3, h4, h5, hx, hC⟩)
  have hK0 : Blk w1 w0.heap.size #[.bool false] 4 := by
    refine hg1.blk (Blk.new w0 _ _) (fun h => h)
  have hG1 : Grow w0 w1 := ((Fr.refl _ w0).alloc _).trans hg1
  have hlt0 : ∀ k, (w0.alloc (.cells #[.bool false] 4)).heap.size ≤ k → w0.heap.size < k := fun k h => by simp at h; omega
  have HI : Hid (RecvIn w0 w1 x b r bL (rs0 g) 1) := Lib.hid ⟨hG1, hK0, ⟨hx, hC, good_new g⟩, ⟨hlt0 _ h1, hlt0 _ h2, hlt0 _ h3, hlt0 _ h4, fun q hq => by rw [List.mem_singleton] at hq; subst hq; exact hlt0 _ h5⟩, Nat.le_refl _⟩
  clear hg1 h1 h2 h3 h4 h5 hx hC hK0 hG1 hlt0
  go_wp2_with fail
  go_loopg [6, 23] xs.length (fun k s6 s23 wr => ∃ (ys : List Sn) (s : RS), k + ys.length = xs.length ∧ s23 = .int .i64 (ys.length : Int) ∧ Hid (RecvIn w0 wr x b r bL s (ys.length + 1) ∧ SeenAt wr s6 ys ∧ (∀ k, s6.ownBlock = some k → w0.heap.size < k) ∧ Ran RStep (rs0 g) xs ys s))
  case atStart => exact ⟨[], rs0 g, by simp, rfl, Lib.hid ⟨HI.out, RowAt.nil _, (fun k h => nomatch h), Ran.nil _ _ _⟩⟩
  case round =>
    obtain ⟨ys, s, hk, rfl, HI⟩ := hrel
    have c0 : wr.cell? ⟨w0.heap.size, 0, none⟩ = some (.bool false) := HI.out.1.ok.cellAt 0 _ rfl
    have f0 := HI.out.1.ok.free
    by_cases hend : ys.length = xs.length
    · have hne : ¬ (ys.length < xs.length) := by omega
      go_wp2_with fail
      refine leaves_cons (f := 23) (args := #[.pointer (some ⟨w0.heap.size, 0, none⟩)]) (by simp) (by simp [go_sem]) ?_
      refine (caught_idle _ _).mono ?_
      rintro e u w' ⟨rfl, rfl, rfl⟩
      simp [Leaves, settle, results, Tryd.results17, go_sem, c0]
      exact ⟨HI.out.1.grow.setCell _ _ (.inr (Nat.le_refl _)), ys, hend, HI.out.2.1.set HI.out.1.ok (by decide) (fun j hj => Nat.ne_of_gt (HI.out.2.2.1 j hj)) 0 _, s, g, HI.out.2.2.2⟩
    · have hxi : xs[ys.length]? = some (xs[ys.length]'(by omega)) := List.getElem?_eq_getElem (by omega)
      generalize xs[ys.length]'(by omega) = X at hxi
      obtain ⟨K, A, M, D⟩ := X
      have HX := Lib.hid hxi
      have hXok : RecvOk ⟨K, A, M, D⟩ := Hok.out _ (List.mem_of_getElem? hxi)
      obtain ⟨hXo, hXd, hXk⟩ := hXok
      obtain ⟨bs, o, cs, d, hv, _, _, hd, hcell, cur, hcur⟩ := RowAt.get (cs := stC) (size := 4) (fun _ _ => rfl) (Hst.out.grow HI.out.1.grow) hxi
      injection hv with hv1 hv2 hv3
      subst hv1
      subst hv3
      have e0 : wr.cell? ⟨bs, o + ys.length * 4, none⟩ = some (.int .i64 (K : Int)) := hcell 0 _ rfl
      have e1 : wr.cell? ⟨bs, o + ys.length * 4 + 1, none⟩ = some (.int .i64 (A : Int)) := hcell 1 _ rfl
      have e2 : wr.cell? ⟨bs, o + ys.length * 4 + 2, none⟩ = some (.int .i64 (M : Int)) := hcell 2 _ rfl
      have e3 : wr.cell? ⟨bs, o + ys.length * 4 + 3, none⟩ = some d := hcell 3 _ rfl
      have hbl : bs < wr.heap.size := (Array.getElem?_eq_some_iff.1 hcur).1
      have hys : ys.length < xs.length := by omega
      obtain ⟨pd, cd, rfl, _⟩ := id hd
      have Hd := Lib.hid hd
      clear hcell hcur cur hxi hd hend c0 f0
      go_upto_region 8 with fail
      have hX : Blk ((wr.alloc (.cells #[.int .i64 (K : Int), .int .i64 (A : Int), .int .i64 (M : Int), .slice pd D.length cd] 30)).alloc (.cells #[.bool false, .bool false, .int .i64 0, .slice none 0 0, .int .i64 0] 41)) wr.heap.size #[.int .i64 (K : Int), .int .i64 (A : Int), .int .i64 (M : Int), .slice pd D.length cd] 30 := (Blk.new wr _ _).alloc _
      have hY : Blk ((wr.alloc (.cells #[.int .i64 (K : Int), .int .i64 (A : Int), .int .i64 (M : Int), .slice pd D.length cd] 30)).alloc (.cells #[.bool false, .bool false, .int .i64 0, .slice none 0 0, .int .i64 0] 41)) (wr.heap.size + 1) #[.bool false, .bool false, .int .i64 0, .slice none 0 0, .int .i64 0] 41 := Blk.newAt _ _ _ _ (by simp)
      have hGa : Grow wr ((wr.alloc (.cells #[.int .i64 (K : Int), .int .i64 (A : Int), .int .i64 (M : Int), .slice pd D.length cd] 30)).alloc (.cells #[.bool false, .bool false, .int .i64 0, .slice none 0 0, .int .i64 0] 41)) := ((Fr.refl _ _).alloc _).alloc _
      generalize ((wr.alloc (.cells #[.int .i64 (K : Int), .int .i64 (A : Int), .int .i64 (M : Int), .slice pd D.length cd] 30)).alloc (.cells #[.bool false, .bool false, .int .i64 0, .slice none 0 0, .int .i64 0] 41)) = wa at *
      have x0 : wa.cell? ⟨wr.heap.size, 0, none⟩ = some (.int .i64 (K : Int)) := hX.cellAt 0 _ rfl
      have x3 : wa.cell? ⟨wr.heap.size, 3, none⟩ = some (.slice pd D.length cd) := hX.cellAt 3 _ rfl
      have hda : Rd wa (.slice pd D.length cd) D := Hd.out.keep hGa.bytes
      have hltX := hX.lt
      have hys2 : ys.length < 60 := by omega
      have HGa := Lib.hid hGa
      have HX1 := Lib.hid hX
      have HY1 := Lib.hid hY
      clear hGa e0 e1 e2 e3 hbl hX hY
      go_upto_block 2 with (at_builtin; refine wpList_appendB _ rfl _ _ rfl (.slice none 0 0) _ [] D (Own.nil wa 5 1) hda (by simp; omega) rfl rfl ?_; intro dv wb hOb hFb hfrb; obtain ⟨_, pb, cb, rfl, _⟩ := id hOb; have hXb := hFb.blk HX1.out (fun e => nomatch e); have hYb := hFb.blk HY1.out (fun e => nomatch e); have hGb : Grow wr wb := HGa.out.trans (hFb.mono (fun k _ e => nomatch e)); have xb0 : wb.cell? ⟨wr.heap.size, 0, none⟩ = some (.int .i64 (K : Int)) := hXb.cellAt 0 _ rfl)
      have hRb := hOb.rd
      have hIb := HI.out.1.keepG hGb
      have hSb := HI.out.2.1.grow hGb
      have HIb := Lib.hid hIb
      have HSb := Lib.hid hSb
      have HRb := Lib.hid hRb
      have HXb := Lib.hid hXb
      have HYb := Lib.hid hYb
      have HGb := Lib.hid hGb
      have hltY := hYb.lt
      have hfY := hYb.free
      have y3 : wb.cell? ⟨wr.heap.size + 1, 3, none⟩ = some (.slice none 0 0) := hYb.cellAt 3 _ rfl
      clear x0 x3 hda hltX hFb hfrb hOb hXb hYb hGb hRb hIb hSb xb0
      go_cut [12, 14, 15] from 32 to 80 (fun ev _ _ wx => ∃ (s' : RS) (y : Sn) (ds : Value), y.has = false ∧ y.off = 0 ∧ Hid (RStep s ⟨K, A, M, D⟩ y s' ∧ RecvIn w0 wx x b r bL s' (ys.length + 2) ∧ SeenAt wx u6 ys ∧ Blk wx (wr.heap.size + 1) #[.bool y.is, .bool false, .int .i64 0, ds, .int .i64 0] 41 ∧ Rd wx ds y.data ∧ ErrIs wx ev y.code))
      case first =>
        have xb1 : wb.cell? ⟨wr.heap.size, 1, none⟩ = some (.int .i64 (A : Int)) := HXb.out.cellAt 1 _ rfl
        have hltX : wr.heap.size < wb.heap.size := HXb.out.lt
        rcases hXk with ⟨rfl, hDp⟩ | rfl | rfl
        · go_wp2_with (go_at_call 25; refine (recv_handle w0 _ x b r bL (ys.length + 1) wb.heap.size A M s pb cb D (HIb.out.keepG ((Fr.refl _ wb).alloc _)) (by omega) (Blk.new wb _ _) (HRb.out.keep (Grow.bytes ((Fr.refl _ wb).alloc _))) hDp hXo hXd).mono ?_; rintro e w2 ⟨ev, s', code, rfl, hE, hS, hI, hK⟩)
          go_meet
          exact ⟨s', ⟨false, false, 0, [], code⟩, .slice none 0 0, rfl, rfl, Lib.hid ⟨hS, hI, hK.row (HSb.out.grow ((Fr.refl _ wb).alloc _)) (by decide) (by decide) (by decide), hK.blk (HYb.out.alloc _) (by decide) (by decide) (by decide), ⟨none, 0, rfl, Nat.le_refl _, by omega, fun h => (h rfl).elim⟩, hE⟩⟩
        · go_wp2_with (first | (go_at_call 26; refine (recv_data w0 _ x b r bL (ys.length + 1) A M s D HIb.out).mono ?_; rintro e w2 ⟨dv, d, s', rfl, hr, hS, hdl, hI, hK⟩; obtain ⟨p2, c2, rfl, _⟩ := id hr) | (at_builtin; refine wpList_appendB _ rfl _ _ rfl (.slice none 0 0) _ [] d (Own.nil _ 5 1) hr (by simp; omega) rfl rfl ?_; intro dv w3 hO3 hF3 hfr3; obtain ⟨_, p3, c3, rfl, _⟩ := id hO3; have hG3 : Grow w2 w3 := hF3.mono (fun k _ e => nomatch e); have hY3 := hG3.blk (hK.blk HYb.out (by decide) (by decide) (by decide)) (fun e => e); have y0 : w3.cell? ⟨wr.heap.size + 1, 0, none⟩ = some (.bool false) := hY3.cellAt 0 _ rfl; have y3 : w3.cell? ⟨wr.heap.size + 1, 3, none⟩ = some (.slice none 0 0) := hY3.cellAt 3 _ rfl; have hltY := hY3.lt; have hfY := hY3.free))
          go_meet
          have hne : ∀ j, u6.ownBlock = some j → j ≠ wr.heap.size + 1 := fun j hj => by have := HI.out.2.1.lt hj; omega
          have hSw := (hK.row HSb.out (by decide) (by decide) (by decide)).grow hG3
          have hY4 := hY3.set 0 (.bool (decide (0 < d.length)))
          have hks : w0.heap.size ≤ wr.heap.size + 1 := by have := HI.out.1.grow.size; omega
          have hI3 := ((hI.keepG hG3).set hY3 hks 0 (.bool (decide (0 < d.length)))).set hY4 hks 3 (.slice p3 d.length c3)
          exact ⟨s', ⟨decide (0 < d.length), false, 0, d, 0⟩, .slice p3 d.length c3, rfl, rfl, Lib.hid ⟨hS, ⟨hI3.grow, hI3.ok, hI3.st, hI3.nb, Nat.le_succ_of_le hI3.len⟩, (hSw.set hY3 (by decide) hne 0 _).set hY4 (by decide) hne 3 _, hY4.set 3 _, (hO3.rd.set hY3 (by decide) 0 _).set hY4 (by decide) 3 _, .inl ⟨rfl, rfl⟩⟩⟩
        · go_wp2_with (go_at_call 27; refine (recv_finish w0 _ x b r bL (ys.length + 1) A M s D HIb.out).mono ?_; rintro e w2 ⟨ev, s', code, rfl, hE, hS, hI, hK⟩)
          go_meet
          exact ⟨s', ⟨false, false, 0, [], code⟩, .slice none 0 0, rfl, rfl, Lib.hid ⟨hS, ⟨hI.grow, hI.ok, hI.st, hI.nb, Nat.le_succ_of_le hI.len⟩, hK.row HSb.out (by decide) (by decide) (by decide), hK.blk HYb.out (by decide) (by decide) (by decide), ⟨none, 0, rfl, Nat.le_refl _, by omega, fun h => (h rfl).elim⟩, hE⟩⟩
      case rest =>
      obtain ⟨s', ⟨Yi, Yh, Yo, Yd, Yc⟩, ds, rfl, rfl, HC⟩ := hcut
      have hYc := HC.out.2.2.2.1
      have hE := HC.out.2.2.2.2.2
      have hYc' := Lib.hid hYc
      have hltY := hYc.lt
      have hfY := hYc.free
      have hne : ∀ j, u6.ownBlock = some j → j ≠ wr.heap.size + 1 := fun j hj => by have := HI.out.2.1.lt hj; omega
      have hks : w0.heap.size ≤ wr.heap.size + 1 := by have := HI.out.1.grow.size; omega
      have Hne := Lib.hid hne
      clear hne
      rcases hE with ⟨rfl, rfl⟩ | ⟨be, c, rfl, hB, hc, hcl⟩
      · have y1 : wc.cell? ⟨wr.heap.size + 1, 1, none⟩ = some (.bool false) := hYc.cellAt 1 _ rfl
        have t1 := ta_nil wc
        clear hYc
        go_upto_region 29 with (go_at_call 30; refine (recv_has w0 _ x b r bL (ys.length + 2) s' HC.out.2.1).mono ?_; rintro e w2 ⟨rfl, rfl⟩)
        generalize hwz : wc.setCell ⟨wr.heap.size + 1, 1, none⟩ (.bool false) = wz at *
        have hYz : Blk wz (wr.heap.size + 1) #[.bool Yi, .bool false, .int .i64 0, ds, .int .i64 ((0 : Nat) : Int)] 41 := hwz ▸ hYc'.out.set 1 (.bool false)
        have hIz : RecvIn w0 wz x b r bL s' (ys.length + 2) := hwz ▸ HC.out.2.1.set hYc'.out hks 1 _
        have hSz : SeenAt wz u6 ys := hwz ▸ HC.out.2.2.1.set hYc'.out (by decide) Hne.out 1 _
        have hRz : Rd wz ds Yd := hwz ▸ HC.out.2.2.2.2.1.set hYc'.out (by decide) 1 _
        clear y1 t1 hltY hfY hwz
        obtain ⟨p9, c9, rfl, _⟩ := id hRz
        have z0 : wz.cell? ⟨wr.heap.size + 1, 0, none⟩ = some (.bool Yi) := hYz.cellAt 0 _ rfl
        have z1 : wz.cell? ⟨wr.heap.size + 1, 1, none⟩ = some (.bool false) := hYz.cellAt 1 _ rfl
        have z2 : wz.cell? ⟨wr.heap.size + 1, 2, none⟩ = some (.int .i64 0) := hYz.cellAt 2 _ rfl
        have z3 : wz.cell? ⟨wr.heap.size + 1, 3, none⟩ = some (.slice p9 Yd.length c9) := hYz.cellAt 3 _ rfl
        have z4 : wz.cell? ⟨wr.heap.size + 1, 4, none⟩ = some (.int .i64 ((0 : Nat) : Int)) := hYz.cellAt 4 _ rfl
        have hltY := hYz.lt
        have hGz : Grow wz (wz.alloc (.cells #[.bool Yi, .bool false, .int .i64 0, .slice p9 Yd.length c9, .int .i64 ((0 : Nat) : Int)] 41)) := (Fr.refl _ _).alloc _
        have HIz := Lib.hid hIz
        have HSz := Lib.hid hSz
        have HRz := Lib.hid hRz
        have HGz := Lib.hid hGz
        clear hYz hIz hSz hRz hGz
        go_wp2_with (at_builtin; refine wpList_appendSeen _ rfl _ _ rfl _ ys ⟨Yi, false, 0, Yd, 0⟩ (.slice p9 Yd.length c9) wz.heap.size (HSz.out.grow HGz.out) (Blk.new wz _ _) (by omega) (HRz.out.keep HGz.out.bytes) rfl rfl ?_; intro v9 w9 hS9 hF9 hfr9; obtain ⟨p8, c8, rfl, _⟩ := hS9.slice)
        go_roundg (gk - 1)
        case measure => omega
        case rel =>
          refine ⟨ys ++ [⟨Yi, false, 0, Yd, 0⟩], s', by simp; omega, by simp, Lib.hid ⟨?_, by simpa using hS9, fun k hk2 => ?_, HI.out.2.2.2.snoc HX.out HC.out.1⟩⟩
          · have h9 := (HIz.out.keepG HGz.out).row (HSz.out.grow HGz.out) HI.out.2.2.1 hF9
            exact ⟨h9.grow, h9.ok, h9.st, h9.nb, by simpa using h9.len⟩
          · rcases hfr9 k (by simpa using hk2) with e | e
            · exact HI.out.2.2.1 k e
            · exact Nat.lt_of_lt_of_le HIz.out.ok.lt (Nat.le_trans HGz.out.size e)
      · have y1 : wc.cell? ⟨wr.heap.size + 1, 1, none⟩ = some (.bool false) := hYc.cellAt 1 _ rfl
        have y4 : wc.cell? ⟨wr.heap.size + 1, 4, none⟩ = some (.int .i64 0) := hYc.cellAt 4 _ rfl
        have cB : wc.cell? ⟨be, 1, none⟩ = some (.int .u64 (Yc : Int)) := hB.cellAt 1 _ hc
        have t1 := ta_err wc (some ⟨be, 0, none⟩)
        have hltB := hB.lt
        have hcl : Yc ≤ 1000 := hcl
        have hY4 := Lib.hid (hYc.set 4 (.int .i64 (Yc : Int)))
        clear hYc hB
        go_upto_region 29 with (go_at_call 30; refine (recv_has w0 _ x b r bL (ys.length + 2) s' (HC.out.2.1.set hYc'.out hks 4 (.int .i64 (Yc : Int)))).mono ?_; rintro e w2 ⟨rfl, rfl⟩)
        generalize hwz : (wc.setCell ⟨wr.heap.size + 1, 4, none⟩ (.int .i64 (Yc : Int))).setCell ⟨wr.heap.size + 1, 1, none⟩ (.bool false) = wz at *
        have hYz : Blk wz (wr.heap.size + 1) #[.bool Yi, .bool false, .int .i64 0, ds, .int .i64 (Yc : Int)] 41 := hwz ▸ hY4.out.set 1 (.bool false)
        have hIz : RecvIn w0 wz x b r bL s' (ys.length + 2) := hwz ▸ (HC.out.2.1.set hYc'.out hks 4 _).set hY4.out hks 1 _
        have hSz : SeenAt wz u6 ys := hwz ▸ (HC.out.2.2.1.set hYc'.out (by decide) Hne.out 4 _).set hY4.out (by decide) Hne.out 1 _
        have hRz : Rd wz ds Yd := hwz ▸ (HC.out.2.2.2.2.1.set hYc'.out (by decide) 4 _).set hY4.out (by decide) 1 _
        clear y1 y4 cB t1 hltB hltY hfY hwz
        obtain ⟨p9, c9, rfl, _⟩ := id hRz
        have z0 : wz.cell? ⟨wr.heap.size + 1, 0, none⟩ = some (.bool Yi) := hYz.cellAt 0 _ rfl
        have z1 : wz.cell? ⟨wr.heap.size + 1, 1, none⟩ = some (.bool false) := hYz.cellAt 1 _ rfl
        have z2 : wz.cell? ⟨wr.heap.size + 1, 2, none⟩ = some (.int .i64 0) := hYz.cellAt 2 _ rfl
        have z3 : wz.cell? ⟨wr.heap.size + 1, 3, none⟩ = some (.slice p9 Yd.length c9) := hYz.cellAt 3 _ rfl
        have z4 : wz.cell? ⟨wr.heap.size + 1, 4, none⟩ = some (.int .i64 (Yc : Int)) := hYz.cellAt 4 _ rfl
        have hltY := hYz.lt
        have hGz : Grow wz (wz.alloc (.cells #[.bool Yi, .bool false, .int .i64 0, .slice p9 Yd.length c9, .int .i64 (Yc : Int)] 41)) := (Fr.refl _ _).alloc _
        have HIz := Lib.hid hIz
        have HSz := Lib.hid hSz
        have HRz := Lib.hid hRz
        have HGz := Lib.hid hGz
        clear hYz hIz hSz hRz hGz
        go_wp2_with (at_builtin; refine wpList_appendSeen _ rfl _ _ rfl _ ys ⟨Yi, false, 0, Yd, Yc⟩ (.slice p9 Yd.length c9) wz.heap.size (HSz.out.grow HGz.out) (Blk.new wz _ _) (by omega) (HRz.out.keep HGz.out.bytes) rfl rfl ?_; intro v9 w9 hS9 hF9 hfr9; obtain ⟨p8, c8, rfl, _⟩ := hS9.slice)
        go_roundg (gk - 1)
        case measure => omega
        case rel =>
          refine ⟨ys ++ [⟨Yi, false, 0, Yd, Yc⟩], s', by simp; omega, by simp, Lib.hid ⟨?_, by simpa using hS9, fun k hk2 => ?_, HI.out.2.2.2.snoc HX.out HC.out.1⟩⟩
          · have h9 := (HIz.out.keepG HGz.out).row (HSz.out.grow HGz.out) HI.out.2.2.1 hF9
            exact ⟨h9.grow, h9.ok, h9.st, h9.nb, by simpa using h9.len⟩
          · rcases hfr9 k (by simpa using hk2) with e | e
            · exact HI.out.2.2.1 k e
            · exact Nat.lt_of_lt_of_le HIz.out.ok.lt (Nat.le_trans HGz.out.size e)
end Go.Proofs.YtdhhccpeikhilaaDoor
