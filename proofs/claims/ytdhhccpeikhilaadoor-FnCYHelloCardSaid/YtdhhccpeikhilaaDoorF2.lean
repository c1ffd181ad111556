/- impl.CYPlay, walked: the acts of a stream that sends. -/
import Derived.Test.YtdhhccpeikhilaaDoorF1
import Derived.Deep.CutRange
import Derived.Deep.CutBlock
import Derived.Deep.LoopGhost
import Derived.Deep.RegionHeld3
import Derived.Defers
namespace Go.Proofs.YtdhhccpeikhilaaDoor
open Go.RowKit

abbrev SeenX (N : Nat) (bv : Value) (w : World) (v : Value) (ys : List Sn) : Prop := RowX (Av N bv) snC Sn.data 41 5 w v ys

/-- What one act leaves. -/
structure SendMid (w0 wx : World) (x b r bL : Nat) (bv : Value) (s' : SS) (u6 : Value) (ys : List Sn) (y : Nat) (Y : Sn) (ds : Value) : Prop where
  st : SendIn w0 wx x b r bL bv s'
  seen : SeenX wx.heap.size bv wx u6 ys
  apart : ∀ k, u6.ownBlock = some k → w0.heap.size < k ∧ bv.ownBlock ≠ some k
  cell : Blk wx y #[.bool Y.is, .bool false, .int .i64 (Y.off : Int), ds, .int .i64 0] 41
  rd : Rd wx ds Y.data
  av : Av wx.heap.size bv ds
  new : ∀ k, bv.ownBlock = some k → k ≠ y

theorem Av.mono {N N' : Nat} {bv d : Value} (h : Av N bv d) (hN : N ≤ N') : Av N' bv d := fun k hk => ⟨Nat.lt_of_lt_of_le (h k hk).1 hN, (h k hk).2⟩
theorem SeenX.fr {N N' : Nat} {bv : Value} {w w' : World} {v : Value} {ys : List Sn} (h : SeenX N bv w v ys) (hN : N ≤ N') {S : Nat → Prop} (hF : Fr S w w') (hv : ∀ k, v.ownBlock = some k → ¬ S k) (hS : ∀ k, S k → ¬ BytesBlk w k) : SeenX N' bv w' v ys :=
  h.keep (fun k hk => hF.block k (h.row.lt hk) (hv k hk)) (fun _ _ ha hr => ⟨hr.keep (hF.bytes hS), ha.mono hN⟩)

set_option maxRecDepth 100000 in
set_option maxHeartbeats 8000000 in
theorem play_send (w0 : World) (v : Value) (xs : List Stp) (hst : StepsAt w0 v xs) (hl : xs.length ≤ 60) (hok : SOks ⟨0, []⟩ xs) :
    Calls Tryd.prog 17 #[.bool false, .bool false, v] w0 fun e w => Grow w0 w ∧ ∃ (vs : Value), e = .returned (.tuple #[vs, .bool true]) ∧ SeenAt w vs (sees ⟨0, []⟩ xs) := by
  obtain ⟨pv, cv, rfl, hlc, hcm⟩ := hst.slice
  have Hst := Lib.hid hst
  have Hok := Lib.hid hok
  clear hst hok
  go_enter_defers Tryd.func17, Tryd.ntmps17
  go_wp2_with (go_at_call 24; refine (new_plain _).mono ?_; rintro e w1 ⟨hg1, x, b, r, bL, g, rfl, h1, h2, h3, h4, h5, hx, hC⟩)
  have hK0 : Blk w1 w0.heap.size #[.bool false] 4 := by
    refine hg1.blk (Blk.new w0 _ _) (fun h => h)
  have hG1 : Grow w0 w1 := ((Fr.refl _ w0).alloc _).trans hg1
  have hlt0 : ∀ k, (w0.alloc (.cells #[.bool false] 4)).heap.size ≤ k → w0.heap.size < k := fun k h => by simp at h; omega
  have HI : Hid (SendIn w0 w1 x b r bL (.slice none 0 0) ⟨0, []⟩) := Lib.hid ⟨hG1, hK0, hx, hC.blk, Own.nil _ 5 1, ⟨hlt0 _ h1, hlt0 _ h2⟩, (fun k h => nomatch h), by simp⟩
  clear hg1 h1 h2 h3 h4 h5 hx hC hK0 hG1 hlt0
  go_wp2_with fail
  go_loopg [6, 23] xs.length (fun k s6 s23 wr => ∃ (i : Nat) (bv : Value), k + i = xs.length ∧ s23 = .int .i64 (i : Int) ∧ Hid (SendIn w0 wr x b r bL bv ((xs.take i).foldl snext ⟨0, []⟩) ∧ SeenX wr.heap.size bv wr s6 (sees ⟨0, []⟩ (xs.take i)) ∧ (∀ k, s6.ownBlock = some k → w0.heap.size < k ∧ bv.ownBlock ≠ some k)))
  case atStart => exact ⟨0, _, by simp, rfl, Lib.hid ⟨HI.out, RowX.nil _ _, fun k h => nomatch h⟩⟩
  case round =>
    obtain ⟨i, bv, hk, rfl, HI⟩ := hrel
    have c0 : wr.cell? ⟨w0.heap.size, 0, none⟩ = some (.bool false) := HI.out.1.ok.cellAt 0 _ rfl
    have f0 := HI.out.1.ok.free
    by_cases hend : i = xs.length
    · have hne : ¬ (i < xs.length) := by omega
      go_wp2_with fail
      refine leaves_cons (f := 23) (args := #[.pointer (some ⟨w0.heap.size, 0, none⟩)]) (by simp) (by simp [go_sem]) ?_
      refine (caught_idle _ _).mono ?_
      rintro e u w' ⟨rfl, rfl, rfl⟩
      simp [Leaves, settle, results, Tryd.results17, go_sem, c0]
      have hS := HI.out.2.1.row
      rw [List.take_of_length_le (by omega)] at hS
      exact ⟨HI.out.1.grow.setCell _ _ (.inr (Nat.le_refl _)), hS.set HI.out.1.ok (by decide) (fun j hj => Nat.ne_of_gt (HI.out.2.2 j hj).1) 0 _⟩
    · have hxi : xs[i]? = some (xs[i]'(by omega)) := List.getElem?_eq_getElem (by omega)
      generalize xs[i]'(by omega) = X at hxi
      have hXok := soks_get xs _ i X Hok.out hxi
      obtain ⟨K, A, M, D⟩ := X
      have HX := Lib.hid hxi
      obtain ⟨hXm, hXd, hXk⟩ := hXok
      have hXm : M ≤ 1000 := hXm
      have hXd : D.length ≤ 1000 := hXd
      have hbnd := soks_bound (xs.take i) ⟨0, []⟩ (soks_take xs _ i Hok.out)
      have hti : (xs.take i).length ≤ 60 := by rw [List.length_take]; omega
      obtain ⟨bs, o, cs, d, hv, _, _, hd, hcell, cur, hcur⟩ := RowAt.get (cs := stC) (size := 4) (fun _ _ => rfl) (Hst.out.grow HI.out.1.grow) hxi
      injection hv with hv1 hv2 hv3
      subst hv1
      subst hv3
      have e0 : wr.cell? ⟨bs, o + i * 4, none⟩ = some (.int .i64 (K : Int)) := hcell 0 _ rfl
      have e1 : wr.cell? ⟨bs, o + i * 4 + 1, none⟩ = some (.int .i64 (A : Int)) := hcell 1 _ rfl
      have e2 : wr.cell? ⟨bs, o + i * 4 + 2, none⟩ = some (.int .i64 (M : Int)) := hcell 2 _ rfl
      have e3 : wr.cell? ⟨bs, o + i * 4 + 3, none⟩ = some d := hcell 3 _ rfl
      have hbl : bs < wr.heap.size := (Array.getElem?_eq_some_iff.1 hcur).1
      have hys : i < xs.length := by omega
      obtain ⟨pd, cd, rfl, _⟩ := id hd
      have Hd := Lib.hid hd
      obtain ⟨s, hs⟩ : ∃ s, s = (xs.take i).foldl snext ⟨0, []⟩ := ⟨_, rfl⟩
      obtain ⟨ys, hysd⟩ : ∃ ys, ys = sees ⟨0, []⟩ (xs.take i) := ⟨_, rfl⟩
      rw [← hs] at hXk hbnd
      have HI2 := HI.out
      rw [← hs, ← hysd] at HI2
      have HI3 := Lib.hid HI2
      have HYL : Hid (ys.length = i) := Lib.hid (by rw [hysd, sees_length, List.length_take]; omega)
      have HSD := Lib.hid hs
      have HYD := Lib.hid hysd
      have HB : Hid (s.off + s.buf.length ≤ 60000) := Lib.hid (by have e : ((⟨0, []⟩ : SS).off + (⟨0, []⟩ : SS).buf.length) = 0 := rfl; omega)
      clear hcell hcur cur hxi hd hend c0 f0 HI HI2 hs hysd hbnd hti hv2
      go_upto_region 8 with fail
      have hX : Blk ((wr.alloc (.cells #[.int .i64 (K : Int), .int .i64 (A : Int), .int .i64 (M : Int), .slice pd D.length cd] 30)).alloc (.cells #[.bool false, .bool false, .int .i64 0, .slice none 0 0, .int .i64 0] 41)) wr.heap.size #[.int .i64 (K : Int), .int .i64 (A : Int), .int .i64 (M : Int), .slice pd D.length cd] 30 := (Blk.new wr _ _).alloc _
      have hY : Blk ((wr.alloc (.cells #[.int .i64 (K : Int), .int .i64 (A : Int), .int .i64 (M : Int), .slice pd D.length cd] 30)).alloc (.cells #[.bool false, .bool false, .int .i64 0, .slice none 0 0, .int .i64 0] 41)) (wr.heap.size + 1) #[.bool false, .bool false, .int .i64 0, .slice none 0 0, .int .i64 0] 41 := Blk.newAt _ _ _ _ (by simp)
      have hGa : Grow wr ((wr.alloc (.cells #[.int .i64 (K : Int), .int .i64 (A : Int), .int .i64 (M : Int), .slice pd D.length cd] 30)).alloc (.cells #[.bool false, .bool false, .int .i64 0, .slice none 0 0, .int .i64 0] 41)) := ((Fr.refl _ _).alloc _).alloc _
      generalize ((wr.alloc (.cells #[.int .i64 (K : Int), .int .i64 (A : Int), .int .i64 (M : Int), .slice pd D.length cd] 30)).alloc (.cells #[.bool false, .bool false, .int .i64 0, .slice none 0 0, .int .i64 0] 41)) = wa at *
      have x0 : wa.cell? ⟨wr.heap.size, 0, none⟩ = some (.int .i64 (K : Int)) := hX.cellAt 0 _ rfl
      have x3 : wa.cell? ⟨wr.heap.size, 3, none⟩ = some (.slice pd D.length cd) := hX.cellAt 3 _ rfl
      have hda : Rd wa (.slice pd D.length cd) D := Hd.out.keep hGa.bytes
      have hltX := hX.lt
      have hys2 : i < 60 := by omega
      have HGa := Lib.hid hGa
      have HX1 := Lib.hid hX
      have HY1 := Lib.hid hY
      clear hGa e0 e1 e2 e3 hbl hX hY
      go_upto_block 2 with (at_builtin; refine wpList_appendB _ rfl _ _ rfl (.slice none 0 0) _ [] D (Own.nil wa 5 1) hda (by simp; omega) rfl rfl ?_; intro dv wq hOb hFb hfrb; obtain ⟨_, pb, cb, rfl, _⟩ := id hOb; have hXb := hFb.blk HX1.out (fun e => nomatch e); have hYb := hFb.blk HY1.out (fun e => nomatch e); have hGb : Grow wr wq := HGa.out.trans (hFb.mono (fun k _ e => nomatch e)); have xb0 : wq.cell? ⟨wr.heap.size, 0, none⟩ = some (.int .i64 (K : Int)) := hXb.cellAt 0 _ rfl)
      have HIb := Lib.hid (HI3.out.1.keepG hGb)
      have HSb := Lib.hid (HI3.out.2.1.grow hGb)
      have HRb := Lib.hid hOb.rd
      have HXb := Lib.hid hXb
      have HYb := Lib.hid hYb
      have HGb := Lib.hid hGb
      have hltY := hYb.lt
      have hfY := hYb.free
      have y3 : wq.cell? ⟨wr.heap.size + 1, 3, none⟩ = some (.slice none 0 0) := hYb.cellAt 3 _ rfl
      have hnw : ∀ k, bv.ownBlock = some k → k < wr.heap.size := fun k hk => (HI3.out.1.wbn k hk).2.1
      have hnu : ∀ k, u6.ownBlock = some k → k < wr.heap.size := fun k hk => HI3.out.2.1.row.lt hk
      have HNW := Lib.hid hnw
      have HNU := Lib.hid hnu
      clear x0 x3 hda hltX hFb hfrb hOb hXb hYb hGb xb0 hnw hnu
      go_cut [12, 14, 15] from 32 to 80 (fun ev _ _ wx => ev = .nilIface ∧ ∃ (bv' ds : Value), Hid (SendMid w0 wx x b r bL bv' (snext s ⟨K, A, M, D⟩) u6 ys (wr.heap.size + 1) (sseen s ⟨K, A, M, D⟩) ds))
      case first =>
        have xb1 : wq.cell? ⟨wr.heap.size, 2, none⟩ = some (.int .i64 (M : Int)) := HXb.out.cellAt 2 _ rfl
        have hltX : wr.heap.size < wq.heap.size := HXb.out.lt
        rcases hXk with hK3 | ⟨hK4, hnp⟩
        · have hK3 : K = 3 := hK3
          have hsn : snext s ⟨K, A, M, D⟩ = ⟨s.off, s.buf ++ D⟩ := if_pos hK3
          have hse : (sseen s ⟨K, A, M, D⟩).is = false ∧ (sseen s ⟨K, A, M, D⟩).off = 0 ∧ (sseen s ⟨K, A, M, D⟩).data = [] := by unfold sseen; rw [if_pos hK3]; exact ⟨rfl, rfl, rfl⟩
          have HSN := Lib.hid hsn
          have HSE := Lib.hid hse
          have hb6 : s.off + s.buf.length + D.length ≤ 100000 := by have := HB.out; omega
          clear hsn hse
          subst hK3
          go_wp2_with (go_at_call 28; refine (send_write w0 wq x b r bL bv (.slice pb D.length cb) s D HIb.out HRb.out hb6).mono ?_; rintro e w2 ⟨rfl, bv', hS2, hF2, hfr2⟩)
          go_meet
          refine ⟨rfl, bv', .slice none 0 0, Lib.hid ?_⟩
          rw [HSN.out]
          obtain ⟨hse1, hse2, hse3⟩ := HSE.out
          have hsz := hF2.size
          refine ⟨hS2, ?_, fun k hk => ⟨(HI3.out.2.2 k hk).1, fun hk2 => ?_⟩, ?_, ?_, Av.nil _ _ _ _, fun k hk => ?_⟩
          · refine HSb.out.keep (fun k hk => hF2.block k (Nat.lt_of_lt_of_le (HNU.out k hk) HGb.out.size) ?_) (fun d l ha hr => ⟨hr.avoid hF2 ?_, fun k hk => ⟨?_, fun hk2 => ?_⟩⟩)
            · rintro (e | e)
              · subst e
                obtain ⟨cur, f, hc⟩ := HSb.out.1 _ hk
                have := Option.some.inj (hc.symm.trans HIb.out.blk)
                injection this with _ e4 _
                exact absurd e4 (by decide)
              · exact (HI3.out.2.2 k hk).2 e
            · rintro k (e | e) hbk
              · subst e; exact (HIb.out.blk.noBytes (by decide) hbk).elim
              · exact fun hk => (ha k hk).2 e
            · have := (ha k hk).1; have := HGb.out.size; omega
            · rcases hfr2 k hk2 with e | e
              · exact (ha k hk).2 e
              · have := (ha k hk).1; have := HGb.out.size; omega
          · rcases hfr2 k hk2 with e | e
            · exact (HI3.out.2.2 k hk).2 e
            · have := HNU.out k hk; have := HGb.out.size; omega
          · rw [hse1, hse2]
            refine hF2.blk HYb.out ?_
            rintro (e | e)
            · exact absurd (e ▸ HIb.out.blk : Blk wq (wr.heap.size + 1) _ 99) (fun h => absurd (HYb.out.unique h).2 (by decide))
            · have := HNW.out _ e; omega
          · rw [hse3]; exact ⟨none, 0, rfl, Nat.le_refl _, by omega, fun h => (h rfl).elim⟩
          · rcases hfr2 k hk with e | e
            · have := HNW.out k e; omega
            · have := HYb.out.lt; omega
        · have hK4 : K = 4 := hK4
          obtain ⟨n, hn⟩ : ∃ n, n = snum s ⟨K, A, M, D⟩ := ⟨_, rfl⟩
          have hsn : snext s ⟨K, A, M, D⟩ = ⟨s.off + n, s.buf.drop n⟩ := by rw [hn]; exact if_neg (by show ¬ (K = 3); omega)
          have hse : (sseen s ⟨K, A, M, D⟩).is = true ∧ (sseen s ⟨K, A, M, D⟩).off = s.off ∧ (sseen s ⟨K, A, M, D⟩).data = s.buf.take n := by rw [hn]; unfold sseen; rw [if_neg (by show ¬ (K = 3); omega)]; exact ⟨rfl, rfl, rfl⟩
          rw [← hn] at hnp
          have hnl : n ≤ s.buf.length := by rw [hn]; exact Nat.min_le_right _ _
          have HSN := Lib.hid hsn
          have HSE := Lib.hid hse
          have HPop := Lib.hid (send_pop w0 wq x b r bL bv s M n HIb.out hXm hn.symm hnp)
          have hbo : s.off ≤ 100000 := HIb.out.bnd |> fun h => by omega
          have hbl : (s.buf.take n).length ≤ 1000000 := by have := HIb.out.bnd; rw [List.length_take]; omega
          have hbn : (s.buf.take n).length = n := by rw [List.length_take]; omega
          have HBN := Lib.hid hbn
          clear hsn hse hn hbn
          subst hK4
          go_upto_region 22 with (go_at_call 29; refine HPop.out.mono ?_; rintro e w2 ⟨bf, sv, bv', rfl, hbf, hBf, hRf, hS2, hbv, hF2⟩; obtain ⟨p2, c2, rfl, hRf⟩ := hRf.int HBN.out; have hY2 := hF2.blk HYb.out (HIb.out.blk.ne_of_type HYb.out (by decide)).symm)
          have g0 : w2.cell? ⟨bf, 0, none⟩ = some (.int .i64 (s.off : Int)) := hBf.cellAt 0 _ rfl
          have g1 : w2.cell? ⟨bf, 1, none⟩ = some (.slice p2 n c2) := hBf.cellAt 1 _ rfl
          have hltf := hBf.lt
          have hfy : bf ≠ wr.heap.size + 1 := by have := HYb.out.lt; omega
          have HSf : Hid (∀ w', Fr (fun k => k = wr.heap.size + 1) w2 w' → w'.cell? ⟨bf, 0, none⟩ = some (.int .i64 (s.off : Int)) ∧ w'.cell? ⟨bf, 1, none⟩ = some (.slice p2 n c2)) := Lib.hid (fun w' hg => ⟨(World.cell?_of_block (w := w2) (a := ⟨bf, 0, none⟩) (hg.block bf hltf hfy)).trans g0, (World.cell?_of_block (w := w2) (a := ⟨bf, 1, none⟩) (hg.block bf hltf hfy)).trans g1⟩)
          go_region_held3 (fun w' => w'.cell? ⟨bf, 0, none⟩ = some (.int .i64 (s.off : Int)) ∧ w'.cell? ⟨bf, 1, none⟩ = some (.slice p2 n c2))
            (first | exact HSf.out _ (by repeat (first | exact Fr.refl _ _ | exact Grow.to (by assumption) | apply Fr.drew | apply Fr.alloc | refine Fr.setCell ?_ _ _ (.inl rfl) | refine Fr.trans ?_ (Grow.to (by assumption)))))
            (first
              | (refine step_appendB2 (by go_simp) _ _ (by rfl) (.slice none 0 0) _ [] (s.buf.take n) (Own.nil _ 5 1) (hRf.keep (Grow.bytes (by repeat (first | exact Fr.refl _ _ | assumption | apply Fr.drew | apply Fr.alloc | refine Fr.trans ?_ (by assumption))))) (by simp only [List.length_nil]; omega) (by rfl) (by rfl) ?_; intro v3 w3 hO3 hF3 hf3; have hG3 : Grow w2 w3 := Grow.trans' (by repeat (first | exact Fr.refl _ _ | assumption | apply Fr.drew | apply Fr.alloc | refine Fr.trans ?_ (by assumption))) hF3 (fun k hk => nomatch hk); obtain ⟨p3, c3, rfl, hR3⟩ := hO3.rd.int (n := n) HBN.out; have hY3 := hG3.blk hY2 (fun e => e); have hlt3 := hY3.lt; have hfr3 := hY3.free; have q0 : w3.cell? ⟨wr.heap.size + 1, 0, none⟩ = some (.bool false) := hY3.cellAt 0 _ rfl; have q2 : w3.cell? ⟨wr.heap.size + 1, 2, none⟩ = some (.int .i64 0) := hY3.cellAt 2 _ rfl; have q3 : w3.cell? ⟨wr.heap.size + 1, 3, none⟩ = some (.slice none 0 0) := hY3.cellAt 3 _ rfl))
          go_wp2_with fail
          go_meet
          refine ⟨rfl, bv', .slice p3 n c3, Lib.hid ?_⟩
          rw [HSN.out]
          obtain ⟨hse1, hse2, hse3⟩ := HSE.out
          have hY4 := ((hY3.set 0 (.bool true)).set 2 (.int .i64 (s.off : Int))).set 3 (.slice p3 n c3)
          have hFy : Fr (fun k => k = wr.heap.size + 1) w3 (((w3.setCell ⟨wr.heap.size + 1, 0, none⟩ (.bool true)).setCell ⟨wr.heap.size + 1, 2, none⟩ (.int .i64 (s.off : Int))).setCell ⟨wr.heap.size + 1, 3, none⟩ (.slice p3 n c3)) := by repeat (first | exact Fr.refl _ _ | refine Fr.setCell ?_ _ _ (.inl rfl))
          have hszf : (((w3.setCell ⟨wr.heap.size + 1, 0, none⟩ (.bool true)).setCell ⟨wr.heap.size + 1, 2, none⟩ (.int .i64 (s.off : Int))).setCell ⟨wr.heap.size + 1, 3, none⟩ (.slice p3 n c3)).heap.size = w3.heap.size := by simp
          generalize (((w3.setCell ⟨wr.heap.size + 1, 0, none⟩ (.bool true)).setCell ⟨wr.heap.size + 1, 2, none⟩ (.int .i64 (s.off : Int))).setCell ⟨wr.heap.size + 1, 3, none⟩ (.slice p3 n c3)) = w4 at *
          have hsz2 := hF2.size
          have hsz3 := hG3.size
          have hszG := HGb.out.size
          have hnbY : ∀ k, k = wr.heap.size + 1 → ¬ BytesBlk w3 k := fun k hk => by rw [hk]; exact hY3.noBytes (by decide)
          have hks : w0.heap.size < wr.heap.size + 1 := by have := HI3.out.1.grow.size; omega
          refine ⟨?_, ?_, fun k hk => ⟨(HI3.out.2.2 k hk).1, fun hk2 => ?_⟩, ?_, ?_, fun k hk => ⟨?_, fun hk2 => ?_⟩, fun k hk => ?_⟩
          · refine (hS2.keepG hG3).keepF hFy (fun k hk => by rw [show k = wr.heap.size + 1 from hk]; exact hks) (fun e => ((hS2.keepG hG3).door.ne_of_type hY3 (by decide)) e) (fun e => ((hS2.keepG hG3).blk.ne_of_type hY3 (by decide)) e) (fun k hk e => ?_)
            rw [hbv] at hk
            have := HNW.out k hk
            have e : k = wr.heap.size + 1 := e
            omega
          · have h2 : SeenX wq.heap.size bv' w2 u6 ys := by
              refine HSb.out.keep (fun k hk => hF2.block k (Nat.lt_of_lt_of_le (HNU.out k hk) hszG) (fun e => ?_)) (fun d l ha hr => ⟨hr.keep (hF2.bytes (fun k hk => by rw [show k = b from hk]; exact HIb.out.blk.noBytes (by decide))), fun k hk => ⟨by have := (ha k hk).1; omega, by rw [hbv]; exact (ha k hk).2⟩⟩)
              have e : k = b := e
              subst e
              obtain ⟨cur, f, hc⟩ := HSb.out.1 _ hk
              have := Option.some.inj (hc.symm.trans HIb.out.blk)
              injection this with _ e4 _
              exact absurd e4 (by decide)
            exact SeenX.fr (RowX.grow h2 hG3) (by omega) hFy (fun k hk e => by have := HNU.out k hk; have e : k = wr.heap.size + 1 := e; omega) hnbY
          · rw [hbv] at hk2; exact (HI3.out.2.2 k hk).2 hk2
          · rw [hse1, hse2]; exact hY4
          · rw [hse3]; exact hR3.keep (hFy.bytes hnbY)
          · rcases hf3 k hk with e | e
            · cases e
            · omega
          · rw [hbv] at hk2
            have := HNW.out k hk2
            rcases hf3 k hk with e | e
            · cases e
            · have e1 : w2.heap.size ≤ k := e.1
              omega
          · rw [hbv] at hk; have := HNW.out k hk; omega
      case rest =>
      obtain ⟨rfl, bv', ds, HC⟩ := hcut
      obtain ⟨Y, hY⟩ : ∃ Y, Y = sseen s ⟨K, A, M, D⟩ := ⟨_, rfl⟩
      have hHas : Y.has = decide (0 < (snext s ⟨K, A, M, D⟩).buf.length) ∧ Y.code = 0 := by rw [hY]; unfold sseen; split <;> exact ⟨rfl, rfl⟩
      have hC2 := HC.out
      rw [← hY] at hC2
      have HC2 := Lib.hid hC2
      have HYS := Lib.hid hY
      have HHas := Lib.hid hHas
      clear hY hHas HC
      obtain ⟨Yi, Yh, Yo, Yd, Yc⟩ := Y
      have hYc := hC2.cell
      have hltY := hYc.lt
      have hfY := hYc.free
      have HYc := Lib.hid hYc
      have y1 : wc.cell? ⟨wr.heap.size + 1, 1, none⟩ = some (.bool false) := hYc.cellAt 1 _ rfl
      have t1 := ta_nil wc
      have hYh : Yh = decide (0 < (snext s ⟨K, A, M, D⟩).buf.length) := HHas.out.1
      have hYc0 : Yc = 0 := HHas.out.2
      clear hYc hC2
      subst hYh
      subst hYc0
      have HHas2 := send_has w0 wc x b r bL bv' (snext s ⟨K, A, M, D⟩) HC2.out.st
      have HH := Lib.hid HHas2
      clear HHas2
      go_upto_region 29 with (go_at_call 30; refine HH.out.mono ?_; rintro e w2 ⟨rfl, rfl⟩)
      generalize hHv : decide (0 < (snext s ⟨K, A, M, D⟩).buf.length) = Yh at *
      have hks : w0.heap.size < wr.heap.size + 1 := by have := HI3.out.1.grow.size; omega
      have hFz : Fr (fun k => k = wr.heap.size + 1) wc (wc.setCell ⟨wr.heap.size + 1, 1, none⟩ (.bool Yh)) := (Fr.refl _ _).setCell _ _ (.inl rfl)
      have hYz0 := HYc.out.set 1 (.bool Yh)
      have hIz0 : SendIn w0 (wc.setCell ⟨wr.heap.size + 1, 1, none⟩ (.bool Yh)) x b r bL bv' (snext s ⟨K, A, M, D⟩) := HC2.out.st.keepF hFz (fun k hk => by rw [show k = wr.heap.size + 1 from hk]; exact hks) (fun e => (HC2.out.st.door.ne_of_type HYc.out (by decide)) e) (fun e => (HC2.out.st.blk.ne_of_type HYc.out (by decide)) e) (fun k hk e => HC2.out.new k hk e)
      have hSz0 : SeenX wc.heap.size bv' (wc.setCell ⟨wr.heap.size + 1, 1, none⟩ (.bool Yh)) u6 ys := HC2.out.seen.fr (Nat.le_refl _) hFz (fun k hk e => by have := HNU.out k hk; have e : k = wr.heap.size + 1 := e; omega) (fun k hk => by rw [show k = wr.heap.size + 1 from hk]; exact HYc.out.noBytes (by decide))
      have hRz0 := HC2.out.rd.set HYc.out (by decide) 1 (.bool Yh)
      have hszz : (wc.setCell ⟨wr.heap.size + 1, 1, none⟩ (.bool Yh)).heap.size = wc.heap.size := by simp
      generalize hwz : wc.setCell ⟨wr.heap.size + 1, 1, none⟩ (.bool Yh) = wz at *
      have hYz : Blk wz (wr.heap.size + 1) #[.bool Yi, .bool Yh, .int .i64 (Yo : Int), ds, .int .i64 ((0 : Nat) : Int)] 41 := hYz0
      have hRz : Rd wz ds Yd := hRz0
      have hIz := hIz0
      have hSz := hSz0
      have hAz : Av wc.heap.size bv' ds := HC2.out.av
      clear hYz0 hIz0 hSz0 hRz0 y1 t1 hltY hfY hFz hwz HHas HH
      obtain ⟨p9, c9, rfl, _⟩ := id hRz
      have z0 : wz.cell? ⟨wr.heap.size + 1, 0, none⟩ = some (.bool Yi) := hYz.cellAt 0 _ rfl
      have z1 : wz.cell? ⟨wr.heap.size + 1, 1, none⟩ = some (.bool Yh) := hYz.cellAt 1 _ rfl
      have z2 : wz.cell? ⟨wr.heap.size + 1, 2, none⟩ = some (.int .i64 (Yo : Int)) := hYz.cellAt 2 _ rfl
      have z3 : wz.cell? ⟨wr.heap.size + 1, 3, none⟩ = some (.slice p9 Yd.length c9) := hYz.cellAt 3 _ rfl
      have z4 : wz.cell? ⟨wr.heap.size + 1, 4, none⟩ = some (.int .i64 0) := hYz.cellAt 4 _ rfl
      have hltY := hYz.lt
      have hGz : Grow wz (wz.alloc (.cells #[.bool Yi, .bool Yh, .int .i64 (Yo : Int), .slice p9 Yd.length c9, .int .i64 0] 41)) := (Fr.refl _ _).alloc _
      have HIz := Lib.hid hIz
      have HSz := Lib.hid hSz
      have HRz := Lib.hid hRz
      have HGz := Lib.hid hGz
      have HAz := Lib.hid hAz
      have HSZ := Lib.hid hszz
      clear hYz hIz hSz hRz hGz hAz hszz
      have hyl6 : ys.length ≤ 1000000 := by have := HYL.out; omega
      go_wp2_with (at_builtin; refine wpList_append_run _ rfl _ _ 36 rfl u6 (.slice (some ⟨wz.heap.size, 0, none⟩) 1 1) rfl rfl (run_appendSeenX (A := Av wc.heap.size bv') u6 ys ⟨Yi, Yh, Yo, Yd, 0⟩ (.slice p9 Yd.length c9) wz.heap.size (HSz.out.grow HGz.out) (Blk.new wz _ _) hyl6 (HRz.out.keep HGz.out.bytes) HAz.out) ?_; rintro v9 w9 ⟨hS9, hF9, hfr9⟩; obtain ⟨p8, c8, rfl, _⟩ := hS9.row.slice)
      go_roundg (gk - 1)
      case measure => omega
      case rel =>
        have e1 : xs.take (i + 1) = xs.take i ++ [⟨K, A, M, D⟩] := by rw [List.take_add_one, HX.out]; rfl
        have e2 : sees ⟨0, []⟩ (xs.take (i + 1)) = ys ++ [⟨Yi, Yh, Yo, Yd, 0⟩] := by rw [e1, sees_snoc, ← HYD.out, ← HSD.out, ← HYS.out]
        have e3 : (xs.take (i + 1)).foldl snext ⟨0, []⟩ = snext s ⟨K, A, M, D⟩ := by rw [e1, List.foldl_append, ← HSD.out]; rfl
        refine ⟨i + 1, bv', by omega, by go_num, Lib.hid ?_⟩
        rw [e3]
        have hsz9 := hF9.size
        have hszG := HGz.out.size
        have hszz := HSZ.out
        have hw9 : wc.heap.size < w9.heap.size := by
          have : wz.heap.size < (wz.alloc (.cells #[.bool Yi, .bool Yh, .int .i64 (Yo : Int), .slice p9 Yd.length c9, .int .i64 0] 41)).heap.size := by simp
          omega
        refine ⟨?_, ?_, fun k hk2 => ?_⟩
        · refine (HIz.out.keepG HGz.out).keepF hF9 (fun k hk => (HC2.out.apart k hk.1).1) (fun e => ?_) (fun e => ?_) (fun k hk e => (HC2.out.apart k e.1).2 hk)
          · obtain ⟨cur, f, hc⟩ := (HSz.out.grow HGz.out).1 _ e.1
            have := Option.some.inj (hc.symm.trans (HIz.out.keepG HGz.out).door)
            injection this with _ e4 _
            exact absurd e4 (by decide)
          · obtain ⟨cur, f, hc⟩ := (HSz.out.grow HGz.out).1 _ e.1
            have := Option.some.inj (hc.symm.trans (HIz.out.keepG HGz.out).blk)
            injection this with _ e4 _
            exact absurd e4 (by decide)
        · have := RowX.mono (A' := Av w9.heap.size bv') hS9 (fun d hd => hd.mono (by omega))
          rw [e2]
          simpa using this
        · rcases hfr9 k (by simpa using hk2) with e | e
          · exact HC2.out.apart k e
          · refine ⟨by have := HIz.out.ok.lt; omega, fun hk3 => ?_⟩
            have := (HC2.out.st.wbn k hk3).2.1
            omega
end Go.Proofs.YtdhhccpeikhilaaDoor
