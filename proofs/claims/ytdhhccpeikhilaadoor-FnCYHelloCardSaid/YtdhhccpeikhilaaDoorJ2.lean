/- impl.CYPlay, walked: the acts of a stream of the Initial packets. -/
import Derived.Test.YtdhhccpeikhilaaDoorJ1
import Derived.Deep.CutRange
import Derived.Deep.CutBlock
import Derived.Deep.LoopGhost
import Derived.Deep.RegionHeld3
import Derived.Defers
namespace Go.Proofs.YtdhhccpeikhilaaDoor
open Go.RowKit

def hsees (P : HP) : HS → List Stp → List Sn
  | _, [] => []
  | s, x :: r => hseen P s x :: hsees P (hnext P s x) r
def HOks (P : HP) : HS → List Stp → Prop
  | _, [] => True
  | s, x :: r => HOk P s x ∧ HOks P (hnext P s x) r
theorem hsees_length (P : HP) : ∀ (xs : List Stp) (s : HS), (hsees P s xs).length = xs.length
  | [], _ => rfl
  | _ :: r, s => by unfold hsees; rw [List.length_cons, List.length_cons, hsees_length P r]
theorem hsees_snoc (P : HP) : ∀ (xs : List Stp) (s : HS) (x : Stp), hsees P s (xs ++ [x]) = hsees P s xs ++ [hseen P (xs.foldl (hnext P) s) x]
  | [], _, _ => rfl
  | a :: r, s, x => by
    show hseen P s a :: hsees P (hnext P s a) (r ++ [x]) = _
    rw [hsees_snoc P r]; rfl
theorem hoks_get (P : HP) : ∀ (xs : List Stp) (s : HS) (i : Nat) (x : Stp), HOks P s xs → xs[i]? = some x → HOk P ((xs.take i).foldl (hnext P) s) x
  | [], _, _, _, _, h => by simp at h
  | _ :: _, _, 0, x, ⟨h1, _⟩, h => by
    rw [List.getElem?_cons_zero] at h
    injection h with h; subst h; exact h1
  | _ :: r, _, i + 1, x, ⟨_, h2⟩, h => by
    rw [List.getElem?_cons_succ] at h
    exact hoks_get P r _ i x h2 h

theorem popped_own (P : HP) (s : HS) (n : Nat) (wv : Value) : (s.popped P n).own wv = .slice none 0 0 := by
  cases s with
  | wr l => rfl
  | plain off l => rfl
  | seg wo =>
    show (if wo + n = P.p then HS.seg P.q else if wo + n = P.N then HS.cut P.p else HS.seg (wo + n)).own wv = _
    by_cases h : wo + n = P.p
    · rw [if_pos h]; rfl
    · rw [if_neg h]
      by_cases h : wo + n = P.N
      · rw [if_pos h]; rfl
      · rw [if_neg h]; rfl
  | cut v =>
    show (if v + n < P.q then HS.cut (v + n) else HS.plain P.N []).own wv = _
    by_cases h : v + n < P.q
    · rw [if_pos h]; rfl
    · rw [if_neg h]; rfl

/-- What one act leaves. -/
structure HMid (P : HP) (w0 wx : World) (x b r bL : Nat) (wb : Value) (s' : HS) (u6 : Value) (ys : List Sn) (y : Nat) (Y : Sn) (ds : Value) : Prop where
  st : HIn P w0 wx x b r bL wb s'
  seen : SeenX wx.heap.size (s'.own wb) wx u6 ys
  apart : ∀ k, u6.ownBlock = some k → w0.heap.size < k ∧ (s'.own wb).ownBlock ≠ some k
  cell : Blk wx y #[.bool Y.is, .bool false, .int .i64 (Y.off : Int), ds, .int .i64 0] 41
  rd : Rd wx ds Y.data
  av : Av wx.heap.size (s'.own wb) ds
  new : ∀ k, (s'.own wb).ownBlock = some k → k ≠ y

set_option maxRecDepth 100000 in
set_option maxHeartbeats 8000000 in
theorem play_hello (P : HP) (hP : P.Ok) (w0 : World) (v : Value) (a : Addr) (xs : List Stp) (hst : StepsAt w0 v xs) (hl : xs.length ≤ 100) (hok : HOks P (.wr []) xs)
    (g0 : w0.cell? ⟨0, 0, none⟩ = some (.iface 145 (.pointer (some a)))) (h0s : 0 < w0.heap.size) :
    Calls Tryd.prog 17 #[.bool true, .bool P.scr, v] w0 fun e w => Grow w0 w ∧ ∃ (vs : Value), e = .returned (.tuple #[vs, .bool true]) ∧ SeenAt w vs (hsees P (.wr []) xs) := by
  obtain ⟨pv, cv, rfl, hlc, hcm⟩ := hst.slice
  have Hst := Lib.hid hst
  have Hok := Lib.hid hok
  have G0 := Lib.hid g0
  have HPo := Lib.hid hP
  have hbd := hP.bounds
  have HBD := Lib.hid hbd
  clear hst hok g0 hP hbd
  go_enter_defers Tryd.func17, Tryd.ntmps17
  go_wp2_with (go_at_call 24; refine (new_ini _ _).mono ?_; rintro e w1 ⟨hg1, x, b, r, bL, rfl, h1, h2, hx, hC⟩)
  have hK0 : Blk w1 w0.heap.size #[.bool false] 4 := by
    refine hg1.blk (Blk.new w0 _ _) (fun h => h)
  have hG1 : Grow w0 w1 := ((Fr.refl _ w0).alloc _).trans hg1
  have hlt0 : ∀ k, (w0.alloc (.cells #[.bool false] 4)).heap.size ≤ k → w0.heap.size < k := fun k h => by simp at h; omega
  have HI : Hid (HIn P w0 w1 x b r bL (.slice none 0 0) (.wr [])) := Lib.hid ⟨hG1, hK0, hx, hC, Own.nil _ 5 1, ⟨hlt0 _ h1, hlt0 _ h2⟩, (fun k h => nomatch h), ⟨by simp, fun _ => by have := HBD.out; simp only [List.length_nil]; omega⟩⟩
  clear hg1 h1 h2 hx hC hK0 hG1 hlt0
  go_wp2_with fail
  go_loopg [6, 23] xs.length (fun k s6 s23 wr => ∃ (i : Nat) (wb : Value), k + i = xs.length ∧ s23 = .int .i64 (i : Int) ∧ Hid (HIn P w0 wr x b r bL wb ((xs.take i).foldl (hnext P) (.wr [])) ∧ SeenX wr.heap.size (((xs.take i).foldl (hnext P) (.wr [])).own wb) wr s6 (hsees P (.wr []) (xs.take i)) ∧ (∀ k, s6.ownBlock = some k → w0.heap.size < k ∧ (((xs.take i).foldl (hnext P) (.wr [])).own wb).ownBlock ≠ some k)))
  case atStart => exact ⟨0, _, by simp, rfl, Lib.hid ⟨HI.out, RowX.nil _ _, fun k h => nomatch h⟩⟩
  case round =>
    obtain ⟨i, wb, hk, rfl, HI⟩ := hrel
    have c0 : wr.cell? ⟨w0.heap.size, 0, none⟩ = some (.bool false) := HI.out.1.ok.cellAt 0 _ rfl
    have f0 := HI.out.1.ok.free
    by_cases hend : i = xs.length
    · have hne : ¬ (i < xs.length) := by omega
      go_wp2_with fail
      refine leaves_cons (f := 23) (args := #[.pointer (some ⟨w0.heap.size, 0, none⟩)]) (by simp) (by simp [go_sem]) ?_
      refine (caught_idle _ _).mono ?_
      rintro e u w' ⟨rfl, rfl, rfl⟩
      simp [Leaves, settle, results, Tryd.results17, go_sem, c0]
      have hS := HI.out.2.1.row
      rw [List.take_of_length_le (by omega)] at hS
      exact ⟨HI.out.1.grow.setCell _ _ (.inr (Nat.le_refl _)), hS.set HI.out.1.ok (by decide) (fun j hj => Nat.ne_of_gt (HI.out.2.2 j hj).1) 0 _⟩
    · have hxi : xs[i]? = some (xs[i]'(by omega)) := List.getElem?_eq_getElem (by omega)
      generalize xs[i]'(by omega) = X at hxi
      have hXok := hoks_get P xs _ i X Hok.out hxi
      obtain ⟨K, A, M, D⟩ := X
      have HX := Lib.hid hxi
      obtain ⟨hXm, hXd, hXk⟩ := hXok
      have hXm : M ≤ 1400 := hXm
      have hXd : D.length ≤ 1000 := hXd
      obtain ⟨bs, o, cs, d, hv, _, _, hd, hcell, cur, hcur⟩ := RowAt.get (cs := stC) (size := 4) (fun _ _ => rfl) (Hst.out.grow HI.out.1.grow) hxi
      injection hv with hv1 hv2 hv3
      subst hv1
      subst hv3
      have e0 : wr.cell? ⟨bs, o + i * 4, none⟩ = some (.int .i64 (K : Int)) := hcell 0 _ rfl
      have e1 : wr.cell? ⟨bs, o + i * 4 + 1, none⟩ = some (.int .i64 (A : Int)) := hcell 1 _ rfl
      have e2 : wr.cell? ⟨bs, o + i * 4 + 2, none⟩ = some (.int .i64 (M : Int)) := hcell 2 _ rfl
      have e3 : wr.cell? ⟨bs, o + i * 4 + 3, none⟩ = some d := hcell 3 _ rfl
      have hbl : bs < wr.heap.size := (Array.getElem?_eq_some_iff.1 hcur).1
      have hys : i < xs.length := by omega
      obtain ⟨pd, cd, rfl, _⟩ := id hd
      have Hd := Lib.hid hd
      obtain ⟨s, hs⟩ : ∃ s, s = (xs.take i).foldl (hnext P) (.wr []) := ⟨_, rfl⟩
      obtain ⟨ys, hysd⟩ : ∃ ys, ys = hsees P (.wr []) (xs.take i) := ⟨_, rfl⟩
      rw [← hs] at hXk
      have HI2 := HI.out
      rw [← hs, ← hysd] at HI2
      have HI3 := Lib.hid HI2
      have HYL : Hid (ys.length = i) := Lib.hid (by rw [hysd, hsees_length, List.length_take]; omega)
      have HSD := Lib.hid hs
      have HYD := Lib.hid hysd
      have HXK := Lib.hid hXk
      clear hcell hcur cur hxi hd hend c0 f0 HI HI2 hs hysd hXk hv2
      go_upto_region 8 with fail
      have hX : Blk ((wr.alloc (.cells #[.int .i64 (K : Int), .int .i64 (A : Int), .int .i64 (M : Int), .slice pd D.length cd] 30)).alloc (.cells #[.bool false, .bool false, .int .i64 0, .slice none 0 0, .int .i64 0] 41)) wr.heap.size #[.int .i64 (K : Int), .int .i64 (A : Int), .int .i64 (M : Int), .slice pd D.length cd] 30 := (Blk.new wr _ _).alloc _
      have hY : Blk ((wr.alloc (.cells #[.int .i64 (K : Int), .int .i64 (A : Int), .int .i64 (M : Int), .slice pd D.length cd] 30)).alloc (.cells #[.bool false, .bool false, .int .i64 0, .slice none 0 0, .int .i64 0] 41)) (wr.heap.size + 1) #[.bool false, .bool false, .int .i64 0, .slice none 0 0, .int .i64 0] 41 := Blk.newAt _ _ _ _ (by simp)
      have hGa : Grow wr ((wr.alloc (.cells #[.int .i64 (K : Int), .int .i64 (A : Int), .int .i64 (M : Int), .slice pd D.length cd] 30)).alloc (.cells #[.bool false, .bool false, .int .i64 0, .slice none 0 0, .int .i64 0] 41)) := ((Fr.refl _ _).alloc _).alloc _
      generalize ((wr.alloc (.cells #[.int .i64 (K : Int), .int .i64 (A : Int), .int .i64 (M : Int), .slice pd D.length cd] 30)).alloc (.cells #[.bool false, .bool false, .int .i64 0, .slice none 0 0, .int .i64 0] 41)) = wa at *
      have x0 : wa.cell? ⟨wr.heap.size, 0, none⟩ = some (.int .i64 (K : Int)) := hX.cellAt 0 _ rfl
      have x3 : wa.cell? ⟨wr.heap.size, 3, none⟩ = some (.slice pd D.length cd) := hX.cellAt 3 _ rfl
      have hda : Rd wa (.slice pd D.length cd) D := Hd.out.keep hGa.bytes
      have hltX := hX.lt
      have hys2 : i < 100 := by omega
      have HGa := Lib.hid hGa
      have HX1 := Lib.hid hX
      have HY1 := Lib.hid hY
      clear hGa e0 e1 e2 e3 hbl hX hY
      go_upto_block 2 with (at_builtin; refine wpList_appendB _ rfl _ _ rfl (.slice none 0 0) _ [] D (Own.nil wa 5 1) hda (by simp; omega) rfl rfl ?_; intro dv wq hOb hFb hfrb; obtain ⟨_, pb, cb, rfl, _⟩ := id hOb; have hXb := hFb.blk HX1.out (fun e => nomatch e); have hYb := hFb.blk HY1.out (fun e => nomatch e); have hGb : Grow wr wq := HGa.out.trans (hFb.mono (fun k _ e => nomatch e)); have xb0 : wq.cell? ⟨wr.heap.size, 0, none⟩ = some (.int .i64 (K : Int)) := hXb.cellAt 0 _ rfl)
      have HIb := Lib.hid (HI3.out.1.keepG hGb)
      have HSb := Lib.hid (HI3.out.2.1.grow hGb)
      have HRb := Lib.hid hOb.rd
      have HXb := Lib.hid hXb
      have HYb := Lib.hid hYb
      have HGb := Lib.hid hGb
      have hltY := hYb.lt
      have hfY := hYb.free
      have y3 : wq.cell? ⟨wr.heap.size + 1, 3, none⟩ = some (.slice none 0 0) := hYb.cellAt 3 _ rfl
      have hnw : ∀ k, (s.own wb).ownBlock = some k → k < wr.heap.size := fun k hk => (HI3.out.1.wbn k hk).2.1
      have hnu : ∀ k, u6.ownBlock = some k → k < wr.heap.size := fun k hk => HI3.out.2.1.row.lt hk
      have HNW := Lib.hid hnw
      have HNU := Lib.hid hnu
      clear x0 x3 hda hltX hFb hfrb hOb hXb hYb hGb xb0 hnw hnu
      go_cut [12, 14, 15] from 32 to 80 (fun ev _ _ wx => ev = .nilIface ∧ ∃ (wb' ds : Value), Hid (HMid P w0 wx x b r bL wb' (hnext P s ⟨K, A, M, D⟩) u6 ys (wr.heap.size + 1) (hseen P s ⟨K, A, M, D⟩) ds))
      case first =>
        have xb1 : wq.cell? ⟨wr.heap.size, 2, none⟩ = some (.int .i64 (M : Int)) := HXb.out.cellAt 2 _ rfl
        have hltX : wr.heap.size < wq.heap.size := HXb.out.lt
        have same : ∀ w2, hnext P s ⟨K, A, M, D⟩ = s → (hseen P s ⟨K, A, M, D⟩).is = false ∧ (hseen P s ⟨K, A, M, D⟩).off = 0 ∧ (hseen P s ⟨K, A, M, D⟩).data = [] → Grow wq w2 → HMid P w0 w2 x b r bL wb (hnext P s ⟨K, A, M, D⟩) u6 ys (wr.heap.size + 1) (hseen P s ⟨K, A, M, D⟩) (.slice none 0 0) := by
          rintro w2 hsn ⟨hse1, hse2, hse3⟩ hG2
          rw [hsn]
          refine ⟨HIb.out.keepG hG2, SeenX.fr (RowX.grow HSb.out hG2) (by have := HGb.out.size; have := hG2.size; omega) (Fr.refl (fun _ => False) _) (fun _ _ e => e.elim) (fun _ e => e.elim), fun k hk => HI3.out.2.2 k hk, ?_, ?_, Av.nil _ _ _ _, fun k hk => ?_⟩
          · rw [hse1, hse2]; exact hG2.blk HYb.out (fun e => e)
          · rw [hse3]; exact ⟨none, 0, rfl, Nat.le_refl _, by omega, fun h => (h rfl).elim⟩
          · have := HNW.out k hk; omega
        have HSame := Lib.hid same
        clear same
        rcases HXK.out with ⟨hK3, l, hsl, hll, hpre⟩ | ⟨hK4, hwl, hn0⟩ | hK5
        · have hK3 : K = 3 := hK3
          have hsn : hnext P s ⟨K, A, M, D⟩ = (if P.scr = true ∧ l ++ D = P.H then .seg 0 else .wr (l ++ D)) := by unfold hnext; rw [if_pos hK3, hsl]
          have hse : (hseen P s ⟨K, A, M, D⟩).is = false ∧ (hseen P s ⟨K, A, M, D⟩).off = 0 ∧ (hseen P s ⟨K, A, M, D⟩).data = [] := by unfold hseen; rw [if_neg (by rintro ⟨e, _⟩; have : K = 4 := e; omega)]; exact ⟨rfl, rfl, rfl⟩
          have HSN := Lib.hid hsn
          have HSE := Lib.hid hse
          have hown : s.own wb = wb := by rw [hsl]; rfl
          have HOW := Lib.hid hown
          have HIw : Hid (HIn P w0 wq x b r bL wb (.wr l)) := Lib.hid (by rw [← hsl]; exact HIb.out)
          have hl5 : l.length + D.length ≤ 5000 := hll
          have HPre := Lib.hid hpre
          have HSL := Lib.hid hsl
          clear hsn hse hown hpre hsl
          subst hK3
          go_wp2_with (go_at_call 28; refine (h_write P HPo.out w0 wq x b r bL wb (.slice pb D.length cb) a l D HIw.out HRb.out hl5 HPre.out G0.out h0s).mono ?_; rintro e w2 ⟨rfl, wb', hS2, hF2, hfr2⟩)
          go_meet
          refine ⟨rfl, wb', .slice none 0 0, Lib.hid ?_⟩
          rw [HSN.out]
          obtain ⟨hse1, hse2, hse3⟩ := HSE.out
          have hsz := hF2.size
          have hfr3 : ∀ k, ((if P.scr = true ∧ l ++ D = P.H then HS.seg 0 else HS.wr (l ++ D)).own wb').ownBlock = some k → (s.own wb).ownBlock = some k ∨ wq.heap.size ≤ k := by
            intro k hk
            rw [HOW.out]
            split at hk
            · cases hk
            · exact hfr2 k hk
          have hF3 : Fr (fun k => k = b ∨ (s.own wb).ownBlock = some k) wq w2 := by rw [HOW.out]; exact hF2
          refine ⟨hS2, ?_, fun k hk => ⟨(HI3.out.2.2 k hk).1, fun hk2 => ?_⟩, ?_, ?_, Av.nil _ _ _ _, fun k hk => ?_⟩
          · refine HSb.out.keep (fun k hk => hF3.block k (Nat.lt_of_lt_of_le (HNU.out k hk) HGb.out.size) ?_) (fun d l ha hr => ⟨hr.avoid hF3 ?_, fun k hk => ⟨?_, fun hk2 => ?_⟩⟩)
            · rintro (e | e)
              · subst e
                obtain ⟨cur, f, hc⟩ := HSb.out.1 _ hk
                have := Option.some.inj (hc.symm.trans HIb.out.blk)
                injection this with _ e4 _
                exact absurd e4 (by decide)
              · exact (HI3.out.2.2 k hk).2 e
            · rintro k (e | e) hbk
              · subst e; exact (HIb.out.blk.noBytes (by decide) hbk).elim
              · exact fun hk => (ha k hk).2 e
            · have := (ha k hk).1; have := HGb.out.size; omega
            · rcases hfr3 k hk2 with e | e
              · exact (ha k hk).2 e
              · have := (ha k hk).1; have := HGb.out.size; omega
          · rcases hfr3 k hk2 with e | e
            · exact (HI3.out.2.2 k hk).2 e
            · have := HNU.out k hk; have := HGb.out.size; omega
          · rw [hse1, hse2]
            refine hF3.blk HYb.out ?_
            rintro (e | e)
            · exact absurd (e ▸ HIb.out.blk : Blk wq (wr.heap.size + 1) _ 108) (fun h => absurd (HYb.out.unique h).2 (by decide))
            · have := HNW.out _ e; omega
          · rw [hse3]; exact ⟨none, 0, rfl, Nat.le_refl _, by omega, fun h => (h rfl).elim⟩
          · rcases hfr3 k hk with e | e
            · have := HNW.out k e; omega
            · have := HYb.out.lt; omega
        · have hK4 : K = 4 := hK4
          obtain ⟨n, hn⟩ : ∃ n, n = s.num P M := ⟨_, rfl⟩
          rcases Nat.eq_zero_or_pos n with hnz | hnp
          · have hnn : ¬ (K = 4 ∧ 0 < s.num P M) := by rw [← hn]; omega
            have hsn : hnext P s ⟨K, A, M, D⟩ = s := by unfold hnext; rw [if_neg (by show ¬ (K = 3); omega), if_neg hnn]
            have hse : (hseen P s ⟨K, A, M, D⟩).is = false ∧ (hseen P s ⟨K, A, M, D⟩).off = 0 ∧ (hseen P s ⟨K, A, M, D⟩).data = [] := by unfold hseen; rw [if_neg hnn]; exact ⟨rfl, rfl, rfl⟩
            have HPop := Lib.hid (h_pop_none P HPo.out w0 wq x b r bL M wb s HIb.out hXm (by omega) (hn0 (by show s.num P M = 0; omega)) hwl)
            have HSN := Lib.hid hsn
            have HSE := Lib.hid hse
            clear hsn hse hn hnn hnz hn0 hwl
            subst hK4
            go_wp2_with (go_at_call 29; refine HPop.out.mono ?_; rintro e w2 ⟨rfl, hG2⟩)
            go_meet
            exact ⟨rfl, wb, .slice none 0 0, Lib.hid (HSame.out _ HSN.out HSE.out hG2)⟩
          · have hnn : K = 4 ∧ 0 < s.num P M := ⟨hK4, by omega⟩
            have hsn : hnext P s ⟨K, A, M, D⟩ = s.popped P n := by unfold hnext; rw [if_neg (by show ¬ (K = 3); omega), if_pos hnn, hn]
            have hse : (hseen P s ⟨K, A, M, D⟩).is = true ∧ (hseen P s ⟨K, A, M, D⟩).off = s.off ∧ (hseen P s ⟨K, A, M, D⟩).data = (s.rest P).take n := by unfold hseen; rw [if_pos hnn, hn]; exact ⟨rfl, rfl, rfl⟩
            have hnl : n ≤ (s.rest P).length := by rw [hn]; exact Nat.min_le_right _ _
            have hrl : (s.rest P).length ≤ 5000 := by
              have hi := HIb.out.inv
              have hb := HBD.out
              have e1 : P.H.length = P.N := rfl
              cases s with
              | wr l => exact hi.1
              | plain off l => have hi : off + l.length ≤ 5000 := hi; show l.length ≤ 5000; omega
              | seg wo => unfold HS.rest; rw [List.length_take, List.length_drop]; omega
              | cut v => unfold HS.rest; rw [List.length_take, List.length_drop]; omega
            have hol : s.off ≤ 100000 := by
              have hi := HIb.out.inv
              have hb := HBD.out
              cases s with
              | wr l => exact Nat.zero_le _
              | plain off l => have hi : off + l.length ≤ 5000 := hi; show off ≤ 100000; omega
              | seg wo => have := hi.1; show wo ≤ 100000; omega
              | cut v => have := hi.1; show v ≤ 100000; omega
            have hno : ∀ k wv, ((s.popped P n).own wv).ownBlock ≠ some k := fun k wv e => by rw [popped_own] at e; cases e
            have HNO := Lib.hid hno
            have HSN := Lib.hid hsn
            have HSE := Lib.hid hse
            have HPop := Lib.hid (h_pop_some P HPo.out w0 wq x b r bL M n wb s HIb.out hXm hn.symm hnp hwl)
            obtain ⟨bD, hbD⟩ : ∃ bD, bD = (s.rest P).take n := ⟨_, rfl⟩
            have hbl : bD.length ≤ 1000000 := by rw [hbD, List.length_take]; omega
            have hbn : bD.length = n := by rw [hbD, List.length_take]; omega
            obtain ⟨so, hso⟩ : ∃ so, so = s.off := ⟨_, rfl⟩
            have hP2 := HPop.out
            rw [← hbD, ← hso] at hP2
            rw [← hso] at hol
            have HPop2 := Lib.hid hP2
            have HBN := Lib.hid hbn
            have HBD2 := Lib.hid hbD
            have HSO := Lib.hid hso
            clear hsn hse hn hbn hbD hso hP2 HPop hno hnn hn0 hwl hrl hnl
            subst hK4
            go_upto_region 22 with (go_at_call 29; refine HPop2.out.mono ?_; rintro e w2 ⟨bf, sv, wb', rfl, hbf, hBf, hRf, hS2, hF2⟩; obtain ⟨p2, c2, rfl, hRf⟩ := hRf.int HBN.out; have hY2 := hF2.blk HYb.out (HIb.out.blk.ne_of_type HYb.out (by decide)).symm)
            have g0 : w2.cell? ⟨bf, 0, none⟩ = some (.int .i64 (so : Int)) := hBf.cellAt 0 _ rfl
            have g1 : w2.cell? ⟨bf, 1, none⟩ = some (.slice p2 n c2) := hBf.cellAt 1 _ rfl
            have hltf := hBf.lt
            have hfy : bf ≠ wr.heap.size + 1 := by have := HYb.out.lt; omega
            have HSf : Hid (∀ w', Fr (fun k => k = wr.heap.size + 1) w2 w' → w'.cell? ⟨bf, 0, none⟩ = some (.int .i64 (so : Int)) ∧ w'.cell? ⟨bf, 1, none⟩ = some (.slice p2 n c2)) := Lib.hid (fun w' hg => ⟨(World.cell?_of_block (w := w2) (a := ⟨bf, 0, none⟩) (hg.block bf hltf hfy)).trans g0, (World.cell?_of_block (w := w2) (a := ⟨bf, 1, none⟩) (hg.block bf hltf hfy)).trans g1⟩)
            go_region_held3 (fun w' => w'.cell? ⟨bf, 0, none⟩ = some (.int .i64 (so : Int)) ∧ w'.cell? ⟨bf, 1, none⟩ = some (.slice p2 n c2))
              (first | exact HSf.out _ (by repeat (first | exact Fr.refl _ _ | exact Grow.to (by assumption) | apply Fr.drew | apply Fr.alloc | refine Fr.setCell ?_ _ _ (.inl rfl) | refine Fr.trans ?_ (Grow.to (by assumption)))))
              (first
                | (refine step_appendB2 (by go_simp) _ _ (by rfl) (.slice none 0 0) _ [] bD (Own.nil _ 5 1) (hRf.keep (Grow.bytes (by repeat (first | exact Fr.refl _ _ | assumption | apply Fr.drew | apply Fr.alloc | refine Fr.trans ?_ (by assumption))))) (by simp only [List.length_nil]; omega) (by rfl) (by rfl) ?_; intro v3 w3 hO3 hF3 hf3; have hG3 : Grow w2 w3 := Grow.trans' (by repeat (first | exact Fr.refl _ _ | assumption | apply Fr.drew | apply Fr.alloc | refine Fr.trans ?_ (by assumption))) hF3 (fun k hk => nomatch hk); obtain ⟨p3, c3, rfl, hR3⟩ := hO3.rd.int (n := n) HBN.out; have hY3 := hG3.blk hY2 (fun e => e); have hlt3 := hY3.lt; have hfr3 := hY3.free; have q0 : w3.cell? ⟨wr.heap.size + 1, 0, none⟩ = some (.bool false) := hY3.cellAt 0 _ rfl; have q2 : w3.cell? ⟨wr.heap.size + 1, 2, none⟩ = some (.int .i64 0) := hY3.cellAt 2 _ rfl; have q3 : w3.cell? ⟨wr.heap.size + 1, 3, none⟩ = some (.slice none 0 0) := hY3.cellAt 3 _ rfl))
            go_wp2_with fail
            go_meet
            refine ⟨rfl, wb', .slice p3 n c3, Lib.hid ?_⟩
            rw [HSN.out]
            obtain ⟨hse1, hse2, hse3⟩ := HSE.out
            have hY4 := ((hY3.set 0 (.bool true)).set 2 (.int .i64 (so : Int))).set 3 (.slice p3 n c3)
            have hFy : Fr (fun k => k = wr.heap.size + 1) w3 (((w3.setCell ⟨wr.heap.size + 1, 0, none⟩ (.bool true)).setCell ⟨wr.heap.size + 1, 2, none⟩ (.int .i64 (so : Int))).setCell ⟨wr.heap.size + 1, 3, none⟩ (.slice p3 n c3)) := by repeat (first | exact Fr.refl _ _ | refine Fr.setCell ?_ _ _ (.inl rfl))
            have hszf : (((w3.setCell ⟨wr.heap.size + 1, 0, none⟩ (.bool true)).setCell ⟨wr.heap.size + 1, 2, none⟩ (.int .i64 (so : Int))).setCell ⟨wr.heap.size + 1, 3, none⟩ (.slice p3 n c3)).heap.size = w3.heap.size := by simp
            generalize (((w3.setCell ⟨wr.heap.size + 1, 0, none⟩ (.bool true)).setCell ⟨wr.heap.size + 1, 2, none⟩ (.int .i64 (so : Int))).setCell ⟨wr.heap.size + 1, 3, none⟩ (.slice p3 n c3)) = w4 at *
            have hsz2 := hF2.size
            have hsz3 := hG3.size
            have hszG := HGb.out.size
            have hnbY : ∀ k, k = wr.heap.size + 1 → ¬ BytesBlk w3 k := fun k hk => by rw [hk]; exact hY3.noBytes (by decide)
            have hks : w0.heap.size < wr.heap.size + 1 := by have := HI3.out.1.grow.size; omega
            refine ⟨?_, ?_, fun k hk => ⟨(HI3.out.2.2 k hk).1, fun hk2 => absurd hk2 (HNO.out _ _)⟩, ?_, ?_, fun k hk => ⟨?_, fun hk2 => absurd hk2 (HNO.out _ _)⟩, fun k hk => absurd hk (HNO.out _ _)⟩
            · exact (hS2.keepG hG3).keepF hFy (fun k hk => by rw [show k = wr.heap.size + 1 from hk]; exact hks) (fun e => ((hS2.keepG hG3).door.ne_of_type hY3 (by decide)) e) (fun e => ((hS2.keepG hG3).blk.ne_of_type hY3 (by decide)) e) (fun k hk e => absurd hk (HNO.out _ _)) hnbY
            · have h2 : SeenX wq.heap.size ((s.popped P n).own wb') w2 u6 ys := by
                refine HSb.out.keep (fun k hk => hF2.block k (Nat.lt_of_lt_of_le (HNU.out k hk) hszG) (fun e => ?_)) (fun d l ha hr => ⟨hr.keep (hF2.bytes (fun k hk => by rw [show k = b from hk]; exact HIb.out.blk.noBytes (by decide))), fun k hk => ⟨by have := (ha k hk).1; omega, HNO.out _ _⟩⟩)
                have e : k = b := e
                subst e
                obtain ⟨cur, f, hc⟩ := HSb.out.1 _ hk
                have := Option.some.inj (hc.symm.trans HIb.out.blk)
                injection this with _ e4 _
                exact absurd e4 (by decide)
              exact SeenX.fr (RowX.grow h2 hG3) (by omega) hFy (fun k hk e => by have := HNU.out k hk; have e : k = wr.heap.size + 1 := e; omega) hnbY
            · rw [hse1, hse2, ← HSO.out]; exact hY4
            · rw [hse3, ← HBD2.out]; exact hR3.keep (hFy.bytes hnbY)
            · rcases hf3 k hk with e | e
              · cases e
              · omega
        · have hK5 : K = 5 := hK5
          have hsn : hnext P s ⟨K, A, M, D⟩ = s := by unfold hnext; rw [if_neg (by show ¬ (K = 3); omega), if_neg (by rintro ⟨e, _⟩; have : K = 4 := e; omega)]
          have hse : (hseen P s ⟨K, A, M, D⟩).is = false ∧ (hseen P s ⟨K, A, M, D⟩).off = 0 ∧ (hseen P s ⟨K, A, M, D⟩).data = [] := by unfold hseen; rw [if_neg (by rintro ⟨e, _⟩; have : K = 4 := e; omega)]; exact ⟨rfl, rfl, rfl⟩
          have HSN := Lib.hid hsn
          have HSE := Lib.hid hse
          clear hsn hse
          subst hK5
          go_wp2_with fail
          go_meet
          exact ⟨rfl, wb, .slice none 0 0, Lib.hid (HSame.out _ HSN.out HSE.out (Fr.refl _ _))⟩
      case rest =>
      obtain ⟨rfl, wb', ds, HC⟩ := hcut
      obtain ⟨Y, hY⟩ : ∃ Y, Y = hseen P s ⟨K, A, M, D⟩ := ⟨_, rfl⟩
      have hHas : Y.has = (hnext P s ⟨K, A, M, D⟩).has P ∧ Y.code = 0 := by rw [hY]; unfold hseen; split <;> exact ⟨rfl, rfl⟩
      have hC2 := HC.out
      rw [← hY] at hC2
      have HC2 := Lib.hid hC2
      have HYS := Lib.hid hY
      have HHas := Lib.hid hHas
      clear hY hHas HC
      obtain ⟨Yi, Yh, Yo, Yd, Yc⟩ := Y
      obtain ⟨s2, hs2⟩ : ∃ s2, s2 = hnext P s ⟨K, A, M, D⟩ := ⟨_, rfl⟩
      have hC3 := HC2.out
      have hHas3 := HHas.out
      rw [← hs2] at hC3 hHas3
      have HC2 := Lib.hid hC3
      have HHas := Lib.hid hHas3
      have HS2 := Lib.hid hs2
      clear hs2 hC3 hHas3
      have hYc := hC2.cell
      have hltY := hYc.lt
      have hfY := hYc.free
      have HYc := Lib.hid hYc
      have y1 : wc.cell? ⟨wr.heap.size + 1, 1, none⟩ = some (.bool false) := hYc.cellAt 1 _ rfl
      have t1 := ta_nil wc
      have hYh : Yh = s2.has P := HHas.out.1
      have hYc0 : Yc = 0 := HHas.out.2
      clear hYc hC2
      subst hYh
      subst hYc0
      have HHas2 := h_has P HPo.out w0 wc x b r bL wb' s2 HC2.out.st
      have HH := Lib.hid HHas2
      clear HHas2
      go_upto_region 29 with (go_at_call 30; refine HH.out.mono ?_; rintro e w2 ⟨rfl, rfl⟩)
      generalize hHv : s2.has P = Yh at *
      have hks : w0.heap.size < wr.heap.size + 1 := by have := HI3.out.1.grow.size; omega
      have hFz : Fr (fun k => k = wr.heap.size + 1) wc (wc.setCell ⟨wr.heap.size + 1, 1, none⟩ (.bool Yh)) := (Fr.refl _ _).setCell _ _ (.inl rfl)
      have hYz0 := HYc.out.set 1 (.bool Yh)
      have hIz0 : HIn P w0 (wc.setCell ⟨wr.heap.size + 1, 1, none⟩ (.bool Yh)) x b r bL wb' s2 := HC2.out.st.keepF hFz (fun k hk => by rw [show k = wr.heap.size + 1 from hk]; exact hks) (fun e => (HC2.out.st.door.ne_of_type HYc.out (by decide)) e) (fun e => (HC2.out.st.blk.ne_of_type HYc.out (by decide)) e) (fun k hk e => HC2.out.new k hk e) (fun k hk => by rw [show k = wr.heap.size + 1 from hk]; exact HYc.out.noBytes (by decide))
      have hSz0 : SeenX wc.heap.size (s2.own wb') (wc.setCell ⟨wr.heap.size + 1, 1, none⟩ (.bool Yh)) u6 ys := HC2.out.seen.fr (Nat.le_refl _) hFz (fun k hk e => by have := HNU.out k hk; have e : k = wr.heap.size + 1 := e; omega) (fun k hk => by rw [show k = wr.heap.size + 1 from hk]; exact HYc.out.noBytes (by decide))
      have hRz0 := HC2.out.rd.set HYc.out (by decide) 1 (.bool Yh)
      have hszz : (wc.setCell ⟨wr.heap.size + 1, 1, none⟩ (.bool Yh)).heap.size = wc.heap.size := by simp
      generalize hwz : wc.setCell ⟨wr.heap.size + 1, 1, none⟩ (.bool Yh) = wz at *
      have hYz : Blk wz (wr.heap.size + 1) #[.bool Yi, .bool Yh, .int .i64 (Yo : Int), ds, .int .i64 ((0 : Nat) : Int)] 41 := hYz0
      have hRz : Rd wz ds Yd := hRz0
      have hIz := hIz0
      have hSz := hSz0
      have hAz : Av wc.heap.size (s2.own wb') ds := HC2.out.av
      clear hYz0 hIz0 hSz0 hRz0 y1 t1 hltY hfY hFz hwz HHas HH
      obtain ⟨p9, c9, rfl, _⟩ := id hRz
      have z0 : wz.cell? ⟨wr.heap.size + 1, 0, none⟩ = some (.bool Yi) := hYz.cellAt 0 _ rfl
      have z1 : wz.cell? ⟨wr.heap.size + 1, 1, none⟩ = some (.bool Yh) := hYz.cellAt 1 _ rfl
      have z2 : wz.cell? ⟨wr.heap.size + 1, 2, none⟩ = some (.int .i64 (Yo : Int)) := hYz.cellAt 2 _ rfl
      have z3 : wz.cell? ⟨wr.heap.size + 1, 3, none⟩ = some (.slice p9 Yd.length c9) := hYz.cellAt 3 _ rfl
      have z4 : wz.cell? ⟨wr.heap.size + 1, 4, none⟩ = some (.int .i64 0) := hYz.cellAt 4 _ rfl
      have hltY := hYz.lt
      have hGz : Grow wz (wz.alloc (.cells #[.bool Yi, .bool Yh, .int .i64 (Yo : Int), .slice p9 Yd.length c9, .int .i64 0] 41)) := (Fr.refl _ _).alloc _
      have HIz := Lib.hid hIz
      have HSz := Lib.hid hSz
      have HRz := Lib.hid hRz
      have HGz := Lib.hid hGz
      have HAz := Lib.hid hAz
      have HSZ := Lib.hid hszz
      clear hYz hIz hSz hRz hGz hAz hszz
      have hyl6 : ys.length ≤ 1000000 := by have := HYL.out; omega
      go_wp2_with (at_builtin; refine wpList_append_run _ rfl _ _ 36 rfl u6 (.slice (some ⟨wz.heap.size, 0, none⟩) 1 1) rfl rfl (run_appendSeenX (A := Av wc.heap.size (s2.own wb')) u6 ys ⟨Yi, Yh, Yo, Yd, 0⟩ (.slice p9 Yd.length c9) wz.heap.size (HSz.out.grow HGz.out) (Blk.new wz _ _) hyl6 (HRz.out.keep HGz.out.bytes) HAz.out) ?_; rintro v9 w9 ⟨hS9, hF9, hfr9⟩; obtain ⟨p8, c8, rfl, _⟩ := hS9.row.slice)
      go_roundg (gk - 1)
      case measure => omega
      case rel =>
        have e1 : xs.take (i + 1) = xs.take i ++ [⟨K, A, M, D⟩] := by rw [List.take_add_one, HX.out]; rfl
        have e2 : hsees P (.wr []) (xs.take (i + 1)) = ys ++ [⟨Yi, Yh, Yo, Yd, 0⟩] := by rw [e1, hsees_snoc, ← HYD.out, ← HSD.out, ← HYS.out]
        have e3 : (xs.take (i + 1)).foldl (hnext P) (.wr []) = s2 := by rw [e1, List.foldl_append, ← HSD.out, HS2.out]; rfl
        refine ⟨i + 1, wb', by omega, by go_num, Lib.hid ?_⟩
        rw [e3]
        have hsz9 := hF9.size
        have hszG := HGz.out.size
        have hszz := HSZ.out
        have hw9 : wc.heap.size < w9.heap.size := by
          have : wz.heap.size < (wz.alloc (.cells #[.bool Yi, .bool Yh, .int .i64 (Yo : Int), .slice p9 Yd.length c9, .int .i64 0] 41)).heap.size := by simp
          omega
        refine ⟨?_, ?_, fun k hk2 => ?_⟩
        · refine (HIz.out.keepG HGz.out).keepF hF9 (fun k hk => (HC2.out.apart k hk.1).1) (fun e => ?_) (fun e => ?_) (fun k hk e => (HC2.out.apart k e.1).2 hk) (fun k hk => hk.2)
          · obtain ⟨cur, f, hc⟩ := (HSz.out.grow HGz.out).1 _ e.1
            have := Option.some.inj (hc.symm.trans (HIz.out.keepG HGz.out).door)
            injection this with _ e4 _
            exact absurd e4 (by decide)
          · obtain ⟨cur, f, hc⟩ := (HSz.out.grow HGz.out).1 _ e.1
            have := Option.some.inj (hc.symm.trans (HIz.out.keepG HGz.out).blk)
            injection this with _ e4 _
            exact absurd e4 (by decide)
        · have := RowX.mono (A' := Av w9.heap.size (s2.own wb')) hS9 (fun d hd => hd.mono (by omega))
          rw [e2]
          simpa using this
        · rcases hfr9 k (by simpa using hk2) with e | e
          · exact HC2.out.apart k e
          · refine ⟨by have := HIz.out.ok.lt; omega, fun hk3 => ?_⟩
            have := (HC2.out.st.wbn k hk3).2.1
            omega
end Go.Proofs.YtdhhccpeikhilaaDoor
