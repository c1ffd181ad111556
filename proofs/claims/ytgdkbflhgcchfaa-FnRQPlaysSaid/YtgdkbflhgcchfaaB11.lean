/- RQState.Step: another frame that was lost. -/
import Derived.Test.YtgdkbflhgcchfaaB9
namespace Go.Proofs.Ytgdkbflhgcchfaa
open Go.RowKit

/-- A call of a function, with one argument, as one step of a region that draws. -/
theorem step_call1 {w : World} {ops : Array Oper} {o : Oper} {a : Act} {K : Act → World → Prop} {Q : Exit → Act → World → Prop} {E : Prop} (hw : Region.wanted o (yielded ops a.tmps) = true) (f : FuncId) (y : Operand) (t : TypeId)
    (ho : o.op = .call { callee := .value (.func f), args := #[y], argTypes := #[t] }) {z : Value} (hy : a.eval y = z) (hcf : (callFunc f #[z]).run Try.prog w = .ok (.enter f #[z]) w) {R : Value → World → Prop} (hc : Calls Try.prog f #[z] w fun e w' => ∃ v, e = .returned v ∧ R v w')
    (h : ∀ v w', R v w' → K (a.put o.dst v) w') :
    if Region.wanted o (yielded ops a.tmps) = true then Oper.wp Try.prog o a w K Q else E := by
  rw [if_pos hw]
  have hrun : (execOp a.eval o).run Try.prog w = .ok (.enter f #[z]) w := by
    have hf : a.eval (.func f) = .func (Fn.func f) #[] #[] := rfl
    simp [execOp, ho, resolve, hf, hy, Deferred.ofValue, invoke, hcf]
  unfold Oper.wp
  rw [hrun, Oper.upon_enter]
  refine hc.mono ?_
  rintro e w' ⟨v, rfl, hR⟩
  exact h v w' hR
theorem call7 (z : Value) (w : World) : (callFunc 7 #[z]).run Try.prog w = .ok (.enter 7 #[z]) w := by kernel_rfl

set_option maxRecDepth 100000 in
set_option maxHeartbeats 8000000 in
theorem step_lostO (w : World) (s n : Nat) (c : Ct) (d : Value) (cv ov : Nat → Value) (st : St) (L : Lv) (h : RefE w s cv ov st) (hL : st.lv n = some L) (hn : n < 3) (hd : Rd w d c.data) (hok : c.Ok) (hty : c.ty ≠ 6) (hl : L.2.length ≤ 1000) :
    Calls Try.prog 12 #[pt s, stA (.lost n c) d] w fun e w' => (∃ d', e = .returned (.agg #[.bool false, .bool false, d']) ∧ Rd w' d' []) ∧ ROut w w' s cv ov (st.lost n c) := by
  obtain ⟨p, cd, rfl, _⟩ := id hd
  have hpush : ∀ L : Lv, St.push L c = (L.1, L.2 ++ [c]) := fun L => by
    cases c
    case crypto => exact (hty rfl).elim
    all_goals rfl
  have H7 := fun (W : World) (hG : Grow w W) => other_ct W c (.slice p c.data.length cd) (hd.keep hG.bytes) hok hty
  obtain ⟨ty, hty2⟩ : ∃ ty, ty = c.ty := ⟨_, rfl⟩
  obtain ⟨a, ha2⟩ : ∃ a, a = c.a := ⟨_, rfl⟩
  obtain ⟨b, hb2⟩ : ∃ b, b = c.b := ⟨_, rfl⟩
  obtain ⟨c3, hc2⟩ : ∃ c3, c3 = c.c := ⟨_, rfl⟩
  have H7' : Hid (∀ (W : World), Grow w W → Calls Try.prog 7 #[.agg #[.int .i64 (ty : Int), .int .u64 (a : Int), .int .u64 (b : Int), .int .u64 (c3 : Int), .slice p c.data.length cd]] W fun e w' => ∃ v', e = .returned v' ∧ Buf W w' v' c.enc) := Lib.hid (by rw [hty2, ha2, hb2, hc2]; exact H7)
  have hty6 : ((ty : Int) == 6) = false := by rw [hty2]; simp; omega
  have HPU := Lib.hid hpush
  show Calls Try.prog 12 #[pt s, .agg #[.int .i64 0, .int .i64 (n : Int), .int .i64 (c.ty : Int), .int .u64 (c.a : Int), .int .u64 (c.b : Int), .int .u64 (c.c : Int), .slice p c.data.length cd, .int .i64 0]] w _
  rw [← hty2, ← ha2, ← hb2, ← hc2]
  clear H7 hty2 ha2 hb2 hc2 hpush hok hty
  obtain ⟨k1, k2, k3⟩ := refC_get cv ov st hn
  rw [hL] at k3
  go_enter Try.func12, Try.ntmps12
  go_upto_region 1 with fail
  have hG2 : Grow w ((w.alloc (.cells #[.int .i64 0, .int .i64 (n : Int), .int .i64 (ty : Int), .int .u64 (a : Int), .int .u64 (b : Int), .int .u64 (c3 : Int), .slice p c.data.length cd, .int .i64 0] 35)).alloc (.cells #[.bool false, .bool false, .slice none 0 0] 44)) := ((Fr.refl _ w).alloc _).alloc _
  have hX2 : Blk ((w.alloc (.cells #[.int .i64 0, .int .i64 (n : Int), .int .i64 (ty : Int), .int .u64 (a : Int), .int .u64 (b : Int), .int .u64 (c3 : Int), .slice p c.data.length cd, .int .i64 0] 35)).alloc (.cells #[.bool false, .bool false, .slice none 0 0] 44)) w.heap.size #[.int .i64 0, .int .i64 (n : Int), .int .i64 (ty : Int), .int .u64 (a : Int), .int .u64 (b : Int), .int .u64 (c3 : Int), .slice p c.data.length cd, .int .i64 0] 35 := (Blk.new w _ _).alloc _
  have hY2 : Blk ((w.alloc (.cells #[.int .i64 0, .int .i64 (n : Int), .int .i64 (ty : Int), .int .u64 (a : Int), .int .u64 (b : Int), .int .u64 (c3 : Int), .slice p c.data.length cd, .int .i64 0] 35)).alloc (.cells #[.bool false, .bool false, .slice none 0 0] 44)) (w.heap.size + 1) #[.bool false, .bool false, .slice none 0 0] 44 := Blk.newAt _ _ _ _ (by simp)
  generalize ((w.alloc (.cells #[.int .i64 0, .int .i64 (n : Int), .int .i64 (ty : Int), .int .u64 (a : Int), .int .u64 (b : Int), .int .u64 (c3 : Int), .slice p c.data.length cd, .int .i64 0] 35)).alloc (.cells #[.bool false, .bool false, .slice none 0 0] 44)) = w2 at *
  have HR := h.grow hG2
  have x0 : w2.cell? ⟨w.heap.size, 0, none⟩ = some (.int .i64 0) := hX2.cellAt 0 _ rfl
  have x1 : w2.cell? ⟨w.heap.size, 1, none⟩ = some (.int .i64 (n : Int)) := hX2.cellAt 1 _ rfl
  have x2 : w2.cell? ⟨w.heap.size, 2, none⟩ = some (.int .i64 (ty : Int)) := hX2.cellAt 2 _ rfl
  have x3 : w2.cell? ⟨w.heap.size, 3, none⟩ = some (.int .u64 (a : Int)) := hX2.cellAt 3 _ rfl
  have x4 : w2.cell? ⟨w.heap.size, 4, none⟩ = some (.int .u64 (b : Int)) := hX2.cellAt 4 _ rfl
  have x5 : w2.cell? ⟨w.heap.size, 5, none⟩ = some (.int .u64 (c3 : Int)) := hX2.cellAt 5 _ rfl
  have x6 : w2.cell? ⟨w.heap.size, 6, none⟩ = some (.slice p c.data.length cd) := hX2.cellAt 6 _ rfl
  have c0 : w2.cell? ⟨s, 3 + n, none⟩ = some (ov n) := HR.blk.cellAt (3 + n) _ k2
  have c6 : w2.cell? ⟨s, 6 + n, none⟩ = some (.bool false) := HR.blk.cellAt (6 + n) _ k3
  have hlX := hX2.lt
  have hls := HR.blk.lt
  have H := Lib.hid (And.intro HR (And.intro hG2 (And.intro hX2 (And.intro hY2 hd))))
  have HK := Lib.hid (And.intro h (And.intro k1 (And.intro k2 hL)))
  clear h hL hd k1 k2 k3 hG2 hX2 hY2 HR
  go_upto_block 0 with fail
  go_cut [6] from 11 to 110 (fun _ wx => Hid (Blk wx (w.heap.size + 1) #[.bool false, .bool false, .slice none 0 0] 44 ∧ ROut w wx s cv ov (st.lost n c)))
  case first =>
    go_upto_region 8 with fail
    have hG3 : Grow w2 (w2.alloc (.cells #[.int .i64 (ty : Int), .int .u64 (a : Int), .int .u64 (b : Int), .int .u64 (c3 : Int), .slice p c.data.length cd] 33)) := (Fr.refl _ w2).alloc _
    have hT3 : Blk (w2.alloc (.cells #[.int .i64 (ty : Int), .int .u64 (a : Int), .int .u64 (b : Int), .int .u64 (c3 : Int), .slice p c.data.length cd] 33)) w2.heap.size #[.int .i64 (ty : Int), .int .u64 (a : Int), .int .u64 (b : Int), .int .u64 (c3 : Int), .slice p c.data.length cd] 33 := Blk.new w2 _ _
    generalize hw3 : (w2.alloc (.cells #[.int .i64 (ty : Int), .int .u64 (a : Int), .int .u64 (b : Int), .int .u64 (c3 : Int), .slice p c.data.length cd] 33)) = w3 at *
    have t0 : w3.cell? ⟨w2.heap.size, 0, none⟩ = some (.int .i64 (ty : Int)) := hT3.cellAt 0 _ rfl
    have t1 : w3.cell? ⟨w2.heap.size, 1, none⟩ = some (.int .u64 (a : Int)) := hT3.cellAt 1 _ rfl
    have t2 : w3.cell? ⟨w2.heap.size, 2, none⟩ = some (.int .u64 (b : Int)) := hT3.cellAt 2 _ rfl
    have t3 : w3.cell? ⟨w2.heap.size, 3, none⟩ = some (.int .u64 (c3 : Int)) := hT3.cellAt 3 _ rfl
    have t4 : w3.cell? ⟨w2.heap.size, 4, none⟩ = some (.slice p c.data.length cd) := hT3.cellAt 4 _ rfl
    have s0 : w3.cell? ⟨s, 3 + n, none⟩ = some (ov n) := (hG3.cell hls).trans c0
    have hls3 : s < w3.heap.size := Nat.lt_of_lt_of_le hls hG3.size
    have hlT := hT3.lt
    have HG3 := Lib.hid (H.out.2.1.trans hG3)
    have hG23 := Lib.hid hG3
    have F1 : Hid (∀ (v4 : Value) (w4 : World), Buf w3.drew w4 v4 c.enc → Hid (Grow w w4 ∧ OwnB w4 v4 c.enc ∧ Blk w4 (w.heap.size + 1) #[.bool false, .bool false, .slice none 0 0] 44) ∧ w4.cell? ⟨s, 3 + n, none⟩ = some (ov n) ∧ s < w4.heap.size) := Lib.hid fun v4 w4 hb => by
      have hG : Grow w3 w4 := (Fr.refl _ w3).drew.trans hb.2.1
      exact ⟨Lib.hid ⟨HG3.out.trans hG, hb.1, hG.blk (hG23.out.blk H.out.2.2.2.1 (fun e => e)) (fun e => e)⟩, (hG.cell hls3).trans s0, Nat.lt_of_lt_of_le hls3 hG.size⟩
    have F2 : Hid (∀ (v5 : Value) (w4 w5 : World) (d4 : Value), Grow w w4 → RowO w5 v5 (L.2 ++ [c]) → Fr (fun k => (ov n).ownBlock = some k ∧ ¬ BytesBlk (w4.alloc (.cells #[d4] 31)) k) (w4.alloc (.cells #[d4] 31)) w5 → (∀ k, v5.ownBlock = some k → (ov n).ownBlock = some k ∨ ((w4.alloc (.cells #[d4] 31)).heap.size ≤ k ∧ k < w5.heap.size)) → Blk (w4.alloc (.cells #[d4] 31)) (w.heap.size + 1) #[.bool false, .bool false, .slice none 0 0] 44 →
        (w5.cell? ⟨s, 3 + n, none⟩ = some (ov n) ∧ s < w5.heap.size ∧ (∀ i, w5.frozen? ⟨s, i, none⟩ = false)) ∧ Hid (Blk (w5.setCell ⟨s, 3 + n, none⟩ v5) (w.heap.size + 1) #[.bool false, .bool false, .slice none 0 0] 44 ∧ ROut w (w5.setCell ⟨s, 3 + n, none⟩ v5) s cv ov (st.lost n c))) := Lib.hid fun v5 w4 w5 d4 hG4 hC5 hF5 hv5 hY => by
      obtain ⟨hR, hk1, hk2, hL⟩ := HK.out
      exact appO_end hR hn hL (by simp [St.lost, hL, HPU.out]) (hG4.alloc _) hC5 hF5 hv5 hY
    have HC0 : Hid (RowO w (ov n) L.2) := Lib.hid (by
      have := HK.out.1.rowO n hn
      rwa [show lvD st n = L from by simp [lvD, HK.out.2.2.2]] at this)
    have H7D := Lib.hid (H7'.out w3.drew HG3.out.drew)
    clear x0 x1 x2 x3 x4 x5 x6 c0 c6 hG3 hT3
    have hni : ((n : Int) < 3) = True := eq_true (by omega)
    go_region_law (first
      | (refine step_call1 (by go_simp) 7 _ 33 (by rfl) (by rfl) (call7 _ _) H7D.out ?_; intro v4 w4 hbuf; obtain ⟨g1, g2, g3⟩ := F1.out v4 w4 hbuf; obtain ⟨_, p4, c4, rfl, _⟩ := id g1.out.2.1; clear hbuf)
      | (refine step_append_run (by go_simp) _ _ 36 (by rfl) _ _ (by rfl) (by rfl) (run_appendO (ov n) L.2 c _ w4.heap.size (HC0.out.grow (g1.out.1.alloc _)) (Blk.new w4 _ _) (by omega) (g1.out.2.1.rd.keep (Grow.bytes ((Fr.refl _ w4).alloc _)))) ?_; rintro v5 w5 ⟨g6, g7, g8⟩; obtain ⟨p5, c5, rfl, _⟩ := g6.slice; obtain ⟨⟨e1, e2, e3⟩, e4⟩ := F2.out _ w4 w5 _ g1.out.1 g6 g7 g8 (g1.out.2.2.alloc _); clear g6 g7 g8))
    all_goals (simp only [List.length_append, List.length_cons, List.length_nil, Nat.zero_add] at e4; go_wp2_with fail; go_meet; exact e4)
  case rest =>
  have hY := hcut.out.1
  have HO := Lib.hid hcut.out.2
  clear hcut
  have y0 : wc.cell? ⟨w.heap.size + 1, 0, none⟩ = some (.bool false) := hY.cellAt 0 _ rfl
  have y1 : wc.cell? ⟨w.heap.size + 1, 1, none⟩ = some (.bool false) := hY.cellAt 1 _ rfl
  have y2 : wc.cell? ⟨w.heap.size + 1, 2, none⟩ = some (.slice none 0 0) := hY.cellAt 2 _ rfl
  have hltY := hY.lt
  have hfY := hY.free
  have HY := Lib.hid hY
  clear hY
  go_wp2_with fail
  have hF : Fr (fun k => k = w.heap.size + 1) wc (((wc.setCell ⟨w.heap.size + 1, 0, none⟩ (.bool false)).setCell ⟨w.heap.size + 1, 1, none⟩ (.bool false)).setCell ⟨w.heap.size + 1, 2, none⟩ (.slice none 0 0)) := ((((Fr.refl (fun k => k = w.heap.size + 1) wc).setCell ⟨w.heap.size + 1, 0, none⟩ _ (.inl rfl)).setCell ⟨w.heap.size + 1, 1, none⟩ _ (.inl rfl))).setCell ⟨w.heap.size + 1, 2, none⟩ _ (.inl rfl)
  have hW : Blk (((wc.setCell ⟨w.heap.size + 1, 0, none⟩ (.bool false)).setCell ⟨w.heap.size + 1, 1, none⟩ (.bool false)).setCell ⟨w.heap.size + 1, 2, none⟩ (.slice none 0 0)) (w.heap.size + 1) #[.bool false, .bool false, .slice none 0 0] 44 := ((HY.out.set 0 (.bool false)).set 1 (.bool false)).set 2 (.slice none 0 0)
  have HF := Lib.hid (HO.out.keepY hF HY.out (Nat.le_succ _))
  clear hF y0 y1 y2 hltY hfY
  generalize (((wc.setCell ⟨w.heap.size + 1, 0, none⟩ (.bool false)).setCell ⟨w.heap.size + 1, 1, none⟩ (.bool false)).setCell ⟨w.heap.size + 1, 2, none⟩ (.slice none 0 0)) = W at *
  have z0 : W.cell? ⟨w.heap.size + 1, 0, none⟩ = some (.bool false) := hW.cellAt 0 _ rfl
  have z1 : W.cell? ⟨w.heap.size + 1, 1, none⟩ = some (.bool false) := hW.cellAt 1 _ rfl
  have z2 : W.cell? ⟨w.heap.size + 1, 2, none⟩ = some (.slice none 0 0) := hW.cellAt 2 _ rfl
  refine bodyPost_ret (v := .agg #[.bool false, .bool false, .slice none 0 0]) (by simp [results, Try.results12, go_sem, z0, z1, z2]) rfl ?_
  exact ⟨⟨_, rfl, ⟨none, 0, rfl, Nat.le_refl _, by omega, fun h => (h rfl).elim⟩⟩, HF.out⟩
end Go.Proofs.Ytgdkbflhgcchfaa
