/- bytes.Equal, bytes.Clone; laws.rqPlay. -/
import Derived.Test.YtgdkbflhgcchfaaB2
namespace Go.Proofs.Ytgdkbflhgcchfaa
open Go.RowKit

/-- bytes.Equal, where the bytes are the same. -/
theorem equal_same (w : World) (v1 v2 : Value) (l : List UInt8) (h1 : Rd w v1 l) (h2 : Rd w v2 l) :
    Calls Try.prog 13 #[v1, v2] w fun e w' => e = .returned (.bool true) ∧ w = w' := by
  have s1 := h1.string
  have s2 := h2.string
  have L1 := Lib.hid h1
  have L2 := Lib.hid h2
  clear h1 h2
  go_enter Try.func13, Try.ntmps13
  go_wp2_with fail
  go_ret
  exact ⟨ret_bool (by simp), rfl⟩

theorem eqNone (w : World) (n c : Nat) : (binOp .eql 31 (.slice none n c) (.slice none 0 0)).run Try.prog w = .ok (.bool true) w := by kernel_rfl
theorem eqSome (w : World) (a : Addr) (n c : Nat) : (binOp .eql 31 (.slice (some a) n c) (.slice none 0 0)).run Try.prog w = .ok (.bool false) w := by kernel_rfl

set_option maxRecDepth 100000 in
/-- bytes.Clone. -/
theorem clone_any (w : World) (v : Value) (l : List UInt8) (h : Rd w v l) (hl : l.length ≤ 1000000) :
    Calls Try.prog 17 #[v] w fun e w' => ∃ v', e = .returned v' ∧ OwnB w' v' l ∧ Grow w w' ∧ ∀ k, v'.ownBlock = some k → w.heap.size ≤ k := by
  obtain ⟨p, c, rfl, h1, h2, h3⟩ := id h
  have H := Lib.hid h
  have H3 := Lib.hid h3
  clear h h3
  go_enter Try.func17, Try.ntmps17
  cases p with
  | none =>
    have hl0 : l = [] := by
      cases l with
      | nil => rfl
      | cons x r => obtain ⟨b, o, e, _⟩ := H3.out (by simp); cases e
    subst hl0
    have hq := eqNone w 0 c
    go_wp2_with fail
    go_ret
    exact ⟨_, rfl, Own.nil _ 5 1, Fr.refl _ _, fun k h => nomatch h⟩
  | some a =>
    have hq := eqSome w a l.length c
    go_wp2_with (at_builtin; refine wpList_appendB _ rfl _ _ rfl (.slice (some ⟨w.heap.size, 0, none⟩) 0 0) _ [] l ⟨rfl, _, 0, rfl, Nat.le_refl _, by omega, .inl rfl⟩ (H.out.keep (Grow.bytes ((Fr.refl _ _).alloc _))) (by simp; omega) rfl rfl ?_; intro dv wb hOb hFb hfrb; obtain ⟨_, pb, cb, rfl, _⟩ := id hOb)
    go_ret
    refine ⟨_, rfl, hOb, Grow.trans' ((Fr.refl _ w).alloc _) hFb (fun k hk => Nat.le_of_eq (Option.some.inj hk)), fun k hk => ?_⟩
    rcases hfrb k hk with e | e
    · exact Nat.le_of_eq (Option.some.inj e)
    · exact Nat.le_trans ((Fr.refl (fun _ => False) w).alloc _).size e


set_option maxRecDepth 100000 in
set_option maxHeartbeats 4000000 in
/-- laws.rqPlay: copies of the acts are played. -/
theorem rqPlay_any (w : World) (v : Value) (xs : List Sp) (hst : StepsAt w v xs) (hl : xs.length ≤ 300) (hok : ∀ x ∈ xs, x.Ok) :
    Calls Try.prog 9 #[v] w fun e w' => Grow w w' ∧ ∃ vs, e = .returned (.tuple #[vs, .bool true]) ∧ SeenAt w' vs (sees St0 xs) := by
  obtain ⟨pv, cv, rfl, hlc, hcm⟩ := hst.slice
  have Hst := Lib.hid hst
  have Hok := Lib.hid hok
  clear hst hok
  go_enter Try.func9, Try.ntmps9
  go_wp2_with fail
  go_loopg [4, 11] xs.length (fun k s4 s11 wr => ∃ i : Nat, k + i = xs.length ∧ s11 = .int .i64 (i : Int) ∧ Hid (StepsAt wr s4 (xs.take i) ∧ Grow w wr ∧ (∀ k, s4.ownBlock = some k → w.heap.size ≤ k)))
  case atStart => exact ⟨0, by simp, rfl, Lib.hid ⟨RowAt.nil _, Fr.refl _ _, fun k h => nomatch h⟩⟩
  case round =>
    obtain ⟨i, hk, rfl, HI⟩ := hrel
    by_cases hend : i = xs.length
    · have hne : ¬ (i < xs.length) := by omega
      have HS : Hid (StepsAt wr u4 xs) := Lib.hid (by have := HI.out.1; rwa [List.take_of_length_le (by omega)] at this)
      have HC' := Lib.hid (play_any wr u4 xs HS.out hl Hok.out)
      have HL : Hid ((sees St0 xs).length = xs.length) := Lib.hid (sees_length xs St0)
      go_wp2_with (go_at_call 18; refine HC'.out.mono ?_; rintro e w2 ⟨hg2, vs, rfl, hS2⟩; obtain ⟨p2, c2, rfl, _⟩ := hS2.slice; have HS2 := Lib.hid hS2; have HG2 := Lib.hid hg2; clear hS2 hg2)
      go_ret2
      refine ⟨HI.out.2.1.trans HG2.out, _, ?_, HS2.out⟩
      rw [HL.out]
      simp
    · have hxi : xs[i]? = some (xs[i]'(by omega)) := List.getElem?_eq_getElem (by omega)
      have htk : xs.take (i + 1) = xs.take i ++ [xs[i]'(by omega)] := by rw [List.take_add_one, hxi]; rfl
      have hx0 : xs[i]'(by omega) ∈ xs := List.getElem_mem _
      generalize xs[i]'(by omega) = x at hxi htk hx0
      have hxl : x.data.length ≤ 1000 := by
        have := Hok.out x hx0
        cases x with
        | lost n c => exact Nat.le_trans this.2.2.2 (by omega)
        | get n M => exact Nat.zero_le _
        | has n => exact Nat.zero_le _
        | drop n => exact Nat.zero_le _
      have HTK := Lib.hid htk
      obtain ⟨bs, o, cs, d, hv, _, _, hd, hcell, cur, hcur⟩ := RowAt.get (cs := stC) (size := 8) (fun _ _ => rfl) (Hst.out.grow HI.out.2.1) hxi
      injection hv with hv1 hv2 hv3
      subst hv1
      subst hv3
      have e0 : wr.cell? ⟨bs, o + i * 8, none⟩ = some (.int .i64 (x.kind : Int)) := hcell 0 _ rfl
      have e1 : wr.cell? ⟨bs, o + i * 8 + 1, none⟩ = some (.int .i64 (x.lev : Int)) := hcell 1 _ rfl
      have e2 : wr.cell? ⟨bs, o + i * 8 + 2, none⟩ = some (.int .i64 (x.ty : Int)) := hcell 2 _ rfl
      have e3 : wr.cell? ⟨bs, o + i * 8 + 3, none⟩ = some (.int .u64 (x.a : Int)) := hcell 3 _ rfl
      have e4 : wr.cell? ⟨bs, o + i * 8 + 4, none⟩ = some (.int .u64 (x.b : Int)) := hcell 4 _ rfl
      have e5 : wr.cell? ⟨bs, o + i * 8 + 5, none⟩ = some (.int .u64 (x.c : Int)) := hcell 5 _ rfl
      have e6 : wr.cell? ⟨bs, o + i * 8 + 6, none⟩ = some d := hcell 6 _ rfl
      have e7 : wr.cell? ⟨bs, o + i * 8 + 7, none⟩ = some (.int .i64 (x.most : Int)) := hcell 7 _ rfl
      have hbl : bs < wr.heap.size := (Array.getElem?_eq_some_iff.1 hcur).1
      have his : i < xs.length := by omega
      obtain ⟨pd, cd, rfl, _⟩ := id hd
      have Hd2 := Lib.hid hd
      clear hcell hcur cur hxi hd hend hv2 htk hx0
      go_upto_region 5 with fail
      have hfold : #[Value.int .i64 (x.kind : Int), .int .i64 (x.lev : Int), .int .i64 (x.ty : Int), .int .u64 (x.a : Int), .int .u64 (x.b : Int), .int .u64 (x.c : Int), .slice pd x.data.length cd, .int .i64 (x.most : Int)] = (stC x (.slice pd x.data.length cd)).toArray := rfl
      rw [hfold]
      clear hfold
      have hG0 : Grow wr (wr.alloc (.cells (stC x (.slice pd x.data.length cd)).toArray 35)) := (Fr.refl _ _).alloc _
      have hX0 : Blk (wr.alloc (.cells (stC x (.slice pd x.data.length cd)).toArray 35)) wr.heap.size (stC x (.slice pd x.data.length cd)).toArray 35 := Blk.new wr _ _
      generalize (wr.alloc (.cells (stC x (.slice pd x.data.length cd)).toArray 35)) = wa at *
      have x3 : wa.cell? ⟨wr.heap.size, 6, none⟩ = some (.slice pd x.data.length cd) := hX0.cellAt 6 _ rfl
      have hltX := hX0.lt
      have hda := Lib.hid (Hd2.out.keep hG0.bytes)
      have HG0 := Lib.hid hG0
      have HX0 := Lib.hid hX0
      clear e0 e1 e2 e3 e4 e5 e6 e7 hbl hG0 hX0
      go_upto_region 6 with (go_at_call 17; refine (clone_any wa _ x.data hda.out (by omega)).mono ?_; rintro e wb ⟨dv, rfl, hOb, hGb, hfb⟩; obtain ⟨_, pb, cb, rfl, _⟩ := id hOb; have hXb := hGb.blk HX0.out (fun e => e); have xb3 : wb.cell? ⟨wr.heap.size, 6, none⟩ = some (.slice pd x.data.length cd) := hXb.cellAt 6 _ rfl; have hltb := hXb.lt; have hfrb := hXb.free)
      have hGc : Grow wr (wb.setCell ⟨wr.heap.size, 6, none⟩ (.slice pb x.data.length cb)) := (HG0.out.trans hGb).setCell _ _ (.inr (Nat.le_refl _))
      have hXc : Blk (wb.setCell ⟨wr.heap.size, 6, none⟩ (.slice pb x.data.length cb)) wr.heap.size (stC x (.slice pb x.data.length cb)).toArray 35 := hXb.set 6 (.slice pb x.data.length cb)
      have hRc := hOb.rd.set hXb (by decide) 6 (.slice pb x.data.length cb)
      generalize wb.setCell ⟨wr.heap.size, 6, none⟩ (.slice pb x.data.length cb) = wc at *
      have z0 : wc.cell? ⟨wr.heap.size, 0, none⟩ = some (.int .i64 (x.kind : Int)) := hXc.cellAt 0 _ rfl
      have z1 : wc.cell? ⟨wr.heap.size, 1, none⟩ = some (.int .i64 (x.lev : Int)) := hXc.cellAt 1 _ rfl
      have z2 : wc.cell? ⟨wr.heap.size, 2, none⟩ = some (.int .i64 (x.ty : Int)) := hXc.cellAt 2 _ rfl
      have z3 : wc.cell? ⟨wr.heap.size, 3, none⟩ = some (.int .u64 (x.a : Int)) := hXc.cellAt 3 _ rfl
      have z4 : wc.cell? ⟨wr.heap.size, 4, none⟩ = some (.int .u64 (x.b : Int)) := hXc.cellAt 4 _ rfl
      have z5 : wc.cell? ⟨wr.heap.size, 5, none⟩ = some (.int .u64 (x.c : Int)) := hXc.cellAt 5 _ rfl
      have z6 : wc.cell? ⟨wr.heap.size, 6, none⟩ = some (.slice pb x.data.length cb) := hXc.cellAt 6 _ rfl
      have z7 : wc.cell? ⟨wr.heap.size, 7, none⟩ = some (.int .i64 (x.most : Int)) := hXc.cellAt 7 _ rfl
      have hltc := hXc.lt
      have hGd : Grow wc (wc.alloc (.cells (stC x (.slice pb x.data.length cb)).toArray 35)) := (Fr.refl _ _).alloc _
      have HGc := Lib.hid hGc
      have HGd := Lib.hid hGd
      have HRc := Lib.hid hRc
      clear hOb hGb hfb hXb xb3 hltb hfrb x3 hltX hXc hGc hGd hRc
      go_wp2_with (at_builtin; refine wpList_append_run _ rfl _ _ 24 rfl _ _ rfl rfl (run_appendStep _ (xs.take i) x (.slice pb x.data.length cb) wc.heap.size ((HI.out.1.grow HGc.out).grow HGd.out) (Blk.new wc _ _) (by rw [List.length_take]; omega) (HRc.out.keep HGd.out.bytes)) ?_; rintro v9 w9 ⟨hS9, hF9, hfr9⟩; obtain ⟨p8, c8, rfl, _⟩ := hS9.slice; have HS9 := Lib.hid (And.intro hS9 (And.intro hF9 hfr9)); clear hS9 hF9 hfr9)
      go_roundg (gk - 1)
      case measure => omega
      case rel =>
        obtain ⟨hS9, hF9, hfr9⟩ := HS9.out
        refine ⟨i + 1, by omega, by go_num, Lib.hid ⟨?_, Grow.trans' (HI.out.2.1.trans (HGc.out.trans HGd.out)) hF9 (fun k hk => HI.out.2.2 k hk.1), fun k hk => ?_⟩⟩
        · rw [HTK.out]; simpa using hS9
        · rcases hfr9 k (by simpa using hk) with e | e
          · exact HI.out.2.2 k e
          · exact Nat.le_trans (Nat.le_trans HI.out.2.1.size (Nat.le_trans HGc.out.size HGd.out.size)) e.1
end Go.Proofs.Ytgdkbflhgcchfaa
