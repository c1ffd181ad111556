/- The reference's bytes; bytes.Equal, bytes.Clone. laws.cyPlay: copies of the acts are played. -/
import Derived.Test.YtdhhccpeikhilaaDoorC10
import Derived.Deep.LoopGhost
import Derived.Laws.IdiomStrings
import Derived.Deep.CutRange
namespace Go.Proofs.YtdhhccpeikhilaaDoor
open Go.RowKit

theorem Rd.string {w : World} {v : Value} {l : List UInt8} (h : Rd w v l) : (convert 26 9 v).run Tryd.prog w = .ok (.string ⟨l.toArray⟩) w := by
  obtain ⟨p, c, rfl, h1, h2, h3⟩ := h
  have back : ∀ (a : Addr) (l : List UInt8) (c : Nat), (∀ j (hj : j < l.length), w.cell? (a.add j) = some (.int .u8 (l[j].toNat : Int))) → (convert 26 9 (.slice (some a) l.length c)).run Tryd.prog w = .ok (.string ⟨l.toArray⟩) w := fun a l c hc => run_convert_bytes_back w 26 9 5 a c l Tryd.underlying26 Tryd.underlying5 Tryd.underlying9 hc
  cases l with
  | nil =>
    cases p with
    | none => simp [convert, run_underlying Tryd.underlying26, run_underlying Tryd.underlying9, run_underlying Tryd.underlying5, Conv.bytesToString]; rfl
    | some a => exact back a [] c (fun j hj => by simp at hj)
  | cons x r =>
    obtain ⟨b, o, rfl, hb⟩ := h3 (by simp)
    refine back _ _ c (fun j hj => ?_)
    have := hb.2 j _ (List.getElem?_eq_getElem hj)
    simpa [Addr.add_lit] using this

/-- bytes.Equal, where the bytes are the same. -/
theorem equal_same (w : World) (v1 v2 : Value) (l : List UInt8) (h1 : Rd w v1 l) (h2 : Rd w v2 l) :
    Calls Tryd.prog 11 #[v1, v2] w fun e w' => e = .returned (.bool true) ∧ w = w' := by
  have s1 := h1.string
  have s2 := h2.string
  have L1 := Lib.hid h1
  have L2 := Lib.hid h2
  clear h1 h2
  go_enter Tryd.func11, Tryd.ntmps11
  go_wp2_with fail
  go_ret
  exact ⟨ret_bool (by simp), rfl⟩

theorem eqNone (w : World) (n c : Nat) : (binOp .eql 26 (.slice none n c) (.slice none 0 0)).run Tryd.prog w = .ok (.bool true) w := by kernel_rfl
theorem eqSome (w : World) (a : Addr) (n c : Nat) : (binOp .eql 26 (.slice (some a) n c) (.slice none 0 0)).run Tryd.prog w = .ok (.bool false) w := by kernel_rfl

set_option maxRecDepth 100000 in
/-- bytes.Clone. -/
theorem clone_any (w : World) (v : Value) (l : List UInt8) (h : Rd w v l) (hl : l.length ≤ 1000000) :
    Calls Tryd.prog 16 #[v] w fun e w' => ∃ v', e = .returned v' ∧ OwnB w' v' l ∧ Grow w w' ∧ ∀ k, v'.ownBlock = some k → w.heap.size ≤ k := by
  obtain ⟨p, c, rfl, h1, h2, h3⟩ := id h
  have H := Lib.hid h
  have H3 := Lib.hid h3
  clear h h3
  go_enter Tryd.func16, Tryd.ntmps16
  cases p with
  | none =>
    have hl0 : l = [] := by
      cases l with
      | nil => rfl
      | cons x r => obtain ⟨b, o, e, _⟩ := H3.out (by simp); cases e
    subst hl0
    have hq := eqNone w 0 c
    go_wp2_with fail
    go_ret
    exact ⟨_, rfl, Own.nil _ 5 1, Fr.refl _ _, fun k h => nomatch h⟩
  | some a =>
    have hq := eqSome w a l.length c
    go_wp2_with (at_builtin; refine wpList_appendB _ rfl _ _ rfl (.slice (some ⟨w.heap.size, 0, none⟩) 0 0) _ [] l ⟨rfl, _, 0, rfl, Nat.le_refl _, by omega, .inl rfl⟩ (H.out.keep (Grow.bytes ((Fr.refl _ _).alloc _))) (by simp; omega) rfl rfl ?_; intro dv wb hOb hFb hfrb; obtain ⟨_, pb, cb, rfl, _⟩ := id hOb)
    go_ret
    refine ⟨_, rfl, hOb, Grow.trans' ((Fr.refl _ w).alloc _) hFb (fun k hk => Nat.le_of_eq (Option.some.inj hk)), fun k hk => ?_⟩
    rcases hfrb k hk with e | e
    · exact Nat.le_of_eq (Option.some.inj e)
    · exact Nat.le_trans ((Fr.refl (fun _ => False) w).alloc _).size e

/-- The byte at a place; bytes from a place on. -/
def FB (x : Nat) : UInt8 := UInt8.ofNat (x * 7 + x / 251)
def fB (o n : Nat) : List UInt8 := (List.range n).map (fun i => FB (o + i))
theorem fB_length (o n : Nat) : (fB o n).length = n := by unfold fB; simp
theorem fB_succ (o n : Nat) : fB o (n + 1) = fB o n ++ [FB (o + n)] := by unfold fB; rw [List.range_succ, List.map_append]; rfl
theorem fB_get {o n i : Nat} {x : UInt8} (h : (fB o n)[i]? = some x) : i < n ∧ x = FB (o + i) := by
  have hl := (List.getElem?_eq_some_iff.1 h).1
  rw [fB_length] at hl
  refine ⟨hl, ?_⟩
  unfold fB at h
  rw [List.getElem?_map, List.getElem?_range hl] at h
  exact (Option.some.inj h).symm

theorem byte_any (w : World) (x : Nat) (hx : x ≤ 10000000) :
    Calls Tryd.prog 21 #[.int .i64 (x : Int)] w fun e w' => e = .returned (u8 (FB x)) ∧ w = w' := by
  go_enter Tryd.func21, Tryd.ntmps21
  go_wp2
  go_ret
  refine ⟨?_, rfl⟩
  unfold u8 FB
  simp only [UInt8.toNat_ofNat']
  refine ret_int ?_
  show ((x : Int) * 7 + (x : Int) / 251) % 256 = _
  omega

theorem Rd.one (w : World) (x : UInt8) : Rd (w.alloc (.cells #[u8 x] 5)) (.slice (some ⟨w.heap.size, 0, none⟩) 1 1) [x] := by
  refine ⟨_, 1, rfl, Nat.le_refl _, by omega, fun _ => ⟨_, 0, rfl, ⟨_, _, heap_alloc_new w _⟩, fun i y hy => ?_⟩⟩
  cases i with
  | zero =>
    rw [List.getElem?_cons_zero] at hy
    injection hy with hy; subst hy
    exact (Blk.new w #[u8 x] 5).cellAt 0 _ rfl
  | succ i => simp at hy
theorem Own.grow {w w' : World} {v : Value} {e : TypeId} {size n : Nat} {xs : List Value} (h : Own w v e size n xs) (hg : Grow w w') (hn : 0 < n ∨ v.ownBlock = none) : Own w' v e size n xs := by
  rcases hn with hn | hn
  · obtain ⟨b, off, cur, h1, h2, _⟩ := h.block hn
    exact h.keep (fun k hk => by
      have : b = k := Option.some.inj (h1.symm.trans hk)
      subst this; exact hg.block b (Array.getElem?_eq_some_iff.1 h2).1 (fun e => e))
  · exact h.keep (fun k hk => by rw [hn] at hk; cases hk)

set_option maxRecDepth 100000 in
theorem bytes_any (w : World) (o n : Nat) (ho : o ≤ 1000000) (hn : n ≤ 1000000) :
    Calls Tryd.prog 7 #[.int .i64 (o : Int), .int .i64 (n : Int)] w fun e w' => ∃ v, e = .returned v ∧ OwnB w' v (fB o n) ∧ Grow w w' ∧ ∀ k, v.ownBlock = some k → w.heap.size ≤ k := by
  go_enter Tryd.func7, Tryd.ntmps7
  go_wp2_with fail
  go_loopg [5, 6] n (fun k s5 s6 wr => ∃ i : Nat, k + i = n ∧ s6 = .int .i64 (((o + i : Nat)) : Int) ∧ OwnB wr s5 (fB o i) ∧ Grow w wr ∧ ∀ k, s5.ownBlock = some k → w.heap.size ≤ k ∧ k < wr.heap.size)
  case atStart => exact ⟨0, by simp, by go_num, Own.nil _ 5 1, Fr.refl _ _, fun k h => nomatch h⟩
  case round =>
    obtain ⟨i, hk, rfl, hO, hG, hfr⟩ := hrel
    by_cases hend : i = n
    · subst hend
      go_wp2_with fail
      go_ret
      exact ⟨_, rfl, hO, hG, fun k hk => (hfr k hk).1⟩
    · have hlt : i < n := by omega
      obtain ⟨_, p0, c0, rfl, _⟩ := id hO
      have HO := Lib.hid hO
      have hb := byte_any wr (o + i) (by omega)
      have HA : Hid (OwnB (wr.alloc (.cells #[YtdhhccpeikhilaaDoor.u8 (FB (o + i))] 5)) (.slice p0 (fB o i).length c0) (fB o i)) := Lib.hid (hO.keep (fun k hk => Below.heap_alloc _ _ _ (hfr k hk).2))
      clear hO
      have hlen : (fB o i).length + [FB (o + i)].length ≤ 1000000 := by rw [fB_length]; simp; omega
      have hlen2 := Lib.hid hlen
      clear hlen
      go_wp2_with (first | (go_at_call 21; refine hb.mono ?_; rintro e w2 ⟨rfl, rfl⟩) | (at_builtin; refine wpList_appendB _ rfl _ _ rfl (.slice p0 (fB o i).length c0) _ (fB o i) [FB (o + i)] HA.out (Rd.one _ _) hlen2.out rfl rfl ?_; intro dv w2 hO2 hF2 hfr2; obtain ⟨_, p2, c2, rfl, _⟩ := id hO2))
      go_roundg (gk - 1)
      case measure => omega
      case rel =>
        have e2 : fB o (i + 1) = fB o i ++ [FB (o + i)] := fB_succ o i
        refine ⟨i + 1, by omega, by go_num, by rw [e2]; simpa using hO2, Grow.trans' (hG.alloc _) hF2 (fun k hk => (hfr k (by simpa using hk)).1), fun k hk => ?_⟩
        have hsz : wr.heap.size < (wr.alloc (.cells #[YtdhhccpeikhilaaDoor.u8 (FB (o + i))] 5)).heap.size := by simp
        refine ⟨?_, ?_⟩
        · rcases hfr2 k (by simpa using hk) with e | e
          · exact (hfr k (by simpa using e)).1
          · have := hG.size; omega
        · obtain ⟨b, off, cur, h1, h2, _⟩ := hO2.block (by simp)
          have : b = k := Option.some.inj (h1.symm.trans (by simpa using hk))
          subst this
          exact (Array.getElem?_eq_some_iff.1 h2).1
end Go.Proofs.YtdhhccpeikhilaaDoor
namespace Go.Proofs.YtdhhccpeikhilaaDoor
open Go.RowKit

/-- One more act. -/
theorem wpList_appendStep (w : World) {ops : Array Oper} {rest : List Oper} {o : Oper} {a : Act} {Q : Exit → Act → World → Prop} (hgd : o.guard = none) (s x : Operand)
    (ho : o.op = .call { callee := .builtin .append, args := #[s, x], argTypes := #[24, 24] }) (sv : Value) (ys : List Stp) (y : Stp) (d : Value) (k : Nat) (hrow : StepsAt w sv ys) (hB : Blk w k #[.int .i64 (y.kind : Int), .int .i64 (y.off : Int), .int .i64 (y.most : Int), d] 30) (hlen : ys.length ≤ 1000000)
    (hd : Rd w d y.data) (hs : a.eval s = sv) (hx : a.eval x = .slice (some ⟨k, 0, none⟩) 1 1)
    (h : ∀ v' w', StepsAt w' v' (ys ++ [y]) → Fr (fun k => sv.ownBlock = some k ∧ ¬ BytesBlk w k) w w' → (∀ k, v'.ownBlock = some k → sv.ownBlock = some k ∨ w.heap.size ≤ k) → wpList Tryd.prog ops Q rest (a.put o.dst v') w') : wpList Tryd.prog ops Q (o :: rest) a w := by
  obtain ⟨i, hi, hzz⟩ := Option.map_eq_some_iff.1 info30
  simp only [Prod.mk.injEq] at hzz
  obtain ⟨hz, hsz, hb⟩ := hzz
  obtain ⟨pd, cd, rfl, _⟩ := id hd
  refine wpList_appendRow (cs := stC) (dat := Stp.data) Tryd.underlying24 hi hz hsz hb rfl (by omega) (by omega) w hgd s x ho sv _ ys y _ hrow ?_ hlen (by decide) hd hs hx h
  refine Src.ofSlice w Tryd.underlying24 _ 1 1 _ rfl (fun j u hj => ?_) (fun u hu => ?_)
  · have := hB.cellAt j u (by rw [← hj]; simp)
    simpa [Addr.add_lit] using this
  · simp only [stC, List.mem_cons, List.not_mem_nil, or_false] at hu
    rcases hu with rfl | rfl | rfl | rfl <;> rfl

set_option maxRecDepth 100000 in
set_option maxHeartbeats 1000000 in
theorem cyPlay_any (w : World) (v : Value) (xs : List Stp) (hst : StepsAt w v xs) (hl : xs.length ≤ 1000) (hd : ∀ x ∈ xs, x.data.length ≤ 1000000) (R : List Sn → Prop)
    (H : ∀ w1 v1, Grow w w1 → StepsAt w1 v1 xs → Calls Tryd.prog 17 #[.bool false, .bool false, v1] w1 fun e w2 => Grow w1 w2 ∧ ∃ vs ys, e = .returned (.tuple #[vs, .bool true]) ∧ ys.length = xs.length ∧ SeenAt w2 vs ys ∧ R ys) :
    Calls Tryd.prog 8 #[v] w fun e w' => Grow w w' ∧ ∃ vs ys, e = .returned (.tuple #[vs, .bool true]) ∧ ys.length = xs.length ∧ SeenAt w' vs ys ∧ R ys := by
  obtain ⟨pv, cv, rfl, hlc, hcm⟩ := hst.slice
  have Hst := Lib.hid hst
  have Hd := Lib.hid hd
  have HH := Lib.hid H
  clear hst hd H
  go_enter Tryd.func8, Tryd.ntmps8
  go_wp2_with fail
  go_loopg [4, 11] xs.length (fun k s4 s11 wr => ∃ i : Nat, k + i = xs.length ∧ s11 = .int .i64 (i : Int) ∧ Hid (StepsAt wr s4 (xs.take i) ∧ Grow w wr ∧ (∀ k, s4.ownBlock = some k → w.heap.size ≤ k)))
  case atStart => exact ⟨0, by simp, rfl, Lib.hid ⟨RowAt.nil _, Fr.refl _ _, fun k h => nomatch h⟩⟩
  case round =>
    obtain ⟨i, hk, rfl, HI⟩ := hrel
    by_cases hend : i = xs.length
    · have hne : ¬ (i < xs.length) := by omega
      have HS : Hid (StepsAt wr u4 xs) := Lib.hid (by have := HI.out.1; rwa [List.take_of_length_le (by omega)] at this)
      have HC := HH.out wr u4 HI.out.2.1 HS.out
      have HC' := Lib.hid HC
      clear HC
      go_wp2_with (go_at_call 17; refine HC'.out.mono ?_; rintro e w2 ⟨hg2, vs, ys, rfl, hyl, hS2, hR2⟩; obtain ⟨p2, c2, rfl, _⟩ := hS2.slice)
      go_ret2
      refine ⟨HI.out.2.1.trans hg2, _, ys, ?_, hyl, hS2, hR2⟩
      rw [hyl]
      rfl
    · have hxi : xs[i]? = some (xs[i]'(by omega)) := List.getElem?_eq_getElem (by omega)
      generalize xs[i]'(by omega) = X at hxi
      have hXd := Hd.out X (List.mem_of_getElem? hxi)
      obtain ⟨K, A, M, D⟩ := X
      have HX := Lib.hid hxi
      obtain ⟨bs, o, cs, d, hv, _, _, hd, hcell, cur, hcur⟩ := RowAt.get (cs := stC) (size := 4) (fun _ _ => rfl) (Hst.out.grow HI.out.2.1) hxi
      injection hv with hv1 hv2 hv3
      subst hv1
      subst hv3
      have e0 : wr.cell? ⟨bs, o + i * 4, none⟩ = some (.int .i64 (K : Int)) := hcell 0 _ rfl
      have e1 : wr.cell? ⟨bs, o + i * 4 + 1, none⟩ = some (.int .i64 (A : Int)) := hcell 1 _ rfl
      have e2 : wr.cell? ⟨bs, o + i * 4 + 2, none⟩ = some (.int .i64 (M : Int)) := hcell 2 _ rfl
      have e3 : wr.cell? ⟨bs, o + i * 4 + 3, none⟩ = some d := hcell 3 _ rfl
      have hbl : bs < wr.heap.size := (Array.getElem?_eq_some_iff.1 hcur).1
      have his : i < xs.length := by omega
      obtain ⟨pd, cd, rfl, _⟩ := id hd
      have Hd2 := Lib.hid hd
      clear hcell hcur cur hxi hd hend hv2
      go_upto_region 5 with fail
      have hG0 : Grow wr (wr.alloc (.cells #[.int .i64 (K : Int), .int .i64 (A : Int), .int .i64 (M : Int), .slice pd D.length cd] 30)) := (Fr.refl _ _).alloc _
      have hX0 : Blk (wr.alloc (.cells #[.int .i64 (K : Int), .int .i64 (A : Int), .int .i64 (M : Int), .slice pd D.length cd] 30)) wr.heap.size #[.int .i64 (K : Int), .int .i64 (A : Int), .int .i64 (M : Int), .slice pd D.length cd] 30 := Blk.new wr _ _
      generalize (wr.alloc (.cells #[.int .i64 (K : Int), .int .i64 (A : Int), .int .i64 (M : Int), .slice pd D.length cd] 30)) = wa at *
      have x3 : wa.cell? ⟨wr.heap.size, 3, none⟩ = some (.slice pd D.length cd) := hX0.cellAt 3 _ rfl
      have hltX := hX0.lt
      have hda := Lib.hid (Hd2.out.keep hG0.bytes)
      have HG0 := Lib.hid hG0
      have HX0 := Lib.hid hX0
      clear e0 e1 e2 e3 hbl hG0 hX0
      go_upto_region 6 with (go_at_call 16; refine (clone_any wa _ D hda.out hXd).mono ?_; rintro e wb ⟨dv, rfl, hOb, hGb, hfb⟩; obtain ⟨_, pb, cb, rfl, _⟩ := id hOb; have hXb := hGb.blk HX0.out (fun e => e); have xb3 : wb.cell? ⟨wr.heap.size, 3, none⟩ = some (.slice pd D.length cd) := hXb.cellAt 3 _ rfl; have hltb := hXb.lt; have hfrb := hXb.free)
      have hGc : Grow wr (wb.setCell ⟨wr.heap.size, 3, none⟩ (.slice pb D.length cb)) := (HG0.out.trans hGb).setCell _ _ (.inr (Nat.le_refl _))
      have hXc := hXb.set 3 (.slice pb D.length cb)
      have hRc := hOb.rd.set hXb (by decide) 3 (.slice pb D.length cb)
      generalize wb.setCell ⟨wr.heap.size, 3, none⟩ (.slice pb D.length cb) = wc at *
      have z0 : wc.cell? ⟨wr.heap.size, 0, none⟩ = some (.int .i64 (K : Int)) := hXc.cellAt 0 _ rfl
      have z1 : wc.cell? ⟨wr.heap.size, 1, none⟩ = some (.int .i64 (A : Int)) := hXc.cellAt 1 _ rfl
      have z2 : wc.cell? ⟨wr.heap.size, 2, none⟩ = some (.int .i64 (M : Int)) := hXc.cellAt 2 _ rfl
      have z3 : wc.cell? ⟨wr.heap.size, 3, none⟩ = some (.slice pb D.length cb) := hXc.cellAt 3 _ rfl
      have hltc := hXc.lt
      have hGd : Grow wc (wc.alloc (.cells #[.int .i64 (K : Int), .int .i64 (A : Int), .int .i64 (M : Int), .slice pb D.length cb] 30)) := (Fr.refl _ _).alloc _
      have HGc := Lib.hid hGc
      have HGd := Lib.hid hGd
      have HRc := Lib.hid hRc
      clear hOb hGb hfb hXb xb3 hltb hfrb x3 hltX hXc hGc hGd hRc
      go_wp2_with (at_builtin; refine wpList_appendStep _ rfl _ _ rfl _ (xs.take i) ⟨K, A, M, D⟩ (.slice pb D.length cb) wc.heap.size ((HI.out.1.grow HGc.out).grow HGd.out) (Blk.new wc _ _) (by rw [List.length_take]; omega) (HRc.out.keep HGd.out.bytes) rfl rfl ?_; intro v9 w9 hS9 hF9 hfr9; obtain ⟨p8, c8, rfl, _⟩ := hS9.slice)
      go_roundg (gk - 1)
      case measure => omega
      case rel =>
        have e1 : xs.take i ++ [⟨K, A, M, D⟩] = xs.take (i + 1) := by rw [List.take_add_one, HX.out]; rfl
        refine ⟨i + 1, by omega, by go_num, Lib.hid ⟨?_, Grow.trans' (HI.out.2.1.trans (HGc.out.trans HGd.out)) hF9 (fun k hk => HI.out.2.2 k hk.1), fun k hk => ?_⟩⟩
        · rw [← e1]; simpa using hS9
        · rcases hfr9 k (by simpa using hk) with e | e
          · exact HI.out.2.2 k e
          · exact Nat.le_trans (Nat.le_trans HI.out.2.1.size (Nat.le_trans HGc.out.size HGd.out.size)) e
end Go.Proofs.YtdhhccpeikhilaaDoor
