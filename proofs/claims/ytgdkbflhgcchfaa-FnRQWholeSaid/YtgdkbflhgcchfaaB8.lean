/- The reference's next frame: (*RQState).next. -/
import Derived.Test.YtgdkbflhgcchfaaB7
namespace Go.Proofs.Ytgdkbflhgcchfaa
open Go.RowKit

/-- What next leaves and gives. -/
def NextOut (w w' : World) (s n : Nat) (C : Array Value) (M : Nat) (cv ov : Value) (cs : List (Nat × List UInt8)) (os : List Ct) (ret : Value) : Prop :=
  ∃ cv' ov' cs' os' r, Blk w' s ((C.setIfInBounds n cv').setIfInBounds (3 + n) ov') 54 ∧ RowC w' cv' cs' ∧ RowO w' ov' os' ∧ cv'.ownBlock = cv.ownBlock ∧ ov'.ownBlock = ov.ownBlock ∧ Fr (fun k => k = s ∨ cv.ownBlock = some k) w w' ∧
    nextF M cs os = (r, cs', os') ∧ (r = none → ret = .tuple #[.slice none 0 0, .bool false]) ∧ (∀ c, r = some c → ∃ v, ret = .tuple #[v, .bool true] ∧ Rd w' v c.enc)
theorem enc_crypto (a : Nat) (d : List UInt8) : (Ct.crypto a d).enc.length = 1 + vlen a + vlen d.length + d.length := by
  simp [Ct.enc, V_length]; omega
theorem RowAt.setStruct {α : Type} {cs : α → Value → List Value} {dat : α → List UInt8} {e size : Nat} {w : World} {v : Value} {xs : List α} (h : RowAt cs dat e size w v xs) {s : Nat} {C : Array Value} (hB : Blk w s C 54) (he : e ≠ 54) (i : Nat) (u : Value) : RowAt cs dat e size (w.setCell ⟨s, i, none⟩ u) v xs :=
  h.set hB (by decide) (fun j hj e2 => by
    subst e2
    obtain ⟨cur, f, hc⟩ := h.1 _ hj
    have := Option.some.inj (hc.symm.trans hB)
    injection this with _ x _
    exact he x) i u
theorem whole_out {w w1 : World} {s n rb off cap M : Nat} {C : Array Value} {ov V1 v : Value} {x : Nat × List UInt8} {cs : List (Nat × List UInt8)} {os : List Ct} (hB : Blk w s C 54) (_hcv : C[n]? = some (.slice (some ⟨rb, off, none⟩) (cs.length + 1) cap)) (hov : C[3 + n]? = some ov) (_hC : RowC w (.slice (some ⟨rb, off, none⟩) (cs.length + 1) cap) (x :: cs)) (hO : RowO w ov os)
    (hT : RowC w (tlS rb off 2 cs.length cap) cs) (hG : Grow w w1) (_hn : n < 3) (hv : Rd w1 v (Ct.crypto x.1 x.2).enc) (hfit : (Ct.crypto x.1 x.2).enc.length ≤ M) (hV : V1 = tlS rb off 2 cs.length cap) :
    NextOut w (w1.setCell ⟨s, n, none⟩ V1).drew s n C M (.slice (some ⟨rb, off, none⟩) (cs.length + 1) cap) ov (x :: cs) os (.tuple #[v, .bool true]) := by
  subst hV
  have hB1 := hG.blk hB (fun e => e)
  refine ⟨tlS rb off 2 cs.length cap, ov, cs, os, some (.crypto x.1 x.2), ?_, ((hT.grow hG).setStruct hB1 (by decide) n _).grow (Fr.refl _ _).drew, ((hO.grow hG).setStruct hB1 (by decide) n _).grow (Fr.refl _ _).drew, tlS_own _ _ _ _ _, rfl, ((Grow.to hG).setCell _ _ (.inl (.inl rfl))).drew, ?_, (fun e => nomatch e), fun c hc => ?_⟩
  · rw [set_same (v := ov) (by rw [Array.getElem?_setIfInBounds_ne (by omega), hov])]
    exact (hB1.set n _).drew
  · rw [enc_crypto] at hfit
    simp [nextF, hfit]
  · injection hc with hc
    subst hc
    exact ⟨v, rfl, (hv.set hB1 (by decide) n _).keep (fun _ _ => rfl)⟩
theorem split_out {w w2 : World} {s n rb off cap M L k cd : Nat} {p : Option Addr} {C : Array Value} {ov v Vd : Value} {x : Nat × List UInt8} {cs : List (Nat × List UInt8)} {os : List Ct} (hB : Blk w s C 54) (hcv : C[n]? = some (.slice (some ⟨rb, off, none⟩) (cs.length + 1) cap)) (hov : C[3 + n]? = some ov) (hC : RowC w (.slice (some ⟨rb, off, none⟩) (cs.length + 1) cap) (x :: cs)) (hO : RowO w ov os)
    (hG : Grow w w2) (_hn : n < 3) (hv : Rd w2 v (Ct.crypto x.1 (x.2.take k)).enc) (hfit : ¬ (L ≤ M)) (hL : L = (Ct.crypto x.1 x.2).enc.length) (hk0 : k ≠ 0) (hkl : k ≤ x.2.length) (hk : room x.1 M = k) (hD : Rd w (.slice p x.2.length cd) x.2) (hV : Vd = .slice (if cd = k then p else p.map (·.add k)) (x.2.length - k) (cd - k)) :
    NextOut w ((w2.setCell ⟨rb, off, none⟩ (.int .i64 ((x.1 : Int) + (k : Int)))).setCell ⟨rb, off + 1, none⟩ Vd).drew s n C M (.slice (some ⟨rb, off, none⟩) (cs.length + 1) cap) ov (x :: cs) os (.tuple #[v, .bool true]) := by
  subst hV
  have hB1 := hG.blk hB (fun e => e)
  have hC1 := hC.grow hG
  have hD1 := (hD.keep hG.bytes).drop k hkl
  have hC2 := RowC.setHead (a' := x.1 + k) hC1 hD1
  obtain ⟨cur, f, hrow⟩ := hC1.1 rb rfl
  have hF : Fr (fun j => j = rb) w2 ((w2.setCell ⟨rb, off, none⟩ (.int .i64 ((x.1 : Int) + (k : Int)))).setCell ⟨rb, off + 1, none⟩ (.slice (if cd = k then p else p.map (·.add k)) (x.2.length - k) (cd - k))) := ((Fr.refl (fun j => j = rb) w2).setCell ⟨rb, off, none⟩ _ (.inl rfl)).setCell ⟨rb, off + 1, none⟩ _ (.inl rfl)
  have hnr : ∀ (j : Nat) (c : Array Value) (T : TypeId) (f' : Nat × Nat), w2.heap[j]? = some (Obj.cells c T f') → T ≠ 73 → j ≠ rb := fun j c T f' hj hT e => by
    subst e
    have := Option.some.inj (hj.symm.trans hrow)
    injection this with _ x _
    exact hT x
  have hK : KeepB w2 ((w2.setCell ⟨rb, off, none⟩ (.int .i64 ((x.1 : Int) + (k : Int)))).setCell ⟨rb, off + 1, none⟩ (.slice (if cd = k then p else p.map (·.add k)) (x.2.length - k) (cd - k))) := fun j ⟨c, f', hj⟩ => hF.block j (Array.getElem?_eq_some_iff.1 hj).1 (hnr j c 5 f' hj (by decide))
  refine ⟨.slice (some ⟨rb, off, none⟩) (cs.length + 1) cap, ov, (x.1 + k, x.2.drop k) :: cs, os, some (.crypto x.1 (x.2.take k)), ?_, ?_, ?_, rfl, rfl, ?_, ?_, (fun e => nomatch e), fun c hc => ?_⟩
  · rw [set_same hcv, set_same hov]
    exact (hF.blk hB1 (fun e => hnr s _ _ _ hB1 (by decide) e)).drew
  · exact hC2.grow (Fr.refl _ _).drew
  · refine RowAt.grow ((hO.grow hG).keep (fun j hj => ?_) hK) (Fr.refl _ _).drew
    obtain ⟨c', f', hj'⟩ := (hO.grow hG).1 j hj
    exact hF.block j ((hO.grow hG).lt hj) (hnr j _ _ _ hj' (by decide))
  · exact ((Grow.to hG).trans (hF.mono (fun j _ e => .inr (by rw [show j = rb from e]; rfl)))).drew
  · rw [hL, enc_crypto] at hfit
    simp [nextF, hfit, hk, hk0]
  · injection hc with hc
    subst hc
    exact ⟨v, rfl, (hv.keep hK).keep (fun _ _ => rfl)⟩
theorem none_out {w w1 : World} {s n M : Nat} {C : Array Value} {cv ov : Value} {cs : List (Nat × List UInt8)} {os : List Ct} (hB : Blk w s C 54) (hcv : C[n]? = some cv) (hov : C[3 + n]? = some ov) (hC : RowC w cv cs) (hO : RowO w ov os) (hG : Grow w w1) (hN : nextF M cs os = (none, cs, os)) :
    NextOut w w1 s n C M cv ov cs os (.tuple #[.slice none 0 0, .bool false]) := by
  refine ⟨cv, ov, cs, os, none, ?_, hC.grow hG, hO.grow hG, rfl, rfl, Grow.to hG, hN, (fun _ => rfl), (fun _ e => nomatch e)⟩
  rw [set_same hcv, set_same hov]
  exact hG.blk hB (fun e => e)
theorem other_out {w w1 : World} {s n rb off cap M : Nat} {C : Array Value} {cv V1 d : Value} {c : Ct} {cs : List (Nat × List UInt8)} {os : List Ct} (hB : Blk w s C 54) (hcv : C[n]? = some cv) (hC : RowC w cv cs) (_ : RowO w (.slice (some ⟨rb, off, none⟩) (os.length + 1) cap) (c :: os))
    (hT : RowO w (tlS rb off 1 os.length cap) os) (hG : Grow w w1) (_hn : n < 3) (hd : Rd w d c.enc) (hN : nextF M cs (c :: os) = (some c, cs, os)) (hV : V1 = tlS rb off 1 os.length cap) :
    NextOut w (w1.setCell ⟨s, 3 + n, none⟩ V1).drew s n C M cv (.slice (some ⟨rb, off, none⟩) (os.length + 1) cap) cs (c :: os) (.tuple #[d, .bool true]) := by
  subst hV
  have hB1 := hG.blk hB (fun e => e)
  refine ⟨cv, tlS rb off 1 os.length cap, cs, os, some c, ?_, ((hC.grow hG).setStruct hB1 (by decide) (3 + n) _).grow (Fr.refl _ _).drew, ((hT.grow hG).setStruct hB1 (by decide) (3 + n) _).grow (Fr.refl _ _).drew, rfl, tlS_own _ _ _ _ _, ((Grow.to hG).setCell _ _ (.inl (.inl rfl))).drew, hN, (fun e => nomatch e), fun c' hc => ?_⟩
  · rw [set_same hcv]
    exact (hB1.set (3 + n) _).drew
  · injection hc with hc
    subst hc
    exact ⟨d, rfl, ((hd.keep hG.bytes).set hB1 (by decide) (3 + n) _).keep (fun _ _ => rfl)⟩

set_option maxRecDepth 100000 in
set_option maxHeartbeats 8000000 in
theorem next_whole (w : World) (s n M : Nat) (C : Array Value) (cv ov : Value) (x : Nat × List UInt8) (cs : List (Nat × List UInt8)) (os : List Ct) (hB : Blk w s C 54) (hcv : C[n]? = some cv) (hov : C[3 + n]? = some ov) (hn : n < 3) (hC : RowC w cv (x :: cs)) (hO : RowO w ov os) (hb : x.1 + x.2.length ≤ 10000000000 ∧ x.2.length ≤ 400) (hfit : (Ct.crypto x.1 x.2).enc.length ≤ M) :
    Calls Try.prog 20 #[pt s, .int .i64 (n : Int), .int .i64 (M : Int)] w fun e w' => ∃ ret, e = .returned ret ∧ NextOut w w' s n C M cv ov (x :: cs) os ret := by
  obtain ⟨rb, off, cap, d, rfl, h1, h2, hd, hcell, hrb, hfr, hT⟩ := RowAt.head (cs := cC) (fun _ _ => rfl) hC
  have c0 : w.cell? ⟨s, n, none⟩ = some (.slice (some ⟨rb, off, none⟩) (cs.length + 1) cap) := hB.cellAt n _ hcv
  have r0 : w.cell? ⟨rb, off, none⟩ = some (.int .i64 (x.1 : Int)) := hcell 0 _ rfl
  have r1 : w.cell? ⟨rb, off + 1, none⟩ = some d := hcell 1 _ rfl
  have hlt := hB.lt
  obtain ⟨p, cd, rfl, _⟩ := id hd
  have HC8 := Lib.hid (refCrypto_any w.drew x.1 _ x.2 (hd.keep (w' := w.drew) (fun _ _ => rfl)) (by omega) hb.2)
  obtain ⟨L, hL⟩ : ∃ L, L = (Ct.crypto x.1 x.2).enc.length := ⟨_, rfl⟩
  rw [← hL] at hfit
  have HLL := Lib.hid hL
  have HB := Lib.hid hB
  have HC := Lib.hid hC
  have HO := Lib.hid hO
  have HT := Lib.hid hT
  have HFit := Lib.hid hfit
  have HCV := Lib.hid hcv
  have HOV := Lib.hid hov
  have HFR := Lib.hid hfr
  have HD := Lib.hid hd
  have HR0 := Lib.hid (And.intro hrb r1)
  clear hcell hd hB hC hO hT hcv hov hfr hL
  go_enter Try.func20, Try.ntmps20
  go_upto_region 3 with fail
  go_cut [9] from 28 to 36 (fun s9 wx => ∃ p1 c1, s9 = .slice p1 L c1 ∧ Hid (Rd wx (.slice p1 L c1) (Ct.crypto x.1 x.2).enc ∧ Grow w wx))
  case first =>
    go_region_with (go_at_call 8; refine HC8.out.mono ?_; rintro e w1 ⟨v1, rfl, hbuf⟩; obtain ⟨p1, c1, rfl, hr1⟩ := hbuf.1.rd.int HLL.out.symm; have HR1 := Lib.hid hr1; have HG1 := Lib.hid (show Grow w w1 from (Fr.refl _ w).drew.trans hbuf.2.1); clear hbuf hr1)
    all_goals (go_wp2_with fail; go_meet; exact ⟨p1, c1, rfl, Lib.hid ⟨HR1.out, HG1.out⟩⟩)
  case rest =>
  obtain ⟨p1, c1, rfl, hc⟩ := hcut
  have HR1 := Lib.hid hc.out.1
  have HG1 := Lib.hid hc.out.2
  have g0 : wc.cell? ⟨s, n, none⟩ = some (.slice (some ⟨rb, off, none⟩) (cs.length + 1) cap) := (HG1.out.cell hlt).trans c0
  have g1 : wc.cell? ⟨rb, off, none⟩ = some (.int .i64 (x.1 : Int)) := (HG1.out.cell hrb).trans r0
  have g2 : wc.cell? ⟨rb, off + 1, none⟩ = some (.slice p x.2.length cd) := (HG1.out.cell hrb).trans r1
  have hB1 := HG1.out.blk HB.out (fun e => e)
  have hlt1 := hB1.lt
  have hf1 := hB1.free
  have HB1 := Lib.hid hB1
  have hrb1 : rb < wc.heap.size := Nat.lt_of_lt_of_le hrb HG1.out.size
  clear c0 r0 r1 hB1 hc hlt hrb
  have d0 : decide (L ≤ M) = true := decide_eq_true hfit
  clear hfit
  go_upto_region 5 with fail
  go_region
  all_goals go_wp2_with fail
  all_goals (
    refine bodyPost_ret (v := .tuple #[.slice p1 L c1, .bool true]) (by simp [results, Try.results20, go_sem]) rfl ?_
    try subst_vars
    exact ⟨_, rfl, whole_out HB.out HCV.out HOV.out HC.out HO.out HT.out HG1.out hn HR1.out (by first | exact HFit.out | (rw [← HLL.out]; exact HFit.out)) (by unfold tlS; split <;> simp <;> omega)⟩)

set_option maxRecDepth 100000 in
set_option maxHeartbeats 8000000 in
theorem next_split (w : World) (s n M : Nat) (C : Array Value) (cv ov : Value) (x : Nat × List UInt8) (cs : List (Nat × List UInt8)) (os : List Ct) (hB : Blk w s C 54) (hcv : C[n]? = some cv) (hov : C[3 + n]? = some ov) (hn : n < 3) (hC : RowC w cv (x :: cs)) (hO : RowO w ov os) (hM : M ≤ 100000) (hb : x.1 + x.2.length ≤ 10000000000 ∧ x.2.length ≤ 400) (hfit : ¬ ((Ct.crypto x.1 x.2).enc.length ≤ M)) (k : Nat) (hk : room x.1 M = k) (hk0 : k ≠ 0) (hkl : k ≤ x.2.length) :
    Calls Try.prog 20 #[pt s, .int .i64 (n : Int), .int .i64 (M : Int)] w fun e w' => ∃ ret, e = .returned ret ∧ NextOut w w' s n C M cv ov (x :: cs) os ret := by
  obtain ⟨rb, off, cap, d, rfl, h1, h2, hd, hcell, hrb, hfr, hT⟩ := RowAt.head (cs := cC) (fun _ _ => rfl) hC
  have c0 : w.cell? ⟨s, n, none⟩ = some (.slice (some ⟨rb, off, none⟩) (cs.length + 1) cap) := hB.cellAt n _ hcv
  have r0 : w.cell? ⟨rb, off, none⟩ = some (.int .i64 (x.1 : Int)) := hcell 0 _ rfl
  have r1 : w.cell? ⟨rb, off + 1, none⟩ = some d := hcell 1 _ rfl
  have hlt := hB.lt
  obtain ⟨p, cd, rfl, _⟩ := id hd
  have HC8 := Lib.hid (refCrypto_any w.drew x.1 _ x.2 (hd.keep (w' := w.drew) (fun _ _ => rfl)) (by omega) hb.2)
  obtain ⟨L, hL⟩ : ∃ L, L = (Ct.crypto x.1 x.2).enc.length := ⟨_, rfl⟩
  rw [← hL] at hfit
  have HLL := Lib.hid hL
  have HB := Lib.hid hB
  have HC := Lib.hid hC
  have HO := Lib.hid hO
  have HT := Lib.hid hT
  have HFit := Lib.hid hfit
  have HCV := Lib.hid hcv
  have HOV := Lib.hid hov
  have HFR := Lib.hid hfr
  have HD := Lib.hid hd
  have HR0 := Lib.hid (And.intro hrb r1)
  have HK := Lib.hid hk
  have hrm := room_any w x.1 M (by omega) (by omega)
  rw [hk] at hrm
  clear hrm
  clear hk
  clear hcell hd hB hC hO hT hcv hov hfr hL
  go_enter Try.func20, Try.ntmps20
  go_upto_region 3 with fail
  go_cut [9] from 28 to 36 (fun s9 wx => ∃ p1 c1, s9 = .slice p1 L c1 ∧ Hid (Rd wx (.slice p1 L c1) (Ct.crypto x.1 x.2).enc ∧ Grow w wx))
  case first =>
    go_region_with (go_at_call 8; refine HC8.out.mono ?_; rintro e w1 ⟨v1, rfl, hbuf⟩; obtain ⟨p1, c1, rfl, hr1⟩ := hbuf.1.rd.int HLL.out.symm; have HR1 := Lib.hid hr1; have HG1 := Lib.hid (show Grow w w1 from (Fr.refl _ w).drew.trans hbuf.2.1); clear hbuf hr1)
    all_goals (go_wp2_with fail; go_meet; exact ⟨p1, c1, rfl, Lib.hid ⟨HR1.out, HG1.out⟩⟩)
  case rest =>
  obtain ⟨p1, c1, rfl, hc⟩ := hcut
  have HR1 := Lib.hid hc.out.1
  have HG1 := Lib.hid hc.out.2
  have g0 : wc.cell? ⟨s, n, none⟩ = some (.slice (some ⟨rb, off, none⟩) (cs.length + 1) cap) := (HG1.out.cell hlt).trans c0
  have g1 : wc.cell? ⟨rb, off, none⟩ = some (.int .i64 (x.1 : Int)) := (HG1.out.cell hrb).trans r0
  have g2 : wc.cell? ⟨rb, off + 1, none⟩ = some (.slice p x.2.length cd) := (HG1.out.cell hrb).trans r1
  have hB1 := HG1.out.blk HB.out (fun e => e)
  have hlt1 := hB1.lt
  have hf1 := hB1.free
  have HB1 := Lib.hid hB1
  have hrb1 : rb < wc.heap.size := Nat.lt_of_lt_of_le hrb HG1.out.size
  clear c0 r0 r1 hB1 hc hlt hrb
  have d0 : decide (L ≤ M) = false := decide_eq_false hfit
  have hkd : decide (0 < k) = true := decide_eq_true (by omega)
  have hrm : Calls Try.prog 30 #[.int .i64 (x.1 : Int), .int .i64 (M : Int)] wc fun e w' => e = .returned (.int .i64 (k : Int)) ∧ wc = w' := by
    have := room_any wc x.1 M (by omega) (by omega)
    rwa [HK.out] at this
  have HRM := Lib.hid hrm
  have HC9 := Lib.hid (refCrypto_any wc.drew x.1 _ (x.2.take k) ((HD.out.take k hkl).keep (w' := wc.drew) (Grow.bytes HG1.out.drew)) (by omega) (by rw [List.length_take]; omega))
  have hkcd : k ≤ cd := by obtain ⟨_, _, e, h, _⟩ := HD.out; injection e with _ _ e; subst e; omega
  have hx1 : x.1 + k ≤ 10000000000 := by omega
  clear hfit hrm
  go_upto_region 9 with (go_at_call 30; refine HRM.out.mono ?_; rintro e w2 ⟨rfl, rfl⟩)
  go_cut [11] from 62 to 72 (fun s11 wx => ∃ p2 c2 L2, s11 = .slice p2 L2 c2 ∧ Hid (Rd wx s11 (Ct.crypto x.1 (x.2.take k)).enc ∧ Grow w wx))
  case first =>
    go_region_with (go_at_call 8; refine HC9.out.mono ?_; rintro e w3 ⟨v3, rfl, hbuf⟩; obtain ⟨_, p3, c3, rfl, _⟩ := id hbuf.1; have HR3 := Lib.hid hbuf.1.rd; have HG3 := Lib.hid (show Grow w w3 from HG1.out.drew.trans hbuf.2.1); clear hbuf)
    all_goals (go_wp2_with fail; go_meet; exact ⟨p3, c3, _, rfl, Lib.hid ⟨HR3.out, HG3.out⟩⟩)
  case rest =>
  obtain ⟨p2, c2, L2, rfl, hc2⟩ := hcut
  have HR2 := Lib.hid hc2.out.1
  have HG2 := Lib.hid hc2.out.2
  have HC2 := Lib.hid (HC.out.grow HG2.out)
  obtain ⟨b0, o0, q0, d0', e0, _, _, hd0, hcell0, hrb0, hfr0, _⟩ := RowAt.head (cs := cC) (fun _ _ => rfl) HC2.out
  injection e0 with e1 _ e3
  injection e1 with e1
  injection e1 with e1 e2 _
  subst e1 e2 e3
  have f1 : wc.cell? ⟨rb, off, none⟩ = some (.int .i64 (x.1 : Int)) := hcell0 0 _ rfl
  have f2 : wc.cell? ⟨rb, off + 1, none⟩ = some (.slice p x.2.length cd) := by
    rw [World.cell?_of_block (w := w) (a := ⟨rb, off + 1, none⟩) (HG2.out.block rb HR0.out.1 (fun e => e))]
    exact HR0.out.2
  clear hcell0 hd0 g0 g1 g2 hc2 hlt1 hf1 hrb1
  go_upto_region 10 with fail
  go_region
  all_goals go_wp2_with fail
  all_goals (
    refine bodyPost_ret (v := .tuple #[.slice p2 L2 c2, .bool true]) (by simp [results, Try.results20, go_sem]) rfl ?_
    exact ⟨_, rfl, split_out HB.out HCV.out HOV.out HC.out HO.out HG2.out hn HR2.out HFit.out HLL.out hk0 hkl HK.out HD.out (by split <;> simp <;> omega)⟩)

set_option maxRecDepth 100000 in
set_option maxHeartbeats 8000000 in
theorem next_eNil (w : World) (s n M : Nat) (C : Array Value) (cv ov : Value) (hB : Blk w s C 54) (hcv : C[n]? = some cv) (hov : C[3 + n]? = some ov) (hn : n < 3) (hC : RowC w cv []) (hO : RowO w ov []) :
    Calls Try.prog 20 #[pt s, .int .i64 (n : Int), .int .i64 (M : Int)] w fun e w' => ∃ ret, e = .returned ret ∧ NextOut w w' s n C M cv ov [] [] ret := by
  have HN : Hid (nextF M [] [] = (none, [], [])) := Lib.hid (by simp [nextF, nextO])
  obtain ⟨p2, c2, rfl, _⟩ := hO.slice
  obtain ⟨p0, c0', rfl, _⟩ := hC.slice
  have c0 : w.cell? ⟨s, n, none⟩ = some (.slice p0 0 c0') := hB.cellAt n _ hcv
  have c1 : w.cell? ⟨s, 3 + n, none⟩ = some (.slice p2 0 c2) := hB.cellAt (3 + n) _ hov
  have hlt := hB.lt
  have hfs := hB.free
  have HB := Lib.hid hB
  have HC := Lib.hid hC
  have HO := Lib.hid hO
  have HCV := Lib.hid hcv
  have HOV := Lib.hid hov
  clear hB hC hO hcv hov
  go_enter Try.func20, Try.ntmps20
  go_wp2_with fail
  refine bodyPost_ret (v := .tuple #[.slice none 0 0, .bool false]) (by simp [results, Try.results20, go_sem]) rfl ?_
  exact ⟨_, rfl, none_out HB.out HCV.out HOV.out HC.out HO.out (Fr.refl _ w) HN.out⟩

set_option maxRecDepth 100000 in
set_option maxHeartbeats 8000000 in
theorem next_eLong (w : World) (s n M : Nat) (C : Array Value) (cv ov : Value) (y : Ct) (os : List Ct) (hB : Blk w s C 54) (hcv : C[n]? = some cv) (hov : C[3 + n]? = some ov) (hn : n < 3) (hC : RowC w cv []) (hO : RowO w ov (y :: os)) (hl : M < y.enc.length) :
    Calls Try.prog 20 #[pt s, .int .i64 (n : Int), .int .i64 (M : Int)] w fun e w' => ∃ ret, e = .returned ret ∧ NextOut w w' s n C M cv ov [] (y :: os) ret := by
  have HN : Hid (nextF M [] (y :: os) = (none, [], (y :: os))) := Lib.hid (by simp [nextF, nextO, Nat.not_le.2 hl])
  obtain ⟨rb2, off2, cap2, d2, rfl, k1, k2, hd2, hcell2, hrb2, _, hT2⟩ := RowAt.head (cs := cO) (fun _ _ => rfl) hO
  have q1 : w.cell? ⟨rb2, off2, none⟩ = some d2 := hcell2 0 _ rfl
  obtain ⟨pd2, cd2, rfl, _⟩ := id hd2
  have HT2 := Lib.hid hT2
  have HD2 := Lib.hid hd2
  have HQ := Lib.hid (And.intro hrb2 q1)
  have dl : decide (M < y.enc.length) = true := decide_eq_true hl
  clear hcell2 hd2 hT2 hl q1 hrb2
  obtain ⟨p0, c0', rfl, _⟩ := hC.slice
  have c0 : w.cell? ⟨s, n, none⟩ = some (.slice p0 0 c0') := hB.cellAt n _ hcv
  have c1 : w.cell? ⟨s, 3 + n, none⟩ = some (.slice (some ⟨rb2, off2, none⟩) (os.length + 1) cap2) := hB.cellAt (3 + n) _ hov
  have hlt := hB.lt
  have hfs := hB.free
  have q1 := HQ.out.2
  have hrb2 := HQ.out.1
  have HB := Lib.hid hB
  have HC := Lib.hid hC
  have HO := Lib.hid hO
  have HCV := Lib.hid hcv
  have HOV := Lib.hid hov
  clear hB hC hO hcv hov
  go_enter Try.func20, Try.ntmps20
  go_wp2_with fail
  refine bodyPost_ret (v := .tuple #[.slice none 0 0, .bool false]) (by simp [results, Try.results20, go_sem]) rfl ?_
  exact ⟨_, rfl, none_out HB.out HCV.out HOV.out HC.out HO.out (Fr.refl _ w) HN.out⟩

set_option maxRecDepth 100000 in
set_option maxHeartbeats 8000000 in
theorem next_eOne (w : World) (s n M : Nat) (C : Array Value) (cv ov : Value) (y : Ct) (os : List Ct) (hB : Blk w s C 54) (hcv : C[n]? = some cv) (hov : C[3 + n]? = some ov) (hn : n < 3) (hC : RowC w cv []) (hO : RowO w ov (y :: os)) (hl : y.enc.length ≤ M) :
    Calls Try.prog 20 #[pt s, .int .i64 (n : Int), .int .i64 (M : Int)] w fun e w' => ∃ ret, e = .returned ret ∧ NextOut w w' s n C M cv ov [] (y :: os) ret := by
  have HN : Hid (nextF M [] (y :: os) = (some y, [], os)) := Lib.hid (by simp [nextF, nextO, hl])
  obtain ⟨rb2, off2, cap2, d2, rfl, k1, k2, hd2, hcell2, hrb2, _, hT2⟩ := RowAt.head (cs := cO) (fun _ _ => rfl) hO
  have q1 : w.cell? ⟨rb2, off2, none⟩ = some d2 := hcell2 0 _ rfl
  obtain ⟨pd2, cd2, rfl, _⟩ := id hd2
  have HT2 := Lib.hid hT2
  have HD2 := Lib.hid hd2
  have HQ := Lib.hid (And.intro hrb2 q1)
  have dl : decide (M < y.enc.length) = false := decide_eq_false (by omega)
  clear hcell2 hd2 hT2 hl q1 hrb2
  obtain ⟨p0, c0', rfl, _⟩ := hC.slice
  have c0 : w.cell? ⟨s, n, none⟩ = some (.slice p0 0 c0') := hB.cellAt n _ hcv
  have c1 : w.cell? ⟨s, 3 + n, none⟩ = some (.slice (some ⟨rb2, off2, none⟩) (os.length + 1) cap2) := hB.cellAt (3 + n) _ hov
  have hlt := hB.lt
  have hfs := hB.free
  have q1 := HQ.out.2
  have hrb2 := HQ.out.1
  have HB := Lib.hid hB
  have HC := Lib.hid hC
  have HO := Lib.hid hO
  have HCV := Lib.hid hcv
  have HOV := Lib.hid hov
  clear hB hC hO hcv hov
  go_enter Try.func20, Try.ntmps20
  go_upto_region 15 with fail
  go_region
  all_goals go_wp2_with fail
  all_goals (
    refine bodyPost_ret (v := .tuple #[.slice pd2 y.enc.length cd2, .bool true]) (by simp [results, Try.results20, go_sem]) rfl ?_
    try subst_vars
    exact ⟨_, rfl, other_out HB.out HCV.out HC.out HO.out HT2.out (Fr.refl _ w) hn HD2.out HN.out (by unfold tlS; split <;> simp <;> omega)⟩)

set_option maxRecDepth 100000 in
set_option maxHeartbeats 8000000 in
theorem next_bNil (w : World) (s n M : Nat) (C : Array Value) (cv ov : Value) (x : Nat × List UInt8) (cs : List (Nat × List UInt8)) (hB : Blk w s C 54) (hcv : C[n]? = some cv) (hov : C[3 + n]? = some ov) (hn : n < 3) (hC : RowC w cv (x :: cs)) (hO : RowO w ov []) (hM : M ≤ 100000) (hb : x.1 + x.2.length ≤ 10000000000 ∧ x.2.length ≤ 400) (hfit : ¬ ((Ct.crypto x.1 x.2).enc.length ≤ M)) (hk : room x.1 M = 0) :
    Calls Try.prog 20 #[pt s, .int .i64 (n : Int), .int .i64 (M : Int)] w fun e w' => ∃ ret, e = .returned ret ∧ NextOut w w' s n C M cv ov (x :: cs) [] ret := by
  have HN : Hid (nextF M (x :: cs) [] = (none, (x :: cs), [])) := Lib.hid (by have hfit2 := hfit; rw [enc_crypto] at hfit2; simp [nextF, nextO, hfit2, hk])
  obtain ⟨p2, c2, rfl, _⟩ := hO.slice
  obtain ⟨rb, off, cap, d, rfl, h1, h2, hd, hcell, hrb, hfr, hT⟩ := RowAt.head (cs := cC) (fun _ _ => rfl) hC
  have c0 : w.cell? ⟨s, n, none⟩ = some (.slice (some ⟨rb, off, none⟩) (cs.length + 1) cap) := hB.cellAt n _ hcv
  have r0 : w.cell? ⟨rb, off, none⟩ = some (.int .i64 (x.1 : Int)) := hcell 0 _ rfl
  have r1 : w.cell? ⟨rb, off + 1, none⟩ = some d := hcell 1 _ rfl
  have hlt := hB.lt
  obtain ⟨p, cd, rfl, _⟩ := id hd
  have HC8 := Lib.hid (refCrypto_any w.drew x.1 _ x.2 (hd.keep (w' := w.drew) (fun _ _ => rfl)) (by omega) hb.2)
  obtain ⟨L, hL⟩ : ∃ L, L = (Ct.crypto x.1 x.2).enc.length := ⟨_, rfl⟩
  rw [← hL] at hfit
  have HLL := Lib.hid hL
  have HB := Lib.hid hB
  have HC := Lib.hid hC
  have HO := Lib.hid hO
  have HT := Lib.hid hT
  have HFit := Lib.hid hfit
  have HCV := Lib.hid hcv
  have HOV := Lib.hid hov
  have HFR := Lib.hid hfr
  have HD := Lib.hid hd
  have HR0 := Lib.hid (And.intro hrb r1)
  have HK := Lib.hid hk
  clear hcell hd hB hC hO hT hcv hov hfr hL
  go_enter Try.func20, Try.ntmps20
  go_upto_region 3 with fail
  go_cut [9] from 28 to 36 (fun s9 wx => ∃ p1 c1, s9 = .slice p1 L c1 ∧ Hid (Rd wx (.slice p1 L c1) (Ct.crypto x.1 x.2).enc ∧ Grow w wx))
  case first =>
    go_region_with (go_at_call 8; refine HC8.out.mono ?_; rintro e w1 ⟨v1, rfl, hbuf⟩; obtain ⟨p1, c1, rfl, hr1⟩ := hbuf.1.rd.int HLL.out.symm; have HR1 := Lib.hid hr1; have HG1 := Lib.hid (show Grow w w1 from (Fr.refl _ w).drew.trans hbuf.2.1); clear hbuf hr1)
    all_goals (go_wp2_with fail; go_meet; exact ⟨p1, c1, rfl, Lib.hid ⟨HR1.out, HG1.out⟩⟩)
  case rest =>
  obtain ⟨p1, c1, rfl, hc⟩ := hcut
  have HR1 := Lib.hid hc.out.1
  have HG1 := Lib.hid hc.out.2
  have g0 : wc.cell? ⟨s, n, none⟩ = some (.slice (some ⟨rb, off, none⟩) (cs.length + 1) cap) := (HG1.out.cell hlt).trans c0
  have g1 : wc.cell? ⟨rb, off, none⟩ = some (.int .i64 (x.1 : Int)) := (HG1.out.cell hrb).trans r0
  have g2 : wc.cell? ⟨rb, off + 1, none⟩ = some (.slice p x.2.length cd) := (HG1.out.cell hrb).trans r1
  have hB1 := HG1.out.blk HB.out (fun e => e)
  have hlt1 := hB1.lt
  have hf1 := hB1.free
  have HB1 := Lib.hid hB1
  have hrb1 : rb < wc.heap.size := Nat.lt_of_lt_of_le hrb HG1.out.size
  clear c0 r0 r1 hB1 hc hlt hrb
  have d0 : decide (L ≤ M) = false := decide_eq_false hfit
  have hrm : Calls Try.prog 30 #[.int .i64 (x.1 : Int), .int .i64 (M : Int)] wc fun e w' => e = .returned (.int .i64 (0 : Int)) ∧ wc = w' := by
    have := room_any wc x.1 M (by omega) (by omega)
    rwa [HK.out] at this
  have HRM := Lib.hid hrm
  have c1 : wc.cell? ⟨s, 3 + n, none⟩ = some (.slice p2 0 c2) := HB1.out.cellAt (3 + n) _ HOV.out
  clear hfit hrm hk
  go_wp2_with (go_at_call 30; refine HRM.out.mono ?_; rintro e w2 ⟨rfl, rfl⟩)
  refine bodyPost_ret (v := .tuple #[.slice none 0 0, .bool false]) (by simp [results, Try.results20, go_sem]) rfl ?_
  exact ⟨_, rfl, none_out HB.out HCV.out HOV.out HC.out HO.out HG1.out HN.out⟩

set_option maxRecDepth 100000 in
set_option maxHeartbeats 8000000 in
theorem next_bLong (w : World) (s n M : Nat) (C : Array Value) (cv ov : Value) (x : Nat × List UInt8) (cs : List (Nat × List UInt8)) (y : Ct) (os : List Ct) (hB : Blk w s C 54) (hcv : C[n]? = some cv) (hov : C[3 + n]? = some ov) (hn : n < 3) (hC : RowC w cv (x :: cs)) (hO : RowO w ov (y :: os)) (hM : M ≤ 100000) (hb : x.1 + x.2.length ≤ 10000000000 ∧ x.2.length ≤ 400) (hfit : ¬ ((Ct.crypto x.1 x.2).enc.length ≤ M)) (hk : room x.1 M = 0) (hl : M < y.enc.length) :
    Calls Try.prog 20 #[pt s, .int .i64 (n : Int), .int .i64 (M : Int)] w fun e w' => ∃ ret, e = .returned ret ∧ NextOut w w' s n C M cv ov (x :: cs) (y :: os) ret := by
  have HN : Hid (nextF M (x :: cs) (y :: os) = (none, (x :: cs), (y :: os))) := Lib.hid (by have hfit2 := hfit; rw [enc_crypto] at hfit2; simp [nextF, nextO, hfit2, hk, Nat.not_le.2 hl])
  obtain ⟨rb2, off2, cap2, d2, rfl, k1, k2, hd2, hcell2, hrb2, _, hT2⟩ := RowAt.head (cs := cO) (fun _ _ => rfl) hO
  have q1 : w.cell? ⟨rb2, off2, none⟩ = some d2 := hcell2 0 _ rfl
  obtain ⟨pd2, cd2, rfl, _⟩ := id hd2
  have HT2 := Lib.hid hT2
  have HD2 := Lib.hid hd2
  have HQ := Lib.hid (And.intro hrb2 q1)
  have dl : decide (M < y.enc.length) = true := decide_eq_true hl
  clear hcell2 hd2 hT2 hl q1 hrb2
  obtain ⟨rb, off, cap, d, rfl, h1, h2, hd, hcell, hrb, hfr, hT⟩ := RowAt.head (cs := cC) (fun _ _ => rfl) hC
  have c0 : w.cell? ⟨s, n, none⟩ = some (.slice (some ⟨rb, off, none⟩) (cs.length + 1) cap) := hB.cellAt n _ hcv
  have r0 : w.cell? ⟨rb, off, none⟩ = some (.int .i64 (x.1 : Int)) := hcell 0 _ rfl
  have r1 : w.cell? ⟨rb, off + 1, none⟩ = some d := hcell 1 _ rfl
  have hlt := hB.lt
  obtain ⟨p, cd, rfl, _⟩ := id hd
  have HC8 := Lib.hid (refCrypto_any w.drew x.1 _ x.2 (hd.keep (w' := w.drew) (fun _ _ => rfl)) (by omega) hb.2)
  obtain ⟨L, hL⟩ : ∃ L, L = (Ct.crypto x.1 x.2).enc.length := ⟨_, rfl⟩
  rw [← hL] at hfit
  have HLL := Lib.hid hL
  have HB := Lib.hid hB
  have HC := Lib.hid hC
  have HO := Lib.hid hO
  have HT := Lib.hid hT
  have HFit := Lib.hid hfit
  have HCV := Lib.hid hcv
  have HOV := Lib.hid hov
  have HFR := Lib.hid hfr
  have HD := Lib.hid hd
  have HR0 := Lib.hid (And.intro hrb r1)
  have HK := Lib.hid hk
  clear hcell hd hB hC hO hT hcv hov hfr hL
  go_enter Try.func20, Try.ntmps20
  go_upto_region 3 with fail
  go_cut [9] from 28 to 36 (fun s9 wx => ∃ p1 c1, s9 = .slice p1 L c1 ∧ Hid (Rd wx (.slice p1 L c1) (Ct.crypto x.1 x.2).enc ∧ Grow w wx))
  case first =>
    go_region_with (go_at_call 8; refine HC8.out.mono ?_; rintro e w1 ⟨v1, rfl, hbuf⟩; obtain ⟨p1, c1, rfl, hr1⟩ := hbuf.1.rd.int HLL.out.symm; have HR1 := Lib.hid hr1; have HG1 := Lib.hid (show Grow w w1 from (Fr.refl _ w).drew.trans hbuf.2.1); clear hbuf hr1)
    all_goals (go_wp2_with fail; go_meet; exact ⟨p1, c1, rfl, Lib.hid ⟨HR1.out, HG1.out⟩⟩)
  case rest =>
  obtain ⟨p1, c1, rfl, hc⟩ := hcut
  have HR1 := Lib.hid hc.out.1
  have HG1 := Lib.hid hc.out.2
  have g0 : wc.cell? ⟨s, n, none⟩ = some (.slice (some ⟨rb, off, none⟩) (cs.length + 1) cap) := (HG1.out.cell hlt).trans c0
  have g1 : wc.cell? ⟨rb, off, none⟩ = some (.int .i64 (x.1 : Int)) := (HG1.out.cell hrb).trans r0
  have g2 : wc.cell? ⟨rb, off + 1, none⟩ = some (.slice p x.2.length cd) := (HG1.out.cell hrb).trans r1
  have hB1 := HG1.out.blk HB.out (fun e => e)
  have hlt1 := hB1.lt
  have hf1 := hB1.free
  have HB1 := Lib.hid hB1
  have hrb1 : rb < wc.heap.size := Nat.lt_of_lt_of_le hrb HG1.out.size
  clear c0 r0 r1 hB1 hc hlt hrb
  have d0 : decide (L ≤ M) = false := decide_eq_false hfit
  have hrm : Calls Try.prog 30 #[.int .i64 (x.1 : Int), .int .i64 (M : Int)] wc fun e w' => e = .returned (.int .i64 (0 : Int)) ∧ wc = w' := by
    have := room_any wc x.1 M (by omega) (by omega)
    rwa [HK.out] at this
  have HRM := Lib.hid hrm
  have c1 : wc.cell? ⟨s, 3 + n, none⟩ = some (.slice (some ⟨rb2, off2, none⟩) (os.length + 1) cap2) := HB1.out.cellAt (3 + n) _ HOV.out
  have q1 := (HG1.out.cell HQ.out.1).trans HQ.out.2
  have hrb2 := Nat.lt_of_lt_of_le HQ.out.1 HG1.out.size
  clear hfit hrm hk
  go_wp2_with (go_at_call 30; refine HRM.out.mono ?_; rintro e w2 ⟨rfl, rfl⟩)
  refine bodyPost_ret (v := .tuple #[.slice none 0 0, .bool false]) (by simp [results, Try.results20, go_sem]) rfl ?_
  exact ⟨_, rfl, none_out HB.out HCV.out HOV.out HC.out HO.out HG1.out HN.out⟩

set_option maxRecDepth 100000 in
set_option maxHeartbeats 8000000 in
theorem next_bOne (w : World) (s n M : Nat) (C : Array Value) (cv ov : Value) (x : Nat × List UInt8) (cs : List (Nat × List UInt8)) (y : Ct) (os : List Ct) (hB : Blk w s C 54) (hcv : C[n]? = some cv) (hov : C[3 + n]? = some ov) (hn : n < 3) (hC : RowC w cv (x :: cs)) (hO : RowO w ov (y :: os)) (hM : M ≤ 100000) (hb : x.1 + x.2.length ≤ 10000000000 ∧ x.2.length ≤ 400) (hfit : ¬ ((Ct.crypto x.1 x.2).enc.length ≤ M)) (hk : room x.1 M = 0) (hl : y.enc.length ≤ M) :
    Calls Try.prog 20 #[pt s, .int .i64 (n : Int), .int .i64 (M : Int)] w fun e w' => ∃ ret, e = .returned ret ∧ NextOut w w' s n C M cv ov (x :: cs) (y :: os) ret := by
  have HN : Hid (nextF M (x :: cs) (y :: os) = (some y, (x :: cs), os)) := Lib.hid (by have hfit2 := hfit; rw [enc_crypto] at hfit2; simp [nextF, nextO, hfit2, hk, hl])
  obtain ⟨rb2, off2, cap2, d2, rfl, k1, k2, hd2, hcell2, hrb2, _, hT2⟩ := RowAt.head (cs := cO) (fun _ _ => rfl) hO
  have q1 : w.cell? ⟨rb2, off2, none⟩ = some d2 := hcell2 0 _ rfl
  obtain ⟨pd2, cd2, rfl, _⟩ := id hd2
  have HT2 := Lib.hid hT2
  have HD2 := Lib.hid hd2
  have HQ := Lib.hid (And.intro hrb2 q1)
  have dl : decide (M < y.enc.length) = false := decide_eq_false (by omega)
  clear hcell2 hd2 hT2 hl q1 hrb2
  obtain ⟨rb, off, cap, d, rfl, h1, h2, hd, hcell, hrb, hfr, hT⟩ := RowAt.head (cs := cC) (fun _ _ => rfl) hC
  have c0 : w.cell? ⟨s, n, none⟩ = some (.slice (some ⟨rb, off, none⟩) (cs.length + 1) cap) := hB.cellAt n _ hcv
  have r0 : w.cell? ⟨rb, off, none⟩ = some (.int .i64 (x.1 : Int)) := hcell 0 _ rfl
  have r1 : w.cell? ⟨rb, off + 1, none⟩ = some d := hcell 1 _ rfl
  have hlt := hB.lt
  obtain ⟨p, cd, rfl, _⟩ := id hd
  have HC8 := Lib.hid (refCrypto_any w.drew x.1 _ x.2 (hd.keep (w' := w.drew) (fun _ _ => rfl)) (by omega) hb.2)
  obtain ⟨L, hL⟩ : ∃ L, L = (Ct.crypto x.1 x.2).enc.length := ⟨_, rfl⟩
  rw [← hL] at hfit
  have HLL := Lib.hid hL
  have HB := Lib.hid hB
  have HC := Lib.hid hC
  have HO := Lib.hid hO
  have HT := Lib.hid hT
  have HFit := Lib.hid hfit
  have HCV := Lib.hid hcv
  have HOV := Lib.hid hov
  have HFR := Lib.hid hfr
  have HD := Lib.hid hd
  have HR0 := Lib.hid (And.intro hrb r1)
  have HK := Lib.hid hk
  clear hcell hd hB hC hO hT hcv hov hfr hL
  go_enter Try.func20, Try.ntmps20
  go_upto_region 3 with fail
  go_cut [9] from 28 to 36 (fun s9 wx => ∃ p1 c1, s9 = .slice p1 L c1 ∧ Hid (Rd wx (.slice p1 L c1) (Ct.crypto x.1 x.2).enc ∧ Grow w wx))
  case first =>
    go_region_with (go_at_call 8; refine HC8.out.mono ?_; rintro e w1 ⟨v1, rfl, hbuf⟩; obtain ⟨p1, c1, rfl, hr1⟩ := hbuf.1.rd.int HLL.out.symm; have HR1 := Lib.hid hr1; have HG1 := Lib.hid (show Grow w w1 from (Fr.refl _ w).drew.trans hbuf.2.1); clear hbuf hr1)
    all_goals (go_wp2_with fail; go_meet; exact ⟨p1, c1, rfl, Lib.hid ⟨HR1.out, HG1.out⟩⟩)
  case rest =>
  obtain ⟨p1, c1, rfl, hc⟩ := hcut
  have HR1 := Lib.hid hc.out.1
  have HG1 := Lib.hid hc.out.2
  have g0 : wc.cell? ⟨s, n, none⟩ = some (.slice (some ⟨rb, off, none⟩) (cs.length + 1) cap) := (HG1.out.cell hlt).trans c0
  have g1 : wc.cell? ⟨rb, off, none⟩ = some (.int .i64 (x.1 : Int)) := (HG1.out.cell hrb).trans r0
  have g2 : wc.cell? ⟨rb, off + 1, none⟩ = some (.slice p x.2.length cd) := (HG1.out.cell hrb).trans r1
  have hB1 := HG1.out.blk HB.out (fun e => e)
  have hlt1 := hB1.lt
  have hf1 := hB1.free
  have HB1 := Lib.hid hB1
  have hrb1 : rb < wc.heap.size := Nat.lt_of_lt_of_le hrb HG1.out.size
  clear c0 r0 r1 hB1 hc hlt hrb
  have d0 : decide (L ≤ M) = false := decide_eq_false hfit
  have hrm : Calls Try.prog 30 #[.int .i64 (x.1 : Int), .int .i64 (M : Int)] wc fun e w' => e = .returned (.int .i64 (0 : Int)) ∧ wc = w' := by
    have := room_any wc x.1 M (by omega) (by omega)
    rwa [HK.out] at this
  have HRM := Lib.hid hrm
  have c1 : wc.cell? ⟨s, 3 + n, none⟩ = some (.slice (some ⟨rb2, off2, none⟩) (os.length + 1) cap2) := HB1.out.cellAt (3 + n) _ HOV.out
  have q1 := (HG1.out.cell HQ.out.1).trans HQ.out.2
  have hrb2 := Nat.lt_of_lt_of_le HQ.out.1 HG1.out.size
  clear hfit hrm hk
  go_upto_region 15 with (go_at_call 30; refine HRM.out.mono ?_; rintro e w2 ⟨rfl, rfl⟩)
  go_region
  all_goals go_wp2_with fail
  all_goals (
    refine bodyPost_ret (v := .tuple #[.slice pd2 y.enc.length cd2, .bool true]) (by simp [results, Try.results20, go_sem]) rfl ?_
    try subst_vars
    exact ⟨_, rfl, other_out HB.out HCV.out HC.out HO.out HT2.out HG1.out hn HD2.out HN.out (by unfold tlS; split <;> simp <;> omega)⟩)

theorem next_any (w : World) (s n M : Nat) (C : Array Value) (cv ov : Value) (cs : List (Nat × List UInt8)) (os : List Ct) (hB : Blk w s C 54) (hcv : C[n]? = some cv) (hov : C[3 + n]? = some ov) (hn : n < 3) (hC : RowC w cv cs) (hO : RowO w ov os) (hM : M ≤ 100000)
    (hcb : ∀ x ∈ cs, x.1 + x.2.length ≤ 10000000000 ∧ x.2.length ≤ 400) :
    Calls Try.prog 20 #[pt s, .int .i64 (n : Int), .int .i64 (M : Int)] w fun e w' => ∃ ret, e = .returned ret ∧ NextOut w w' s n C M cv ov cs os ret := by
  cases cs with
  | nil => cases os with
    | nil => exact next_eNil w s n M C cv ov hB hcv hov hn hC hO
    | cons y os =>
      rcases Nat.lt_or_ge M y.enc.length with c | c
      · exact next_eLong w s n M C cv ov y os hB hcv hov hn hC hO c
      · exact next_eOne w s n M C cv ov y os hB hcv hov hn hC hO c
  | cons x cs =>
    have hx := hcb x List.mem_cons_self
    by_cases hfit : (Ct.crypto x.1 x.2).enc.length ≤ M
    · exact next_whole w s n M C cv ov x cs os hB hcv hov hn hC hO hx hfit
    · by_cases hr : room x.1 M = 0
      · cases os with
        | nil => exact next_bNil w s n M C cv ov x cs hB hcv hov hn hC hO hM hx hfit hr
        | cons y os =>
          rcases Nat.lt_or_ge M y.enc.length with c | c
          · exact next_bLong w s n M C cv ov x cs y os hB hcv hov hn hC hO hM hx hfit hr c
          · exact next_bOne w s n M C cv ov x cs y os hB hcv hov hn hC hO hM hx hfit hr c
      · exact next_split w s n M C cv ov x cs os hB hcv hov hn hC hO hM hx hfit (room x.1 M) rfl hr (by rw [enc_crypto] at hfit; exact room_lt hx.2 hfit)
end Go.Proofs.Ytgdkbflhgcchfaa
