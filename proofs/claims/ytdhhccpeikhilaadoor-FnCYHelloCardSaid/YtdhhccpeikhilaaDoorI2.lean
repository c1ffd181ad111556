/- PopCryptoFrame of the stream of the Initial packets. -/
import Derived.Test.YtdhhccpeikhilaaDoorI1b
import Derived.Deep.LoopGhost
import Derived.Deep.QuietTactic
import Derived.BigRegion
namespace Go.Proofs.YtdhhccpeikhilaaDoor
open Go.RowKit

theorem idx0 (w : World) (a b c d : Value) : (Instr.index 106 (.agg #[a, b, c, d]) (.int .i64 0)).run Tryd.prog w = .ok (.agg #[a, b]) w := by kernel_rfl
theorem idx1 (w : World) (a b c d : Value) : (Instr.index 106 (.agg #[a, b, c, d]) (.int .i64 1)).run Tryd.prog w = .ok (.agg #[c, d]) w := by kernel_rfl

set_option maxRecDepth 100000 in
theorem pop41_plain (w : World) (b r bL wo : Nat) (wb m : Value) (e c0 c1 c2 c3 : Int) (hb : Blk w b (iniC r bL wo wb false e c0 c1 c2 c3) 108) {R : Ending → World → Prop} (h : Calls Tryd.prog 42 #[pt b, m] w R) (hr : ∀ e w', R e w' → ∃ v, e = .returned v) :
    Calls Tryd.prog 41 #[pt b, m] w R := by
  have c7 : w.cell? ⟨b, 7, none⟩ = some (.bool false) := hb.cellAt 7 _ rfl
  have hlt := hb.lt
  go_enter Tryd.func41, Tryd.ntmps41
  go_wp2_with (go_at_call 42; refine h.mono ?_; intro e w' hR; obtain ⟨v, rfl⟩ := hr e w' hR)
  exact hR

set_option maxRecDepth 100000 in
set_option maxHeartbeats 2000000 in
theorem pop41_low (w : World) (b r bL wo N p q m n : Nat) (wb : Value) (H : List UInt8) (hb : Blk w b (iniC r bL wo wb true (N : Int) (p : Int) (q : Int) (-1) (-1)) 108) (hr : Rd w wb H) (hN : H.length = N) (hN6 : N ≤ 10000) (hm : m ≤ 10000) (h1 : wo < p) (h2 : p < q) (h3 : q ≤ N) (hn : min (room wo m) (p - wo) = n) (hpos : 0 < n) (wn : Nat) (hwn : (if wo + n = p then q else wo + n) = wn) :
    Calls Tryd.prog 41 #[pt b, .int .i64 (m : Int)] w fun e w' => ∃ bf s, e = .returned (pt bf) ∧ w.heap.size ≤ bf ∧ Blk w' bf #[.int .i64 (wo : Int), s] 69 ∧ Rd w' s ((H.drop wo).take n) ∧ Blk w' b (iniC r bL wn wb true (N : Int) (p : Int) (q : Int) (-1) (-1)) 108 ∧ Rd w' wb H ∧ Fr (fun j => j = b) w w' := by
  subst hN
  have HWN := Lib.hid hwn
  clear hwn
  obtain ⟨pb, cb, rfl, hlc, hcm, _⟩ := id hr
  have HR := Lib.hid hr
  have HB := Lib.hid hb
  have c5 : w.cell? ⟨b, 5, none⟩ = some (.int .i64 (wo : Int)) := hb.cellAt 5 _ rfl
  have c7 : w.cell? ⟨b, 7, none⟩ = some (.bool true) := hb.cellAt 7 _ rfl
  have c8 : w.cell? ⟨b, 8, none⟩ = some (.int .i64 (H.length : Int)) := hb.cellAt 8 _ rfl
  have hlt := hb.lt
  have hne : decide (wo = H.length) = false := decide_eq_false (by omega)
  have hne2 : ¬ (wo = H.length) := by omega
  clear hr
  go_enter Tryd.func41, Tryd.ntmps41
  go_upto_region 3 with fail
  go_quiet (fail)
  have hb1 : Blk (w.drewN nq) b (iniC r bL wo (.slice pb H.length cb) true (H.length : Int) (p : Int) (q : Int) (-1) (-1)) 108 := hb
  have hG1 := drewN_grow w nq
  generalize w.drewN nq = w1 at *
  clear c5 c7 c8 hlt hb
  have c9 : w1.cell? ⟨b, 9, none⟩ = some (.int .i64 (p : Int)) := hb1.cellAt 9 _ rfl
  have c10 : w1.cell? ⟨b, 10, none⟩ = some (.int .i64 (q : Int)) := hb1.cellAt 10 _ rfl
  have c11 : w1.cell? ⟨b, 11, none⟩ = some (.int .i64 (-1)) := hb1.cellAt 11 _ rfl
  have c12 : w1.cell? ⟨b, 12, none⟩ = some (.int .i64 (-1)) := hb1.cellAt 12 _ rfl
  have hlt := hb1.lt
  have hp1 : ¬ ((p : Int) = -1) := by omega
  have hwp : (wo : Int) < (p : Int) := by omega
  go_wp2_with fail
  have HC : Hid (Blk (w1.alloc (.cells #[.int .i64 (-1), .int .i64 (-1)] 105)) w1.heap.size #[.int .i64 (-1), .int .i64 (-1)] 105) := Lib.hid (Blk.new w1 _ _)
  have HG2 : Hid (Grow w (w1.alloc (.cells #[.int .i64 (-1), .int .i64 (-1)] 105))) := Lib.hid (hG1.alloc _)
  have HB2 := Lib.hid (hb1.alloc (.cells #[.int .i64 (-1), .int .i64 (-1)] 105))
  have hbl1 := hb1.lt
  have hws := hG1.size
  clear hb1 hG1 c9 c10 c11 c12 hlt
  generalize w1.alloc (.cells #[.int .i64 (-1), .int .i64 (-1)] 105) = w2 at *
  generalize w1.heap.size = y at *
  go_loopg [12, 143] 1 (fun k s12 s143 wr => s143 = .int .i64 0 ∧ wr = w2)
  case atStart => exact ⟨rfl, rfl⟩
  case round =>
    obtain ⟨rfl, rfl⟩ := hrel
    have c5 : wr.cell? ⟨b, 5, none⟩ = some (.int .i64 (wo : Int)) := HB2.out.cellAt 5 _ rfl
    have hlt := HB2.out.lt
    have hlty := HC.out.lt
    have hi0 := fun w => idx0 w (.int .i64 (p : Int)) (.int .i64 (q : Int)) (.int .i64 (-1)) (.int .i64 (-1))
    go_upto_region 33 with fail
    clear hi0
    go_quiet (fail)
    have hZ : Blk ((wr.alloc (.cells #[.int .i64 (p : Int), .int .i64 (q : Int)] 105)).drewN nq) wr.heap.size #[.int .i64 (p : Int), .int .i64 (q : Int)] 105 := Blk.new wr _ _
    have hG3 : Grow wr ((wr.alloc (.cells #[.int .i64 (p : Int), .int .i64 (q : Int)] 105)).drewN nq) := ((Fr.refl _ wr).alloc _).trans (drewN_grow _ nq)
    generalize (wr.alloc (.cells #[.int .i64 (p : Int), .int .i64 (q : Int)] 105)).drewN nq = w3 at *
    have z0 : w3.cell? ⟨wr.heap.size, 0, none⟩ = some (.int .i64 (p : Int)) := hZ.cellAt 0 _ rfl
    have z1 : w3.cell? ⟨wr.heap.size, 1, none⟩ = some (.int .i64 (q : Int)) := hZ.cellAt 1 _ rfl
    have hC3 := hG3.blk HC.out (fun e => e)
    have d0 : w3.cell? ⟨y, 0, none⟩ = some (.int .i64 (-1)) := hC3.cellAt 0 _ rfl
    have d1 : w3.cell? ⟨y, 1, none⟩ = some (.int .i64 (-1)) := hC3.cellAt 1 _ rfl
    have hb3 := hG3.blk HB2.out (fun e => e)
    have c53 : w3.cell? ⟨b, 5, none⟩ = some (.int .i64 (wo : Int)) := hb3.cellAt 5 _ rfl
    have hltb3 := hb3.lt
    have hltz := hZ.lt
    have hlty3 := hC3.lt
    have hfy3 := hC3.free
    have hyb : b ≠ y := hb3.ne_of_type hC3 (by decide)
    have HB3 := Lib.hid hb3
    have HC3 := Lib.hid hC3
    have HG3 := Lib.hid (HG2.out.trans hG3)
    clear c5 hZ hG3 hb3 hC3 hlt hlty
    go_upto_region 40 with fail
    have hF5 : Blk (((w3.setCell ⟨y, 0, none⟩ (.int .i64 (p : Int))).setCell ⟨y, 1, none⟩ (.int .i64 (q : Int))).alloc (.cells #[.int .i64 (wo : Int), .slice none 0 0] 69)) w3.heap.size #[.int .i64 (wo : Int), .slice none 0 0] 69 := Blk.newAt _ _ _ _ (by simp)
    have hY5 : Blk (((w3.setCell ⟨y, 0, none⟩ (.int .i64 (p : Int))).setCell ⟨y, 1, none⟩ (.int .i64 (q : Int))).alloc (.cells #[.int .i64 (wo : Int), .slice none 0 0] 69)) y #[.int .i64 (p : Int), .int .i64 (q : Int)] 105 := ((HC3.out.set 0 _).set 1 _).alloc _
    have hB5 := ((HB3.out.setOther ⟨y, 0, none⟩ (.int .i64 (p : Int)) hyb).setOther ⟨y, 1, none⟩ (.int .i64 (q : Int)) hyb).alloc (.cells #[.int .i64 (wo : Int), .slice none 0 0] 69)
    have hG5 : Grow w (((w3.setCell ⟨y, 0, none⟩ (.int .i64 (p : Int))).setCell ⟨y, 1, none⟩ (.int .i64 (q : Int))).alloc (.cells #[.int .i64 (wo : Int), .slice none 0 0] 69)) := ((HG3.out.setCell _ _ (.inr hws)).setCell _ _ (.inr hws)).alloc _
    have hfs : w.heap.size ≤ w3.heap.size := HG3.out.size
    generalize (((w3.setCell ⟨y, 0, none⟩ (.int .i64 (p : Int))).setCell ⟨y, 1, none⟩ (.int .i64 (q : Int))).alloc (.cells #[.int .i64 (wo : Int), .slice none 0 0] 69)) = w5 at *
    generalize w3.heap.size = f at *
    clear z0 z1 d0 d1 c53 hltb3 hltz hlty3 hfy3
    have c5 : w5.cell? ⟨b, 5, none⟩ = some (.int .i64 (wo : Int)) := hB5.cellAt 5 _ rfl
    have hlt5 := hB5.lt
    go_quiet (first | (go_at_call 53; refine Calls.quiet_of_same (flip_world (maxDataLen_any _ _ wo m _ hF5 (by omega) (by omega)))))
    have hite : (if (p : Int) - (wo : Int) < (room wo m : Int) then (p : Int) - (wo : Int) else (room wo m : Int)) = (n : Int) := by
      rw [← hn]
      rcases Nat.lt_or_ge (p - wo) (room wo m) with c | c
      · rw [if_pos (by omega), Nat.min_eq_right (by omega)]; omega
      · rw [if_neg (by omega), Nat.min_eq_left (by omega)]
    rw [hite]
    have hF6 : Blk (w5.drewN nq) f #[.int .i64 (wo : Int), .slice none 0 0] 69 := hF5
    have hY6 : Blk (w5.drewN nq) y #[.int .i64 (p : Int), .int .i64 (q : Int)] 105 := hY5
    have hB6 : Blk (w5.drewN nq) b (iniC r bL wo (.slice pb H.length cb) true (H.length : Int) (p : Int) (q : Int) (-1) (-1)) 108 := hB5
    have hG6 : Grow w (w5.drewN nq) := hG5.trans (drewN_grow w5 nq)
    clear hite c5 hlt5 hF5 hY5 hB5 hG5
    generalize w5.drewN nq = w6 at *
    have c5 : w6.cell? ⟨b, 5, none⟩ = some (.int .i64 (wo : Int)) := hB6.cellAt 5 _ rfl
    have c6 : w6.cell? ⟨b, 6, none⟩ = some (.slice pb H.length cb) := hB6.cellAt 6 _ rfl
    have f1 : w6.cell? ⟨f, 1, none⟩ = some (.slice none 0 0) := hF6.cellAt 1 _ rfl
    have hlt6 := hB6.lt
    have hltf := hF6.lt
    have hff := hF6.free
    have hn0 : n ≤ p - wo := by rw [← hn]; exact Nat.min_le_right _ _
    have s1 : (wo : Int) ≤ (wo : Int) + (n : Int) := by omega
    have s2 : (wo : Int) + (n : Int) ≤ (cb : Int) := by omega
    have HY6 := Lib.hid hY6
    have HB6 := Lib.hid hB6
    have HF6 := Lib.hid hF6
    have HG6 := Lib.hid hG6
    have Hn := Lib.hid hn
    clear hY6 hB6 hF6 hG6 hn
    go_upto_region 43 with fail
    go_region
    have hbf : b ≠ f := HB6.out.ne_of_type HF6.out (by decide)
    have hyf : y ≠ f := HY6.out.ne_of_type HF6.out (by decide)
    have hF7 : Blk ((w6.setCell ⟨f, 1, none⟩ (.slice (Option.map (fun x => x.add wo) pb) n (cb - wo))).drew) f #[.int .i64 (wo : Int), (.slice (Option.map (fun x => x.add wo) pb) n (cb - wo))] 69 := HF6.out.set 1 _
    have hY7 : Blk ((w6.setCell ⟨f, 1, none⟩ (.slice (Option.map (fun x => x.add wo) pb) n (cb - wo))).drew) y #[.int .i64 (p : Int), .int .i64 (q : Int)] 105 := HY6.out.setOther _ _ hyf
    have hB7 : Blk ((w6.setCell ⟨f, 1, none⟩ (.slice (Option.map (fun x => x.add wo) pb) n (cb - wo))).drew) b (iniC r bL wo (.slice pb H.length cb) true (H.length : Int) (p : Int) (q : Int) (-1) (-1)) 108 := HB6.out.setOther _ _ hbf
    have hG7 : Grow w ((w6.setCell ⟨f, 1, none⟩ (.slice (Option.map (fun x => x.add wo) pb) n (cb - wo))).drew) := (HG6.out.setCell _ _ (.inr hfs)).drew
    have HF7 := Lib.hid hF7
    have HY7 := Lib.hid hY7
    have HB7 := Lib.hid hB7
    have HG7 := Lib.hid hG7
    clear hF7 hY7 hB7 hG7 c5 c6 f1 hlt6 hltf hff
    generalize (w6.setCell ⟨f, 1, none⟩ (.slice (Option.map (fun x => x.add wo) pb) n (cb - wo))).drew = w7 at *
    have c5 : w7.cell? ⟨b, 5, none⟩ = some (.int .i64 (wo : Int)) := HB7.out.cellAt 5 _ rfl
    have hlt7 := HB7.out.lt
    have hfb7 := HB7.out.free
    go_upto_region 45 with fail
    have hcast : ((wo : Int) + (n : Int)) = ((wo + n : Nat) : Int) := by omega
    rw [hcast]
    have hyb' := hyb
    have hY8 : Blk (w7.setCell ⟨b, 5, none⟩ (.int .i64 ((wo + n : Nat) : Int))) y #[.int .i64 (p : Int), .int .i64 (q : Int)] 105 := HY7.out.setOther _ _ (Ne.symm hyb)
    have hF8 : Blk (w7.setCell ⟨b, 5, none⟩ (.int .i64 ((wo + n : Nat) : Int))) f #[.int .i64 (wo : Int), (.slice (Option.map (fun x => x.add wo) pb) n (cb - wo))] 69 := HF7.out.setOther _ _ (Ne.symm hbf)
    have hB8 : Blk (w7.setCell ⟨b, 5, none⟩ (.int .i64 ((wo + n : Nat) : Int))) b (iniC r bL (wo + n) (.slice pb H.length cb) true (H.length : Int) (p : Int) (q : Int) (-1) (-1)) 108 := HB7.out.set 5 _
    have hFr8 : Fr (fun j => j = b) w (w7.setCell ⟨b, 5, none⟩ (.int .i64 ((wo + n : Nat) : Int))) := HG7.out.to.setCell _ _ (.inl rfl)
    have HF8 := Lib.hid hF8
    have HY8 := Lib.hid hY8
    have HB8 := Lib.hid hB8
    have HFr8 := Lib.hid hFr8
    clear hF8 hY8 hB8 hFr8 c5 hlt7 hfb7 hcast
    generalize w7.setCell ⟨b, 5, none⟩ (.int .i64 ((wo + n : Nat) : Int)) = w8 at *
    have hnb : ∀ j, j = b → ¬ BytesBlk w j := fun j hj => by rw [show j = b from hj]; exact HB.out.noBytes (by decide)
    have hdr : Rd w (.slice (Option.map (fun x => x.add wo) pb) n (cb - wo)) ((H.drop wo).take n) := by
      have h := HR.out.drop wo (by omega)
      rw [if_neg (by omega)] at h
      exact h.take n (by rw [List.length_drop]; omega)
    have HDR := Lib.hid hdr
    have HNB := Lib.hid hnb
    clear hdr hnb
    obtain ⟨v5, hv5⟩ : ∃ v5, v5 = wo + n := ⟨_, rfl⟩
    rw [← hv5] at HB8 ⊢
    have HV5 := Lib.hid hv5
    clear hv5
    have c5 : w8.cell? ⟨b, 5, none⟩ = some (.int .i64 (v5 : Int)) := HB8.out.cellAt 5 _ rfl
    have y0 : w8.cell? ⟨y, 0, none⟩ = some (.int .i64 (p : Int)) := HY8.out.cellAt 0 _ rfl
    have y1 : w8.cell? ⟨y, 1, none⟩ = some (.int .i64 (q : Int)) := HY8.out.cellAt 1 _ rfl
    have hlt8 := HB8.out.lt
    have hlty8 := HY8.out.lt
    have hfb8 := HB8.out.free
    by_cases hvp : v5 = p
    · have hw : wn = q := by have h := HWN.out; rw [if_pos (by have := HV5.out; omega)] at h; exact h.symm
      subst hw
      subst hvp
      go_quiet (fail)
      have hd8 := drewN_grow w8 nq
      have hFr9 := HFr8.out.trans (hd8.to (S := fun j => j = b))
      have HB9 := Lib.hid (hd8.blk HB8.out (fun e => e))
      have HF9 := Lib.hid (hd8.blk HF8.out (fun e => e))
      have y1 : (w8.drewN nq).cell? ⟨y, 1, none⟩ = some (.int .i64 (wn : Int)) := (hd8.blk HY8.out (fun e => e)).cellAt 1 _ rfl
      have c59 : (w8.drewN nq).cell? ⟨b, 5, none⟩ = some (.int .i64 (v5 : Int)) := HB9.out.cellAt 5 _ rfl
      have hlt9 := HB9.out.lt
      have hlty9 := (hd8.blk HY8.out (fun e => e)).lt
      have hfb9 := HB9.out.free
      generalize w8.drewN nq = w9 at *
      go_wp2_with fail
      go_ret
      have hF10 := hFr9.setCell ⟨b, 5, none⟩ (.int .i64 (wn : Int)) (.inl rfl)
      exact ⟨f, _, rfl, hfs, HF9.out.setOther _ _ (Ne.symm hbf), HDR.out.keep (hF10.bytes HNB.out), HB9.out.set 5 _, HR.out.keep (hF10.bytes HNB.out), hF10⟩
    · have hw : wn = v5 := by have h := HWN.out; rw [if_neg (by have := HV5.out; omega)] at h; rw [HV5.out]; exact h.symm
      subst hw
      go_quiet (fail)
      have hd8 := drewN_grow w8 nq
      have hFr9 := HFr8.out.trans (hd8.to (S := fun j => j = b))
      have HB9 := Lib.hid (hd8.blk HB8.out (fun e => e))
      have HF9 := Lib.hid (hd8.blk HF8.out (fun e => e))
      generalize w8.drewN nq = w9 at *
      go_wp2_with fail
      go_ret
      exact ⟨f, _, rfl, hfs, HF9.out, HDR.out.keep (hFr9.bytes HNB.out), HB9.out, HR.out.keep (hFr9.bytes HNB.out), hFr9⟩

set_option maxRecDepth 100000 in
set_option maxHeartbeats 2000000 in
theorem pop41_high (w : World) (b r bL wo N p q m n : Nat) (wb : Value) (H : List UInt8) (hb : Blk w b (iniC r bL wo wb true (N : Int) (p : Int) (q : Int) (-1) (-1)) 108) (hr : Rd w wb H) (hN : H.length = N) (hN6 : N ≤ 10000) (hm : m ≤ 10000) (h1 : p ≤ wo) (h3 : wo < N) (hn : min (room wo m) (N - wo) = n) (hpos : 0 < n) (wn : Nat) (hwn : wo + n = wn) :
    Calls Tryd.prog 41 #[pt b, .int .i64 (m : Int)] w fun e w' => ∃ bf s, e = .returned (pt bf) ∧ w.heap.size ≤ bf ∧ Blk w' bf #[.int .i64 (wo : Int), s] 69 ∧ Rd w' s ((H.drop wo).take n) ∧ Blk w' b (iniC r bL wn wb true (N : Int) (p : Int) (q : Int) (-1) (-1)) 108 ∧ Rd w' wb H ∧ Fr (fun j => j = b) w w' := by
  subst hN
  have HWN := Lib.hid hwn
  clear hwn
  obtain ⟨pb, cb, rfl, hlc, hcm, _⟩ := id hr
  have HR := Lib.hid hr
  have HB := Lib.hid hb
  have c5 : w.cell? ⟨b, 5, none⟩ = some (.int .i64 (wo : Int)) := hb.cellAt 5 _ rfl
  have c7 : w.cell? ⟨b, 7, none⟩ = some (.bool true) := hb.cellAt 7 _ rfl
  have c8 : w.cell? ⟨b, 8, none⟩ = some (.int .i64 (H.length : Int)) := hb.cellAt 8 _ rfl
  have hlt := hb.lt
  have hne : decide (wo = H.length) = false := decide_eq_false (by omega)
  have hne2 : ¬ (wo = H.length) := by omega
  clear hr
  go_enter Tryd.func41, Tryd.ntmps41
  go_upto_region 3 with fail
  go_quiet (fail)
  have hb1 : Blk (w.drewN nq) b (iniC r bL wo (.slice pb H.length cb) true (H.length : Int) (p : Int) (q : Int) (-1) (-1)) 108 := hb
  have hG1 := drewN_grow w nq
  generalize w.drewN nq = w1 at *
  clear c5 c7 c8 hlt hb
  have c9 : w1.cell? ⟨b, 9, none⟩ = some (.int .i64 (p : Int)) := hb1.cellAt 9 _ rfl
  have c10 : w1.cell? ⟨b, 10, none⟩ = some (.int .i64 (q : Int)) := hb1.cellAt 10 _ rfl
  have c11 : w1.cell? ⟨b, 11, none⟩ = some (.int .i64 (-1)) := hb1.cellAt 11 _ rfl
  have c12 : w1.cell? ⟨b, 12, none⟩ = some (.int .i64 (-1)) := hb1.cellAt 12 _ rfl
  have hlt := hb1.lt
  have hp1 : ¬ ((p : Int) = -1) := by omega
  have hwp : ¬ ((wo : Int) < (p : Int)) := by omega
  go_wp2_with fail
  have HC : Hid (Blk (w1.alloc (.cells #[.int .i64 (-1), .int .i64 (-1)] 105)) w1.heap.size #[.int .i64 (-1), .int .i64 (-1)] 105) := Lib.hid (Blk.new w1 _ _)
  have HG2 : Hid (Grow w (w1.alloc (.cells #[.int .i64 (-1), .int .i64 (-1)] 105))) := Lib.hid (hG1.alloc _)
  have HB2 := Lib.hid (hb1.alloc (.cells #[.int .i64 (-1), .int .i64 (-1)] 105))
  have hbl1 := hb1.lt
  have hws := hG1.size
  clear hb1 hG1 c9 c10 c11 c12 hlt
  generalize w1.alloc (.cells #[.int .i64 (-1), .int .i64 (-1)] 105) = w2 at *
  generalize w1.heap.size = y at *
  go_loopg [12, 143] 2 (fun k s12 s143 wr => ∃ i : Nat, k + i = 2 ∧ s143 = .int .i64 (i : Int) ∧ Hid (Grow w2 wr))
  case atStart => exact ⟨0, rfl, rfl, Lib.hid (Fr.refl _ _)⟩
  case round =>
    obtain ⟨i, hk, rfl, HJ⟩ := hrel
    have hHB := HJ.out.blk HB2.out (fun e => e)
    have c5 : wr.cell? ⟨b, 5, none⟩ = some (.int .i64 (wo : Int)) := hHB.cellAt 5 _ rfl
    have hlt := hHB.lt
    rcases Nat.lt_or_ge i 1 with hi0 | hi0
    · obtain rfl : i = 0 := by omega
      have hx0 := fun w => idx0 w (.int .i64 (p : Int)) (.int .i64 (q : Int)) (.int .i64 (-1)) (.int .i64 (-1))
      go_upto_region 33 with fail
      clear hx0
      go_quiet (fail)
      have hGr : Grow wr ((wr.alloc (.cells #[.int .i64 (p : Int), .int .i64 (q : Int)] 105)).drewN nq) := ((Fr.refl _ wr).alloc _).trans (drewN_grow _ nq)
      go_wp2_with fail
      go_roundg (gk - 1)
      case measure => omega
      case rel => exact ⟨1, by omega, rfl, Lib.hid (HJ.out.trans hGr)⟩
    rcases Nat.lt_or_ge i 2 with hi1 | hi1
    · obtain rfl : i = 1 := by omega
      have hx1 := fun w => idx1 w (.int .i64 (p : Int)) (.int .i64 (q : Int)) (.int .i64 (-1)) (.int .i64 (-1))
      go_wp2_with fail
      go_roundg (gk - 1)
      case measure => omega
      case rel => exact ⟨2, by omega, rfl, Lib.hid (HJ.out.alloc _)⟩
    obtain rfl : i = 2 := by omega
    have hC3 := HJ.out.blk HC.out (fun e => e)
    have d0 : wr.cell? ⟨y, 0, none⟩ = some (.int .i64 (-1)) := hC3.cellAt 0 _ rfl
    have d1 : wr.cell? ⟨y, 1, none⟩ = some (.int .i64 (-1)) := hC3.cellAt 1 _ rfl
    have c8 : wr.cell? ⟨b, 8, none⟩ = some (.int .i64 (H.length : Int)) := hHB.cellAt 8 _ rfl
    have hlty3 := hC3.lt
    have hyb : b ≠ y := hHB.ne_of_type hC3 (by decide)
    have HB3 := Lib.hid hHB
    have HC3 := Lib.hid hC3
    have HG3 := Lib.hid (HG2.out.trans HJ.out)
    clear hC3 hHB
    go_upto_region 40 with fail
    have hF5 : Blk (wr.alloc (.cells #[.int .i64 (wo : Int), .slice none 0 0] 69)) wr.heap.size #[.int .i64 (wo : Int), .slice none 0 0] 69 := Blk.newAt _ _ _ _ (by simp)
    have hY5 : Blk (wr.alloc (.cells #[.int .i64 (wo : Int), .slice none 0 0] 69)) y #[.int .i64 (-1), .int .i64 (-1)] 105 := HC3.out.alloc _
    have hB5 := HB3.out.alloc (.cells #[.int .i64 (wo : Int), .slice none 0 0] 69)
    have hG5 : Grow w (wr.alloc (.cells #[.int .i64 (wo : Int), .slice none 0 0] 69)) := HG3.out.alloc _
    have hfs : w.heap.size ≤ wr.heap.size := HG3.out.size
    generalize (wr.alloc (.cells #[.int .i64 (wo : Int), .slice none 0 0] 69)) = w5 at *
    generalize wr.heap.size = f at *
    clear d0 d1 c5 c8 hlt hlty3
    have c5 : w5.cell? ⟨b, 5, none⟩ = some (.int .i64 (wo : Int)) := hB5.cellAt 5 _ rfl
    have hlt5 := hB5.lt
    go_quiet (first | (go_at_call 53; refine Calls.quiet_of_same (flip_world (maxDataLen_any _ _ wo m _ hF5 (by omega) (by omega)))))
    have hite : (if (H.length : Int) - (wo : Int) < (room wo m : Int) then (H.length : Int) - (wo : Int) else (room wo m : Int)) = (n : Int) := by
      rw [← hn]
      rcases Nat.lt_or_ge (H.length - wo) (room wo m) with c | c
      · rw [if_pos (by omega), Nat.min_eq_right (by omega)]; omega
      · rw [if_neg (by omega), Nat.min_eq_left (by omega)]
    rw [hite]
    have hF6 : Blk (w5.drewN nq) f #[.int .i64 (wo : Int), .slice none 0 0] 69 := hF5
    have hY6 : Blk (w5.drewN nq) y #[.int .i64 (-1), .int .i64 (-1)] 105 := hY5
    have hB6 : Blk (w5.drewN nq) b (iniC r bL wo (.slice pb H.length cb) true (H.length : Int) (p : Int) (q : Int) (-1) (-1)) 108 := hB5
    have hG6 : Grow w (w5.drewN nq) := hG5.trans (drewN_grow w5 nq)
    clear hite c5 hlt5 hF5 hY5 hB5 hG5
    generalize w5.drewN nq = w6 at *
    have c5 : w6.cell? ⟨b, 5, none⟩ = some (.int .i64 (wo : Int)) := hB6.cellAt 5 _ rfl
    have c6 : w6.cell? ⟨b, 6, none⟩ = some (.slice pb H.length cb) := hB6.cellAt 6 _ rfl
    have f1 : w6.cell? ⟨f, 1, none⟩ = some (.slice none 0 0) := hF6.cellAt 1 _ rfl
    have hlt6 := hB6.lt
    have hltf := hF6.lt
    have hff := hF6.free
    have hn0 : n ≤ H.length - wo := by rw [← hn]; exact Nat.min_le_right _ _
    have s1 : (wo : Int) ≤ (wo : Int) + (n : Int) := by omega
    have s2 : (wo : Int) + (n : Int) ≤ (cb : Int) := by omega
    have HY6 := Lib.hid hY6
    have HB6 := Lib.hid hB6
    have HF6 := Lib.hid hF6
    have HG6 := Lib.hid hG6
    have Hn := Lib.hid hn
    clear hY6 hB6 hF6 hG6 hn
    go_upto_region 43 with fail
    go_region
    have hbf : b ≠ f := HB6.out.ne_of_type HF6.out (by decide)
    have hyf : y ≠ f := HY6.out.ne_of_type HF6.out (by decide)
    have hF7 : Blk ((w6.setCell ⟨f, 1, none⟩ (.slice (Option.map (fun x => x.add wo) pb) n (cb - wo))).drew) f #[.int .i64 (wo : Int), (.slice (Option.map (fun x => x.add wo) pb) n (cb - wo))] 69 := HF6.out.set 1 _
    have hY7 : Blk ((w6.setCell ⟨f, 1, none⟩ (.slice (Option.map (fun x => x.add wo) pb) n (cb - wo))).drew) y #[.int .i64 (-1), .int .i64 (-1)] 105 := HY6.out.setOther _ _ hyf
    have hB7 : Blk ((w6.setCell ⟨f, 1, none⟩ (.slice (Option.map (fun x => x.add wo) pb) n (cb - wo))).drew) b (iniC r bL wo (.slice pb H.length cb) true (H.length : Int) (p : Int) (q : Int) (-1) (-1)) 108 := HB6.out.setOther _ _ hbf
    have hG7 : Grow w ((w6.setCell ⟨f, 1, none⟩ (.slice (Option.map (fun x => x.add wo) pb) n (cb - wo))).drew) := (HG6.out.setCell _ _ (.inr hfs)).drew
    have HF7 := Lib.hid hF7
    have HY7 := Lib.hid hY7
    have HB7 := Lib.hid hB7
    have HG7 := Lib.hid hG7
    clear hF7 hY7 hB7 hG7 c5 c6 f1 hlt6 hltf hff
    generalize (w6.setCell ⟨f, 1, none⟩ (.slice (Option.map (fun x => x.add wo) pb) n (cb - wo))).drew = w7 at *
    have c5 : w7.cell? ⟨b, 5, none⟩ = some (.int .i64 (wo : Int)) := HB7.out.cellAt 5 _ rfl
    have hlt7 := HB7.out.lt
    have hfb7 := HB7.out.free
    go_upto_region 45 with fail
    have hcast : ((wo : Int) + (n : Int)) = ((wo + n : Nat) : Int) := by omega
    rw [hcast]
    have hyb' := hyb
    have hY8 : Blk (w7.setCell ⟨b, 5, none⟩ (.int .i64 ((wo + n : Nat) : Int))) y #[.int .i64 (-1), .int .i64 (-1)] 105 := HY7.out.setOther _ _ (Ne.symm hyb)
    have hF8 : Blk (w7.setCell ⟨b, 5, none⟩ (.int .i64 ((wo + n : Nat) : Int))) f #[.int .i64 (wo : Int), (.slice (Option.map (fun x => x.add wo) pb) n (cb - wo))] 69 := HF7.out.setOther _ _ (Ne.symm hbf)
    have hB8 : Blk (w7.setCell ⟨b, 5, none⟩ (.int .i64 ((wo + n : Nat) : Int))) b (iniC r bL (wo + n) (.slice pb H.length cb) true (H.length : Int) (p : Int) (q : Int) (-1) (-1)) 108 := HB7.out.set 5 _
    have hFr8 : Fr (fun j => j = b) w (w7.setCell ⟨b, 5, none⟩ (.int .i64 ((wo + n : Nat) : Int))) := HG7.out.to.setCell _ _ (.inl rfl)
    have HF8 := Lib.hid hF8
    have HY8 := Lib.hid hY8
    have HB8 := Lib.hid hB8
    have HFr8 := Lib.hid hFr8
    clear hF8 hY8 hB8 hFr8 c5 hlt7 hfb7 hcast
    generalize w7.setCell ⟨b, 5, none⟩ (.int .i64 ((wo + n : Nat) : Int)) = w8 at *
    have hnb : ∀ j, j = b → ¬ BytesBlk w j := fun j hj => by rw [show j = b from hj]; exact HB.out.noBytes (by decide)
    have hdr : Rd w (.slice (Option.map (fun x => x.add wo) pb) n (cb - wo)) ((H.drop wo).take n) := by
      have h := HR.out.drop wo (by omega)
      rw [if_neg (by omega)] at h
      exact h.take n (by rw [List.length_drop]; omega)
    have HDR := Lib.hid hdr
    have HNB := Lib.hid hnb
    clear hdr hnb
    obtain ⟨v5, hv5⟩ : ∃ v5, v5 = wo + n := ⟨_, rfl⟩
    rw [← hv5] at HB8 ⊢
    have HV5 := Lib.hid hv5
    clear hv5
    have c5 : w8.cell? ⟨b, 5, none⟩ = some (.int .i64 (v5 : Int)) := HB8.out.cellAt 5 _ rfl
    have y0 : w8.cell? ⟨y, 0, none⟩ = some (.int .i64 (-1)) := HY8.out.cellAt 0 _ rfl
    have hlt8 := HB8.out.lt
    have hlty8 := HY8.out.lt
    have hv1 : ¬ ((v5 : Int) = -1) := by omega
    have hw : wn = v5 := by rw [HV5.out]; exact HWN.out.symm
    subst hw
    go_quiet (fail)
    have hd8 := drewN_grow w8 nq
    have hFr9 := HFr8.out.trans (hd8.to (S := fun j => j = b))
    have HB9 := Lib.hid (hd8.blk HB8.out (fun e => e))
    have HF9 := Lib.hid (hd8.blk HF8.out (fun e => e))
    generalize w8.drewN nq = w9 at *
    go_wp2_with fail
    go_ret
    exact ⟨f, _, rfl, hfs, HF9.out, HDR.out.keep (hFr9.bytes HNB.out), HB9.out, HR.out.keep (hFr9.bytes HNB.out), hFr9⟩
end Go.Proofs.YtdhhccpeikhilaaDoor
