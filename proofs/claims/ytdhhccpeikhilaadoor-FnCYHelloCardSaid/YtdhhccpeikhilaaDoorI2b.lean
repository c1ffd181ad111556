/- PopCryptoFrame of the stream of the Initial packets: the part that was left out is sent. -/
import Derived.Test.YtdhhccpeikhilaaDoorI2
namespace Go.Proofs.YtdhhccpeikhilaaDoor
open Go.RowKit

def CutEnd (w' : World) (b r bL N q v : Nat) (wb : Value) (H : List UInt8) : Prop :=
  (v < q → Blk w' b (iniC r bL N wb true (N : Int) (v : Int) (q : Int) (-1) (-1)) 108 ∧ Rd w' wb H) ∧ (v = q → ∃ wb', Blk w' b (iniC r bL N wb' false (-1) (-1) (-1) (-1) (-1)) 108 ∧ Rd w' wb' [])

abbrev cutC (r bL N : Nat) (wb : Value) (v q : Nat) (fb : Bool) : Array Value := iniC r bL N wb true (N : Int) (if fb then (v : Int) else -1) (if fb then (q : Int) else -1) (-1) (-1)

set_option maxRecDepth 100000 in
set_option maxHeartbeats 4000000 in
theorem pop41_cut (w : World) (b r bL N p q m n : Nat) (wb : Value) (H : List UInt8) (hb : Blk w b (iniC r bL N wb true (N : Int) (p : Int) (q : Int) (-1) (-1)) 108) (hr : Rd w wb H) (hN : H.length = N) (hN6 : N ≤ 10000) (hm : m ≤ 10000) (h2 : p < q) (h3 : q ≤ N) (hn : min (room p m) (q - p) = n) (hpos : 0 < n) :
    Calls Tryd.prog 41 #[pt b, .int .i64 (m : Int)] w fun e w' => ∃ bf s, e = .returned (pt bf) ∧ w.heap.size ≤ bf ∧ Blk w' bf #[.int .i64 (p : Int), s] 69 ∧ Rd w' s ((H.drop p).take n) ∧ CutEnd w' b r bL N q (p + n) wb H ∧ Fr (fun j => j = b) w w' := by
  subst hN
  obtain ⟨pb, cb, rfl, hlc, hcm, _⟩ := id hr
  have HR := Lib.hid hr
  have HB := Lib.hid hb
  have c5 : w.cell? ⟨b, 5, none⟩ = some (.int .i64 (H.length : Int)) := hb.cellAt 5 _ rfl
  have c7 : w.cell? ⟨b, 7, none⟩ = some (.bool true) := hb.cellAt 7 _ rfl
  have c8 : w.cell? ⟨b, 8, none⟩ = some (.int .i64 (H.length : Int)) := hb.cellAt 8 _ rfl
  have hlt := hb.lt
  clear hr
  go_enter Tryd.func41, Tryd.ntmps41
  go_upto_region 3 with fail
  go_quiet (fail)
  have hb1 : Blk (w.drewN nq) b (iniC r bL H.length (.slice pb H.length cb) true (H.length : Int) (p : Int) (q : Int) (-1) (-1)) 108 := hb
  have hG1 := drewN_grow w nq
  generalize w.drewN nq = w1 at *
  clear c5 c7 c8 hlt hb
  have c9 : w1.cell? ⟨b, 9, none⟩ = some (.int .i64 (p : Int)) := hb1.cellAt 9 _ rfl
  have c10 : w1.cell? ⟨b, 10, none⟩ = some (.int .i64 (q : Int)) := hb1.cellAt 10 _ rfl
  have c11 : w1.cell? ⟨b, 11, none⟩ = some (.int .i64 (-1)) := hb1.cellAt 11 _ rfl
  have c12 : w1.cell? ⟨b, 12, none⟩ = some (.int .i64 (-1)) := hb1.cellAt 12 _ rfl
  have hlt := hb1.lt
  go_wp2_with fail
  have HB1 := Lib.hid hb1
  have HG1 := Lib.hid hG1
  clear hb1 hG1 c9 c10 c11 c12 hlt
  go_loopg [5, 6, 7, 8, 9, 40] 2 (fun k s5 s6 s7 s8 s9 s40 wr => ∃ (i : Nat) (fb : Bool) (pf : Option Addr), k + i = 2 ∧ s40 = .int .i64 (i : Int) ∧ s5 = .bool fb ∧ s6 = .pointer pf ∧ Hid ((i = 0 → fb = false ∧ pf = none ∧ wr = w1) ∧ (0 < i → ∃ f s, pf = some ⟨f, 0, none⟩ ∧ w.heap.size ≤ f ∧ Blk wr f #[.int .i64 (p : Int), s] 69 ∧ Rd wr s ((H.drop p).take n) ∧ fb = decide (p + n < q) ∧ Blk wr b (cutC r bL H.length (.slice pb H.length cb) (p + n) q fb) 108 ∧ Fr (fun j => j = b) w wr)))
  case atStart => exact ⟨0, false, none, rfl, rfl, rfl, rfl, Lib.hid ⟨fun _ => ⟨rfl, rfl, rfl⟩, fun h => absurd h (by omega)⟩⟩
  case round =>
    obtain ⟨i, fb, pf, hk, rfl, rfl, rfl, HJ⟩ := hrel
    rcases Nat.lt_or_ge i 1 with hi0 | hi0
    · obtain rfl : i = 0 := by omega
      obtain ⟨rfl, rfl, rfl⟩ := HJ.out.1 rfl
      have hlt := HB1.out.lt
      have hx0 := fun w => idx0 w (.int .i64 (p : Int)) (.int .i64 (q : Int)) (.int .i64 (-1)) (.int .i64 (-1))
      have hp1 : ¬ ((p : Int) = -1) := by omega
      go_upto_region 9 with fail
      clear hx0
      have hC2 : Blk (wr.alloc (.cells #[.int .i64 (p : Int), .int .i64 (q : Int)] 105)) wr.heap.size #[.int .i64 (p : Int), .int .i64 (q : Int)] 105 := Blk.new wr _ _
      have hB2 := HB1.out.alloc (.cells #[.int .i64 (p : Int), .int .i64 (q : Int)] 105)
      have hG2 : Grow w (wr.alloc (.cells #[.int .i64 (p : Int), .int .i64 (q : Int)] 105)) := HG1.out.alloc _
      have hys : w.heap.size ≤ wr.heap.size := HG1.out.size
      generalize wr.alloc (.cells #[.int .i64 (p : Int), .int .i64 (q : Int)] 105) = w2 at *
      generalize wr.heap.size = y at *
      have y0 : w2.cell? ⟨y, 0, none⟩ = some (.int .i64 (p : Int)) := hC2.cellAt 0 _ rfl
      have hlty := hC2.lt
      have hszz := hG2.size
      have HC2 := Lib.hid hC2
      have HB2 := Lib.hid hB2
      have HG2 := Lib.hid hG2
      clear hC2 hB2 hG2 hlt
      go_upto_region 13 with fail
      have hF5 : Blk (w2.alloc (.cells #[.int .i64 (p : Int), .slice none 0 0] 69)) w2.heap.size #[.int .i64 (p : Int), .slice none 0 0] 69 := Blk.newAt _ _ _ _ rfl
      have hY5 : Blk (w2.alloc (.cells #[.int .i64 (p : Int), .slice none 0 0] 69)) y #[.int .i64 (p : Int), .int .i64 (q : Int)] 105 := HC2.out.alloc _
      have hB5 := HB2.out.alloc (.cells #[.int .i64 (p : Int), .slice none 0 0] 69)
      have hG5 : Grow w (w2.alloc (.cells #[.int .i64 (p : Int), .slice none 0 0] 69)) := HG2.out.alloc _
      generalize (w2.alloc (.cells #[.int .i64 (p : Int), .slice none 0 0] 69)) = w5 at *
      generalize w2.heap.size = f at *
      clear y0 hlty
      have y0 : w5.cell? ⟨y, 0, none⟩ = some (.int .i64 (p : Int)) := hY5.cellAt 0 _ rfl
      have y1 : w5.cell? ⟨y, 1, none⟩ = some (.int .i64 (q : Int)) := hY5.cellAt 1 _ rfl
      have hlty := hY5.lt
      go_quiet (first | (go_at_call 53; refine Calls.quiet_of_same (flip_world (maxDataLen_any _ _ p m _ hF5 (by omega) (by omega)))))
      have hite : (if (q : Int) - (p : Int) < (room p m : Int) then (q : Int) - (p : Int) else (room p m : Int)) = (n : Int) := by
        rw [← hn]
        rcases Nat.lt_or_ge (q - p) (room p m) with c | c
        · rw [if_pos (by omega), Nat.min_eq_right (by omega)]; omega
        · rw [if_neg (by omega), Nat.min_eq_left (by omega)]
      rw [hite]
      have hF6 : Blk (w5.drewN nq) f #[.int .i64 (p : Int), .slice none 0 0] 69 := hF5
      have hY6 : Blk (w5.drewN nq) y #[.int .i64 (p : Int), .int .i64 (q : Int)] 105 := hY5
      have hB6 : Blk (w5.drewN nq) b (iniC r bL H.length (.slice pb H.length cb) true (H.length : Int) (p : Int) (q : Int) (-1) (-1)) 108 := hB5
      have hG6 : Grow w (w5.drewN nq) := hG5.trans (drewN_grow w5 nq)
      clear hite y0 y1 hlty hF5 hY5 hB5 hG5
      generalize w5.drewN nq = w6 at *
      have c6 : w6.cell? ⟨b, 6, none⟩ = some (.slice pb H.length cb) := hB6.cellAt 6 _ rfl
      have f1 : w6.cell? ⟨f, 1, none⟩ = some (.slice none 0 0) := hF6.cellAt 1 _ rfl
      have y0 : w6.cell? ⟨y, 0, none⟩ = some (.int .i64 (p : Int)) := hY6.cellAt 0 _ rfl
      have hlt6 := hB6.lt
      have hltf := hF6.lt
      have hlty := hY6.lt
      have hff := hF6.free
      have hn0 : n ≤ q - p := by rw [← hn]; exact Nat.min_le_right _ _
      have s1 : (p : Int) ≤ (p : Int) + (n : Int) := by omega
      have s2 : (p : Int) + (n : Int) ≤ (cb : Int) := by omega
      have HY6 := Lib.hid hY6
      have HB6 := Lib.hid hB6
      have HF6 := Lib.hid hF6
      have HG6 := Lib.hid hG6
      have Hn := Lib.hid hn
      clear hY6 hB6 hF6 hG6 hn
      go_upto_region 16 with fail
      go_region
      have hbf : b ≠ f := HB6.out.ne_of_type HF6.out (by decide)
      have hyf : y ≠ f := HY6.out.ne_of_type HF6.out (by decide)
      have hyb : y ≠ b := HY6.out.ne_of_type HB6.out (by decide)
      have hF7 : Blk ((w6.setCell ⟨f, 1, none⟩ (.slice (Option.map (fun x => x.add p) pb) n (cb - p))).drew) f #[.int .i64 (p : Int), (.slice (Option.map (fun x => x.add p) pb) n (cb - p))] 69 := HF6.out.set 1 _
      have hY7 : Blk ((w6.setCell ⟨f, 1, none⟩ (.slice (Option.map (fun x => x.add p) pb) n (cb - p))).drew) y #[.int .i64 (p : Int), .int .i64 (q : Int)] 105 := HY6.out.setOther _ _ hyf
      have hB7 : Blk ((w6.setCell ⟨f, 1, none⟩ (.slice (Option.map (fun x => x.add p) pb) n (cb - p))).drew) b (iniC r bL H.length (.slice pb H.length cb) true (H.length : Int) (p : Int) (q : Int) (-1) (-1)) 108 := HB6.out.setOther _ _ hbf
      have hG7 : Grow w ((w6.setCell ⟨f, 1, none⟩ (.slice (Option.map (fun x => x.add p) pb) n (cb - p))).drew) := (HG6.out.setCell _ _ (.inr (by omega))).drew
      have HF7 := Lib.hid hF7
      have HY7 := Lib.hid hY7
      have HB7 := Lib.hid hB7
      have HG7 := Lib.hid hG7
      clear hF7 hY7 hB7 hG7 c6 f1 y0 hlt6 hltf hff hlty
      generalize (w6.setCell ⟨f, 1, none⟩ (.slice (Option.map (fun x => x.add p) pb) n (cb - p))).drew = w7 at *
      have c9 : w7.cell? ⟨b, 9, none⟩ = some (.int .i64 (p : Int)) := HB7.out.cellAt 9 _ rfl
      have hlt7 := HB7.out.lt
      have hfb7 := HB7.out.free
      go_upto_region 17 with fail
      go_region
      obtain ⟨v5, hv5⟩ : ∃ v5 : Nat, v5 = p + n := ⟨_, rfl⟩
      have hcast : ((p : Int) + (n : Int)) = (v5 : Int) := by omega
      rw [hcast]
      have hB8 : Blk ((w7.setCell ⟨b, 9, none⟩ (.int .i64 (v5 : Int))).drew) b (iniC r bL H.length (.slice pb H.length cb) true (H.length : Int) (v5 : Int) (q : Int) (-1) (-1)) 108 := HB7.out.set 9 _
      have hY8 : Blk ((w7.setCell ⟨b, 9, none⟩ (.int .i64 (v5 : Int))).drew) y #[.int .i64 (p : Int), .int .i64 (q : Int)] 105 := HY7.out.setOther _ _ hyb
      have hF8 : Blk ((w7.setCell ⟨b, 9, none⟩ (.int .i64 (v5 : Int))).drew) f #[.int .i64 (p : Int), (.slice (Option.map (fun x => x.add p) pb) n (cb - p))] 69 := HF7.out.setOther _ _ (Ne.symm hbf)
      have hFr8 : Fr (fun j => j = b) w ((w7.setCell ⟨b, 9, none⟩ (.int .i64 (v5 : Int))).drew) := (Fr.setCell (S := fun j => j = b) HG7.out.to ⟨b, 9, none⟩ _ (.inl rfl)).drew
      have HF8 := Lib.hid hF8
      have HY8 := Lib.hid hY8
      have HB8 := Lib.hid hB8
      have HFr8 := Lib.hid hFr8
      have HV5 := Lib.hid hv5
      clear hF8 hY8 hB8 hFr8 hv5 hcast c9 hlt7 hfb7
      generalize (w7.setCell ⟨b, 9, none⟩ (.int .i64 (v5 : Int))).drew = w8 at *
      have c9 : w8.cell? ⟨b, 9, none⟩ = some (.int .i64 (v5 : Int)) := HB8.out.cellAt 9 _ rfl
      have y1 : w8.cell? ⟨y, 1, none⟩ = some (.int .i64 (q : Int)) := HY8.out.cellAt 1 _ rfl
      have hlt8 := HB8.out.lt
      have hlty := HY8.out.lt
      have hfb8 := HB8.out.free
      have hnb : ∀ j, j = b → ¬ BytesBlk w j := fun j hj => by rw [show j = b from hj]; exact HB.out.noBytes (by decide)
      have hdr : Rd w (.slice (Option.map (fun x => x.add p) pb) n (cb - p)) ((H.drop p).take n) := by
        have h := HR.out.drop p (by omega)
        rw [if_neg (by omega)] at h
        exact h.take n (by rw [List.length_drop]; omega)
      have HDR := Lib.hid hdr
      have HNB := Lib.hid hnb
      clear hdr hnb
      go_upto_region 18 with fail
      have hsz6 : w.heap.size ≤ f := by omega
      by_cases hvq : v5 = q
      · subst hvq
        go_quiet (fail)
        have hd8 := drewN_grow w8 nq
        have HFr9 := Lib.hid (HFr8.out.trans (hd8.to (S := fun j => j = b)))
        have HB9 := Lib.hid (hd8.blk HB8.out (fun e => e))
        have HF9 := Lib.hid (hd8.blk HF8.out (fun e => e))
        have hlt9 := HB9.out.lt
        have hfb9 := HB9.out.free
        clear c9 y1
        have c9 : (w8.drewN nq).cell? ⟨b, 9, none⟩ = some (.int .i64 (v5 : Int)) := HB9.out.cellAt 9 _ rfl
        have c10 : (w8.drewN nq).cell? ⟨b, 10, none⟩ = some (.int .i64 (v5 : Int)) := HB9.out.cellAt 10 _ rfl
        generalize w8.drewN nq = w9 at *
        go_wp2_with fail
        go_roundg (gk - 1)
        case measure => omega
        case rel =>
          have hFr10 := (HFr9.out.setCell ⟨b, 9, none⟩ (.int .i64 (-1)) (.inl rfl)).setCell ⟨b, 10, none⟩ (.int .i64 (-1)) (.inl rfl)
          exact ⟨1, false, some ⟨f, 0, none⟩, by omega, rfl, rfl, rfl, Lib.hid ⟨fun h => absurd h (by omega), fun _ => ⟨f, _, rfl, hsz6, (HF9.out.setOther _ _ (Ne.symm hbf)).setOther _ _ (Ne.symm hbf), HDR.out.keep (hFr10.bytes HNB.out), (decide_eq_false (by have := HV5.out; omega)).symm, (HB9.out.set 9 _).set 10 _, hFr10⟩⟩⟩
      · go_quiet (fail)
        have hd8 := drewN_grow w8 nq
        have HFr9 := Lib.hid (HFr8.out.trans (hd8.to (S := fun j => j = b)))
        have HB9 := Lib.hid (hd8.blk HB8.out (fun e => e))
        have HF9 := Lib.hid (hd8.blk HF8.out (fun e => e))
        clear c9 y1
        generalize w8.drewN nq = w9 at *
        go_wp2_with fail
        go_roundg (gk - 1)
        case measure => omega
        case rel =>
          exact ⟨1, true, some ⟨f, 0, none⟩, by omega, rfl, rfl, rfl, Lib.hid ⟨fun h => absurd h (by omega), fun _ => ⟨f, _, rfl, hsz6, HF9.out, HDR.out.keep (HFr9.out.bytes HNB.out), (decide_eq_true (by have := HV5.out; have := Hn.out; have : min (room p m) (q - p) ≤ q - p := Nat.min_le_right _ _; omega)).symm, by have h := HB9.out; rw [HV5.out] at h; exact h, HFr9.out⟩⟩⟩
    · obtain ⟨f, s, rfl, hsz6, hF, hR, hfb, hB, hFr⟩ := HJ.out.2 hi0
      have HF := Lib.hid hF
      have HRs := Lib.hid hR
      have HFB := Lib.hid hfb
      have HBr := Lib.hid hB
      have HFr := Lib.hid hFr
      clear hF hR hfb hB hFr HJ
      rcases Nat.lt_or_ge i 2 with hi1 | hi1
      · obtain rfl : i = 1 := by omega
        have hx1 := fun w => idx1 w (.int .i64 (p : Int)) (.int .i64 (q : Int)) (.int .i64 (-1)) (.int .i64 (-1))
        go_wp2_with fail
        go_roundg (gk - 1)
        case measure => omega
        case rel => exact ⟨2, fb, some ⟨f, 0, none⟩, by omega, rfl, rfl, rfl, Lib.hid ⟨fun h => absurd h (by omega), fun _ => ⟨f, s, rfl, hsz6, HF.out.alloc _, HRs.out.keep (Grow.bytes ((Fr.refl _ _).alloc _)), HFB.out, HBr.out.alloc _, HFr.out.alloc _⟩⟩⟩
      · obtain rfl : i = 2 := by omega
        have hnb : ∀ j, j = b → ¬ BytesBlk w j := fun j hj => by rw [show j = b from hj]; exact HB.out.noBytes (by decide)
        have HNB := Lib.hid hnb
        clear hnb
        cases hb2 : fb with
        | true =>
          subst hb2
          go_wp2_with fail
          go_ret
          have h1 := HBr.out
          have h2 := of_decide_eq_true HFB.out.symm
          exact ⟨f, s, rfl, hsz6, HF.out, HRs.out, ⟨fun _ => ⟨h1, HR.out.keep (HFr.out.bytes HNB.out)⟩, fun e => absurd e (by omega)⟩, HFr.out⟩
        | false =>
          subst hb2
          have c6 : wr.cell? ⟨b, 6, none⟩ = some (.slice pb H.length cb) := HBr.out.cellAt 6 _ rfl
          have c8 : wr.cell? ⟨b, 8, none⟩ = some (.int .i64 (H.length : Int)) := HBr.out.cellAt 8 _ rfl
          have hlt := HBr.out.lt
          have hfr := HBr.out.free
          have s2 : (H.length : Int) ≤ (cb : Int) := by omega
          go_upto_region 24 with fail
          go_region
          obtain ⟨wv, hwv⟩ : ∃ x, x = Value.slice (if cb = H.length then pb else Option.map (fun x => x.add H.length) pb) 0 (cb - H.length) := ⟨_, rfl⟩
          have hRv : Rd ((wr.setCell ⟨b, 6, none⟩ wv).drew) wv [] := by subst hwv; exact ⟨_, _, rfl, Nat.zero_le _, by omega, fun h => (h rfl).elim⟩
          rw [← hwv]
          have hB2 : Blk ((wr.setCell ⟨b, 6, none⟩ wv).drew) b (iniC r bL H.length wv true (H.length : Int) (-1) (-1) (-1) (-1)) 108 := HBr.out.set 6 _
          have hFr2 : Fr (fun j => j = b) w ((wr.setCell ⟨b, 6, none⟩ wv).drew) := (Fr.setCell (S := fun j => j = b) HFr.out ⟨b, 6, none⟩ _ (.inl rfl)).drew
          have hF2 : Blk ((wr.setCell ⟨b, 6, none⟩ wv).drew) f #[.int .i64 (p : Int), s] 69 := HF.out.setOther _ _ (HF.out.ne_of_type HBr.out (by decide))
          have hRs : Rd ((wr.setCell ⟨b, 6, none⟩ wv).drew) s ((H.drop p).take n) := HRs.out.keep (Fr.bytes (S := fun j => j = b) ((Fr.setCell (S := fun j => j = b) (Fr.refl _ wr) ⟨b, 6, none⟩ _ (.inl rfl)).drew) (fun j hj => by rw [show j = b from hj]; exact HBr.out.noBytes (by decide)))
          have HB2 := Lib.hid hB2
          have HFr2 := Lib.hid hFr2
          have HF2 := Lib.hid hF2
          have HRs2 := Lib.hid hRs
          have HRv := Lib.hid hRv
          clear hB2 hFr2 hF2 hRs hRv hwv c6 c8 hlt hfr s2
          generalize (wr.setCell ⟨b, 6, none⟩ wv).drew = w9 at *
          have c8 : w9.cell? ⟨b, 8, none⟩ = some (.int .i64 (H.length : Int)) := HB2.out.cellAt 8 _ rfl
          have c7 : w9.cell? ⟨b, 7, none⟩ = some (.bool true) := HB2.out.cellAt 7 _ rfl
          have hlt := HB2.out.lt
          have hfr := HB2.out.free
          go_wp2_with fail
          go_ret
          have h2 := of_decide_eq_false HFB.out.symm
          have hfb : f ≠ b := HF2.out.ne_of_type HB2.out (by decide)
          have hFr3 : Fr (fun j => j = b) w9 ((w9.setCell ⟨b, 8, none⟩ (.int .i64 (-1))).setCell ⟨b, 7, none⟩ (.bool false)) := Fr.setCell (S := fun j => j = b) (Fr.setCell (S := fun j => j = b) (Fr.refl _ w9) ⟨b, 8, none⟩ _ (.inl rfl)) ⟨b, 7, none⟩ _ (.inl rfl)
          have hnb9 : ∀ j, j = b → ¬ BytesBlk w9 j := fun j hj => by rw [show j = b from hj]; exact HB2.out.noBytes (by decide)
          exact ⟨f, s, rfl, hsz6, (HF2.out.setOther _ _ hfb).setOther _ _ hfb, HRs2.out.keep (hFr3.bytes hnb9), ⟨fun e => absurd e h2, fun _ => ⟨wv, (HB2.out.set 8 _).set 7 _, HRv.out.keep (hFr3.bytes hnb9)⟩⟩, HFr2.out.trans hFr3⟩
end Go.Proofs.YtdhhccpeikhilaaDoor
