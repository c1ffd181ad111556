/- The reference's sending side: RQLong, RQRoom, RQNumber, RQCrypto, CYPop. -/
import Derived.Test.YtdhhccpeikhilaaDoorF1
import Derived.Deep.RegionHeld3
import Derived.Test.YtdhhccpeikhilaaDoorD7
import Derived.BigQuiet
import Derived.BigRegion
import Derived.Laws.OwnMore
namespace Go.Proofs.YtdhhccpeikhilaaDoor
open Go.RowKit

theorem vlen_lo {n : Nat} (h : n < 64) : vlen n = 1 := if_pos (by omega)
theorem vlen_mid {n : Nat} (h : 64 ≤ n) (h2 : n < 16384) : vlen n = 2 := by unfold vlen; rw [if_neg (by omega), if_pos (by omega)]
theorem vlen_hi {n : Nat} (h : 16384 ≤ n) (h2 : n ≤ 1000000) : vlen n = 4 := by unfold vlen; rw [if_neg (by omega), if_neg (by omega), if_pos (by omega)]

set_option maxRecDepth 100000 in
theorem long_any (w : World) (n : Nat) (h : n ≤ 1000000) :
    Calls Tryd.prog 45 #[.int .u64 (n : Int)] w fun e w' => e = .returned (.int .i64 (vlen n : Int)) ∧ w = w' := by
  rcases Nat.lt_or_ge n 64 with c | c
  · rw [vlen_lo c]
    have d1 : decide ((n : Int) < 64) = true := decide_eq_true (by omega)
    clear c h
    go_enter Tryd.func45, Tryd.ntmps45
    go_wp2_with fail
    go_ret
    exact ⟨rfl, rfl⟩
  · rcases Nat.lt_or_ge n 16384 with c2 | c2
    · rw [vlen_mid c c2]
      have d1 : decide ((n : Int) < 64) = false := decide_eq_false (by omega)
      have d2 : decide ((n : Int) < 16384) = true := decide_eq_true (by omega)
      clear c c2 h
      go_enter Tryd.func45, Tryd.ntmps45
      go_wp2_with fail
      go_ret
      exact ⟨rfl, rfl⟩
    · rw [vlen_hi c2 h]
      have d1 : decide ((n : Int) < 64) = false := decide_eq_false (by omega)
      have d2 : decide ((n : Int) < 16384) = false := decide_eq_false (by omega)
      have d3 : decide ((n : Int) < 1073741824) = true := decide_eq_true (by omega)
      clear c c2 h
      go_enter Tryd.func45, Tryd.ntmps45
      go_wp2_with fail
      go_ret
      exact ⟨rfl, rfl⟩
theorem long_int (w : World) (z : Int) (n : Nat) (hz : z = (n : Int)) (h : n ≤ 1000000) :
    Calls Tryd.prog 45 #[.int .u64 z] w fun e w' => e = .returned (.int .i64 (vlen n : Int)) ∧ w = w' := by
  subst hz; exact long_any w n h

theorem vlen_le (n : Nat) : 1 ≤ vlen n ∧ vlen n ≤ 8 := by
  unfold vlen; repeat' split
  all_goals omega

set_option maxRecDepth 100000 in
set_option maxHeartbeats 1000000 in
theorem room_any (w : World) (o m : Nat) (ho : o ≤ 1000000) (hm : m ≤ 1000000) (h12 : 12 ≤ m) :
    Calls Tryd.prog 32 #[.int .i64 (o : Int), .int .i64 (m : Int)] w fun e w' => e = .returned (.int .i64 (room o m : Int)) ∧ w = w' := by
  have hl1 := long_any w o (by omega)
  have hv := vlen_le o
  have hr : room o m = if m - (2 + vlen o) ≤ 63 then m - (2 + vlen o) else m - (2 + vlen o) - 1 := by unfold room; rw [if_neg (by omega)]
  rw [hr]
  have hv2 : (m - (2 + vlen o) ≤ 63 ∧ vlen (m - (2 + vlen o)) = 1) ∨ (¬ (m - (2 + vlen o) ≤ 63) ∧ (vlen (m - (2 + vlen o)) = 2 ∨ vlen (m - (2 + vlen o)) = 4)) := by
    have hxm : m - (2 + vlen o) ≤ 1000000 := by omega
    clear hr
    generalize m - (2 + vlen o) = x at hxm
    unfold vlen; repeat' split
    all_goals omega
  clear hr
  generalize hvo : vlen o = vo at *
  clear hvo
  obtain ⟨x, hx⟩ : ∃ x, m = 2 + vo + x := ⟨m - (2 + vo), by omega⟩
  subst hx
  rw [Nat.add_sub_cancel_left] at *
  rcases hv2 with ⟨h1, h2⟩ | ⟨h1, h2⟩
  · rw [if_pos h1]
    go_enter Tryd.func32, Tryd.ntmps32
    go_wp2_with fail
    refine hl1.mono ?_
    rintro e w' ⟨rfl, rfl⟩
    go_wp2_with fail
    refine (long_int w _ x (by omega) (by omega)).mono ?_
    rw [h2]
    rintro e w' ⟨rfl, rfl⟩
    go_wp2_with fail
    go_ret
    exact ⟨ret_int (by omega), rfl⟩
  · rw [if_neg h1]
    have h3 : ((vlen x : Nat) : Int) ≠ 1 := by omega
    go_enter Tryd.func32, Tryd.ntmps32
    go_wp2_with fail
    refine hl1.mono ?_
    rintro e w' ⟨rfl, rfl⟩
    go_wp2_with fail
    refine (long_int w _ x (by omega) (by omega)).mono ?_
    rintro e w' ⟨rfl, rfl⟩
    go_wp2_with fail
    go_ret
    exact ⟨ret_int (by omega), rfl⟩

/-- A block of bytes, whichever they are. -/
def ByteRow (w : World) (b k : Nat) : Prop := ∃ l : List UInt8, l.length = k ∧ Blk w b (l.map u8).toArray 5

theorem ByteRow.set {w : World} {b k : Nat} (h : ByteRow w b k) (i : Nat) (c : UInt8) : ByteRow (w.setCell ⟨b, i, none⟩ (u8 c)) b k := by
  obtain ⟨l, hl, hB⟩ := h
  refine ⟨l.set i c, by rw [List.length_set]; exact hl, ?_⟩
  have := hB.set i (u8 c)
  have e : (l.map u8).toArray.setIfInBounds i (u8 c) = ((l.set i c).map u8).toArray := by
    rw [List.setIfInBounds_toArray, List.map_set]
  rw [e] at this
  exact this

theorem u8_of (z : Int) (h0 : 0 ≤ z) (h1 : z < 256) : Value.int .u8 z = u8 (UInt8.ofNat z.toNat) := by
  unfold u8
  rw [UInt8.toNat_ofNat']
  congr 1
  omega

theorem or_byte (c : UInt8) (m : Int) : 0 ≤ bits BinOp.or IntKind.u8 (c.toNat : Int) m ∧ bits BinOp.or IntKind.u8 (c.toNat : Int) m < 256 := by
  unfold bits
  simp only
  rw [IntKind.wrap_u8]
  omega

set_option maxRecDepth 100000 in
set_option maxHeartbeats 1000000 in
theorem number_any (w : World) (n : Nat) (hn : n ≤ 1000000) :
    Calls Tryd.prog 31 #[.int .u64 (n : Int)] w fun e w' => Grow w w' ∧ ∃ b, e = .returned (.slice (some ⟨b, 0, none⟩) (vlen n) (vlen n)) ∧ ByteRow w' b (vlen n) ∧ w.heap.size ≤ b := by
  have hv : vlen n = 1 ∨ vlen n = 2 ∨ vlen n = 4 := by
    unfold vlen; repeat' split
    all_goals omega
  have hL := Lib.hid (long_any w n (by omega))
  have hmk := run_make_row' (P := Tryd.prog) 26 5 (.int .u8 0) 1 Tryd.underlying26 info5 rfl .i64 .i64 (vlen n) (by omega) (by omega) w
  obtain ⟨k, hk⟩ : ∃ k, k = vlen n := ⟨_, rfl⟩
  rw [← hk] at hv hmk ⊢
  have hL2 : Hid (Calls Tryd.prog 45 #[.int .u64 (n : Int)] w fun e w' => e = .returned (.int .i64 (k : Int)) ∧ w = w') := Lib.hid (by rw [hk]; exact hL.out)
  clear hL hk
  go_enter Tryd.func31, Tryd.ntmps31
  go_upto_region 3 with (go_at_call 45; refine hL2.out.mono ?_; rintro e w' ⟨rfl, rfl⟩)
  clear hmk
  have hR0 : ByteRow (w.alloc (.cells (madeCells #[.int .u8 0] k) 5)) w.heap.size k := by
    refine ⟨List.replicate k 0, by simp, ?_⟩
    have := Blk.new w (madeCells #[.int .u8 0] k) 5
    have e : madeCells #[.int .u8 0] k = ((List.replicate k (0 : UInt8)).map u8).toArray := by
      apply Array.ext'
      rw [toList_madeCells_one]
      simp [u8]
    rw [e] at this ⊢
    exact this
  have hG0 : Grow w (w.alloc (.cells (madeCells #[.int .u8 0] k) 5)) := (Fr.refl _ _).alloc _
  generalize w.alloc (.cells (madeCells #[.int .u8 0] k) 5) = w1 at *
  go_wp2_with fail
  go_loopg [12] k (fun m s12 wr => ∃ i : Nat, m + i = k ∧ s12 = .int .i64 (i : Int) ∧ Hid (Grow w wr ∧ ByteRow wr w.heap.size k))
  case atStart => exact ⟨0, by simp, rfl, Lib.hid ⟨hG0, hR0⟩⟩
  case round =>
    obtain ⟨i, hm, rfl, HI⟩ := hrel
    obtain ⟨l, hl, hB⟩ := HI.out.2
    have hlt := hB.lt
    have hfr := hB.free
    have HB := Lib.hid hB
    by_cases hend : i = k
    · have hne : ¬ (i < k) := by omega
      have hl0 : ∃ c0, l[0]? = some c0 := ⟨_, List.getElem?_eq_getElem (by rw [hl]; omega)⟩
      obtain ⟨c0, hc0⟩ := hl0
      have q0 : wr.cell? ⟨w.heap.size, 0, none⟩ = some (.int .u8 (c0.toNat : Int)) := by
        refine hB.cellAt 0 _ ?_
        rw [← Array.getElem?_toList]
        simp [hc0]
      clear hB hend
      rcases hv with rfl | rfl | rfl
      · go_wp2_with fail
        go_ret
        exact ⟨HI.out.1, _, rfl, HI.out.2, Nat.le_refl _⟩
      · go_wp2_with fail
        go_ret
        refine ⟨HI.out.1.setCell _ _ (.inr (Nat.le_refl _)), _, rfl, ?_, Nat.le_refl _⟩
        obtain ⟨h0, h1⟩ := or_byte c0 64
        rw [u8_of _ h0 h1]
        exact HI.out.2.set _ _
      · go_wp2_with fail
        go_ret
        refine ⟨HI.out.1.setCell _ _ (.inr (Nat.le_refl _)), _, rfl, ?_, Nat.le_refl _⟩
        obtain ⟨h0, h1⟩ := or_byte c0 128
        rw [u8_of _ h0 h1]
        exact HI.out.2.set _ _
    · have hik : i < k := by omega
      obtain ⟨c0, hc0⟩ : ∃ c0, l[k - 1 - i]? = some c0 := ⟨_, List.getElem?_eq_getElem (by rw [hl]; omega)⟩
      have q0 : wr.cell? ⟨w.heap.size, k - 1 - i, none⟩ = some (.int .u8 (c0.toNat : Int)) := by
        refine hB.cellAt _ _ ?_
        rw [← Array.getElem?_toList]
        simp [hc0]
      clear hB hend
      go_wp2_with fail
      go_roundg (gk - 1)
      case measure => omega
      case rel =>
        have e := u8_of ((n : Int) / 2 ^ (8 * i) % 256) (Int.emod_nonneg _ (by omega)) (Int.emod_lt_of_pos _ (by omega))
        refine ⟨i + 1, by omega, by go_num, Lib.hid ⟨HI.out.1.setCell _ _ (.inr (Nat.le_refl _)), ?_⟩⟩
        rw [e]
        exact HI.out.2.set _ _

/-- The reference's state where nothing is received. -/
abbrev cyS (wv : Value) (st : Nat) : Array Value := #[.map none, .int .i64 0, .int .i64 0, .bool false, wv, .int .i64 (st : Int)]

theorem Own.dropB {w : World} {p : Option Addr} {cap k : Nat} {l : List UInt8} (ho : OwnB w (.slice p l.length cap) l) (hkl : k ≤ l.length) (hlc : l.length ≤ cap) :
    OwnB w (.slice (if cap = k then p else p.map (·.add k)) (l.length - k) (cap - k)) (l.drop k) ∧ (Value.slice (if cap = k then p else p.map (·.add k)) (l.length - k) (cap - k)).ownBlock = (Value.slice p l.length cap).ownBlock := by
  obtain ⟨_, p', cap', e, h2, h3, hro⟩ := ho
  injection e with e1 e2 e3
  subst e1 e3
  constructor
  · refine ⟨by simp, _, _, by rw [List.length_drop], by rw [List.length_drop]; omega, by omega, ?_⟩
    rcases hro with hro | ⟨bb, off, cur, rfl, h5, h6, h7⟩
    · exact .inl (by omega)
    · by_cases c : cap = k
      · exact .inl (by omega)
      · rw [if_neg c]
        refine .inr ⟨bb, off + k, cur, ?_, h5, (by have := hlc; omega), fun j u hj => ?_⟩
        · simp only [Option.map_some, Addr.add]; split
          · rename_i hk0
            rw [hk0]; rfl
          · rfl
        · rw [List.map_drop, List.getElem?_drop] at hj
          have := h7 (k + j) u hj
          rwa [show off + k + j = off + (k + j) from by omega]
  · by_cases c : cap = k
    · rw [if_pos c]; cases p <;> rfl
    · rw [if_neg c]; cases p with
      | none => rfl
      | some a => simp only [Option.map_some, Value.ownBlock, Addr.add]; split <;> rfl

set_option maxRecDepth 100000 in
set_option maxHeartbeats 4000000 in
theorem cypop_any (w : World) (b st m k : Nat) (wv : Value) (l : List UInt8) (hb : Blk w b (cyS wv st) 35) (ho : OwnB w wv l) (h12 : 12 ≤ m) (hm : m ≤ 1000) (hbd : st + l.length ≤ 100000) (hk : min (room st m) l.length = k) (hne : ∀ j, wv.ownBlock = some j → j < w.heap.size ∧ j ≠ b) :
    Calls Tryd.prog 19 #[pt b, .int .i64 (m : Int)] w fun e w' => ∃ dv wv', e = .returned (.tuple #[.int .i64 (st : Int), dv]) ∧ OwnB w' dv (l.take k) ∧ (∀ j, dv.ownBlock = some j → w.heap.size ≤ j ∧ j < w'.heap.size) ∧ Blk w' b (cyS wv' (st + k)) 35 ∧ OwnB w' wv' (l.drop k) ∧ wv'.ownBlock = wv.ownBlock ∧ Fr (fun j => j = b) w w' := by
  obtain ⟨_, p, cap, rfl, hlc, hcm, _⟩ := id ho
  have c4 : w.cell? ⟨b, 4, none⟩ = some (.slice p l.length cap) := hb.cellAt 4 _ rfl
  have c5 : w.cell? ⟨b, 5, none⟩ = some (.int .i64 (st : Int)) := hb.cellAt 5 _ rfl
  have hlt := hb.lt
  have HO := Lib.hid ho
  have HB := Lib.hid hb
  have hkl : k ≤ l.length := by rw [← hk]; exact Nat.min_le_right _ _
  have HK := Lib.hid hk
  clear ho hb hk
  go_enter Tryd.func19, Tryd.ntmps19
  go_wp2_with fail
  go_quiet (first | (go_at_call 32; refine Calls.quiet_of_same (flip_world (room_any _ st m (by omega) (by omega) h12))))
  have hite : (if l.length < room st m then (l.length : Int) else (room st m : Int)) = (k : Int) := by
    rw [← HK.out]
    rcases Nat.lt_or_ge l.length (room st m) with c | c
    · rw [if_pos c, Nat.min_eq_right (by omega)]
    · rw [if_neg (by omega), Nat.min_eq_left c]
  rw [hite]
  clear hite c4 c5 hlt
  have hB2 : Blk (w.drewN nq) b (cyS (.slice p l.length cap) st) 35 := HB.out
  have hG2 : Grow w (w.drewN nq) := drewN_grow w nq
  have hO2 : OwnB (w.drewN nq) (.slice p l.length cap) l := HO.out.keep (fun _ _ => rfl)
  have hs2 : (w.drewN nq).heap.size = w.heap.size := rfl
  generalize w.drewN nq = w2 at *
  have HS2 := Lib.hid hs2
  clear hs2
  go_upto_region 2 with fail
  have c4 : w2.cell? ⟨b, 4, none⟩ = some (.slice p l.length cap) := hB2.cellAt 4 _ rfl
  have c5 : w2.cell? ⟨b, 5, none⟩ = some (.int .i64 (st : Int)) := hB2.cellAt 5 _ rfl
  have hlt2 := hB2.lt
  have HS : Hid (∀ w', Grow w2 w' → w'.cell? ⟨b, 4, none⟩ = some (.slice p l.length cap) ∧ w'.cell? ⟨b, 5, none⟩ = some (.int .i64 (st : Int))) := Lib.hid (fun w' hg => ⟨(hg.cell hlt2).trans c4, (hg.cell hlt2).trans c5⟩)
  have hR2 : Rd w2 (.slice p k cap) (l.take k) := hO2.rd.take k hkl
  have HR2 := Lib.hid hR2
  have hk0 : (0 : Int) ≤ (k : Int) := by omega
  have hk1 : (k : Int) ≤ (cap : Int) := by omega
  have hk2 : k ≤ cap := by omega
  have htl : (l.take k).length ≤ 1000000 := by rw [List.length_take]; omega
  have HTK : Hid ((l.take k).length = k) := Lib.hid (by rw [List.length_take]; omega)
  go_region_held3 (fun w' => w'.cell? ⟨b, 4, none⟩ = some (.slice p l.length cap) ∧ w'.cell? ⟨b, 5, none⟩ = some (.int .i64 (st : Int)))
    (first | exact HS.out _ (by repeat (first | exact Fr.refl _ _ | assumption | apply Fr.drew | apply Fr.alloc | refine Fr.trans ?_ (by assumption))))
    (first
      | (refine step_appendB2 (by go_simp) _ _ (by rfl) (.slice (some ⟨w2.heap.size, 0, none⟩) 0 0) _ [] (l.take k) ⟨rfl, _, 0, rfl, Nat.le_refl _, by omega, .inl rfl⟩ (HR2.out.keep (Grow.bytes (by repeat (first | exact Fr.refl _ _ | assumption | apply Fr.drew | apply Fr.alloc | refine Fr.trans ?_ (by assumption))))) (by simp only [List.length_nil]; omega) (by rfl) (by rfl) ?_; intro v3 w3 hO3 hF3 hf3; have hG3 : Grow w2 w3 := Grow.trans' (by repeat (first | exact Fr.refl _ _ | assumption | apply Fr.drew | apply Fr.alloc | refine Fr.trans ?_ (by assumption))) hF3 (fun k hk => Nat.le_of_eq (Option.some.inj hk)); obtain ⟨p3, c3, rfl, hR3⟩ := hO3.rd.int (n := k) HTK.out))
  go_upto_region 3 with fail
  have hB3 : Blk w3 b (cyS (.slice p l.length cap) st) 35 := hG3.blk hB2 (fun e => e)
  have q4 : w3.cell? ⟨b, 4, none⟩ = some (.slice p l.length cap) := hB3.cellAt 4 _ rfl
  have q5 : w3.cell? ⟨b, 5, none⟩ = some (.int .i64 (st : Int)) := hB3.cellAt 5 _ rfl
  have hlt3 := hB3.lt
  have hfr3 := hB3.free
  have hk3 : (k : Int) ≤ (l.length : Int) := by omega
  clear c4 c5 hlt2
  go_region
  obtain ⟨hD, hDo⟩ := Own.dropB hO2 hkl hlc
  have hDs : ∃ n c q, Value.slice (if cap = k then p else p.map (·.add k)) (l.length - k) (cap - k) = .slice q n c := ⟨_, _, _, rfl⟩
  generalize Value.slice (if cap = k then p else p.map (·.add k)) (l.length - k) (cap - k) = wv' at *
  obtain ⟨qn, qc, qp, rfl⟩ := hDs
  have hcast : (st : Int) + (k : Int) = ((st + k : Nat) : Int) := by omega
  rw [hcast]
  have hB4 := (hB3.set 5 (.int .i64 ((st + k : Nat) : Int))).set 4 (.slice qp qn qc)
  have hFb : Fr (fun j => j = b) w3 ((w3.setCell ⟨b, 5, none⟩ (.int .i64 ((st + k : Nat) : Int))).setCell ⟨b, 4, none⟩ (.slice qp qn qc)).drew := by repeat (first | exact Fr.refl _ _ | apply Fr.drew | refine Fr.setCell ?_ _ _ (.inl rfl))
  have hszb : ((w3.setCell ⟨b, 5, none⟩ (.int .i64 ((st + k : Nat) : Int))).setCell ⟨b, 4, none⟩ (.slice qp qn qc)).drew.heap.size = w3.heap.size := by simp
  have hB5 : Blk ((w3.setCell ⟨b, 5, none⟩ (.int .i64 ((st + k : Nat) : Int))).setCell ⟨b, 4, none⟩ (.slice qp qn qc)).drew b (cyS (.slice qp qn qc) (st + k)) 35 := hB4
  clear hB4 hcast q4 q5 hlt3 hfr3
  generalize ((w3.setCell ⟨b, 5, none⟩ (.int .i64 ((st + k : Nat) : Int))).setCell ⟨b, 4, none⟩ (.slice qp qn qc)).drew = w4 at *
  have H1 := Lib.hid hFb
  have H2 := Lib.hid hszb
  have H3 := Lib.hid hB5
  have H4 := Lib.hid hD
  have H5 := Lib.hid hDo
  clear hFb hszb hB5 hD hDo
  go_wp2_with fail
  go_ret2
  have hsz3 := hG3.size
  have hsz2 := HS2.out
  have hbn : ∀ j, j = b → ¬ BytesBlk w3 j := fun j hj => by rw [hj]; exact hB3.noBytes (by decide)
  have hO4 : OwnB w3 (.slice p3 k c3) (l.take k) := by have := hO3; rwa [List.nil_append] at this
  have hlt4 : ∀ j, (Value.slice p3 k c3).ownBlock = some j → w.heap.size ≤ j ∧ j < w3.heap.size := fun j hj => by
    rcases hf3 j hj with e | e
    · have e1 : w2.heap.size = j := Option.some.inj e
      have := HB.out.lt
      have hw2 : w2.heap.size < w3.heap.size := Nat.lt_of_lt_of_le (by simp) hF3.size
      omega
    · have e1 : w2.heap.size + 1 ≤ j := by simpa using e.1
      exact ⟨by omega, e.2⟩
  refine ⟨_, _, rfl, hO4.keep (fun j hj => H1.out.block j (hlt4 j hj).2 (fun e => by have e : j = b := e; have := (hlt4 j hj).1; have := HB.out.lt; omega)), fun j hj => ⟨(hlt4 j hj).1, by rw [H2.out]; exact (hlt4 j hj).2⟩, H3.out, ?_, H5.out, (Grow.to (hG2.trans hG3)).trans H1.out⟩
  refine H4.out.keep (fun j hj => ?_)
  rw [H5.out] at hj
  have hj2 := hne j hj
  exact (H1.out.block j (by omega) (fun e => hj2.2 e)).trans (hG3.block j (by omega) (fun e => e))

theorem ByteRow.own {w : World} {b k : Nat} (h : ByteRow w b k) (hk : 0 < k) (hk2 : k ≤ 1000000) : ∃ l, l.length = k ∧ OwnB w (.slice (some ⟨b, 0, none⟩) k k) l := by
  obtain ⟨l, hl, hB⟩ := h
  refine ⟨l, hl, by simp, _, k, by rw [hl], by rw [hl]; exact Nat.le_refl _, by omega, .inr ⟨b, 0, _, rfl, hB, by simp [hl], fun j u hj => ?_⟩⟩
  rw [Nat.zero_add, ← Array.getElem?_toList]
  exact hj

theorem own_one (w : World) (x : UInt8) : OwnB (w.alloc (.cells #[u8 x] 5)) (.slice (some ⟨w.heap.size, 0, none⟩) 1 1) [x] := by
  refine ⟨rfl, _, 1, rfl, Nat.le_refl _, by omega, .inr ⟨w.heap.size, 0, _, rfl, heap_alloc_new w _, by simp, fun j u hj => ?_⟩⟩
  rw [Nat.zero_add, ← Array.getElem?_toList]
  exact hj
theorem Own.int {w : World} {v : Value} {l : List UInt8} {n : Nat} (h : OwnB w v l) (hn : l.length = n) : ∃ p c, v = .slice p n c ∧ OwnB w (.slice p n c) l := by
  subst hn
  obtain ⟨_, p, c, rfl, _⟩ := id h
  exact ⟨p, c, rfl, h⟩

set_option maxRecDepth 100000 in
set_option maxHeartbeats 1000000 in
theorem crypto_any (w : World) (o n : Nat) (p : Option Addr) (c : Nat) (l : List UInt8) (hl : l.length = n) (hr : Rd w (.slice p n c) l) (ho : o ≤ 1000000) (hn : n ≤ 100000) :
    Calls Tryd.prog 18 #[.int .i64 (o : Int), .slice p n c] w fun e w' => Grow w w' ∧ ∃ q d, e = .returned (.slice q (1 + vlen o + vlen n + n) d) := by
  obtain ⟨_, _, e, hnc, hcm, _⟩ := id hr
  injection e with e1 e2 e3
  subst e1 e3
  have HR := Lib.hid hr
  have hvo := vlen_le o
  have hvn := vlen_le n
  clear hr e2
  go_enter Tryd.func18, Tryd.ntmps18
  have hvo1 := hvo.1
  have hvo2 := hvo.2
  have hvn1 := hvn.1
  have hvn2 := hvn.2
  generalize hvoe : vlen o = vo at *
  generalize hvne : vlen n = vn at *
  have HVO : ∀ w, Hid (Calls Tryd.prog 31 #[.int .u64 (o : Int)] w fun e w' => Grow w w' ∧ ∃ b, e = .returned (.slice (some ⟨b, 0, none⟩) vo vo) ∧ ByteRow w' b vo ∧ w.heap.size ≤ b) := fun w => Lib.hid (by rw [← hvoe]; exact number_any w o ho)
  have HVN : ∀ w, Hid (Calls Tryd.prog 31 #[.int .u64 (n : Int)] w fun e w' => Grow w w' ∧ ∃ b, e = .returned (.slice (some ⟨b, 0, none⟩) vn vn) ∧ ByteRow w' b vn ∧ w.heap.size ≤ b) := fun w => Lib.hid (by rw [← hvne]; exact number_any w n (by omega))
  have HVO2 := Lib.hid HVO
  have HVN2 := Lib.hid HVN
  clear hvo hvn hvoe hvne HVO HVN
  have hGa : Grow w (w.alloc (.cells #[u8 6] 5)) := (Fr.refl _ _).alloc _
  have HGa := Lib.hid hGa
  clear hGa
  go_upto_region 2 with (first
    | (go_at_call 31; refine (HVO2.out _).out.mono ?_; rintro e w1 ⟨hG1, b1, rfl, hB1, hb1⟩; obtain ⟨l1, hl1, hO1⟩ := hB1.own (by omega) (by omega); have hA1 : OwnB w1 (.slice (some ⟨w.heap.size, 0, none⟩) 1 1) [6] := (own_one w 6).grow hG1 (.inl (by decide)); have hlen1 : [(6 : UInt8)].length + l1.length ≤ 1000000 := (by rw [hl1]; simp; omega); have Hlen1 := Lib.hid hlen1; have Hl1 := Lib.hid hl1; clear hlen1 hl1)
    | (at_builtin; refine wpList_appendB _ rfl _ _ rfl (.slice (some ⟨w.heap.size, 0, none⟩) 1 1) _ [6] l1 hA1 hO1.rd Hlen1.out rfl rfl ?_; intro v2 w2 hO2 hF2 hf2; obtain ⟨p2, c2, rfl, hO2⟩ := hO2.int (n := 1 + vo) (by rw [List.length_append, Hl1.out]; rfl)))
  have hG2 : Grow w w2 := Grow.trans' (HGa.out.trans hG1) hF2 (fun k hk => Nat.le_of_eq (Option.some.inj hk))
  have HG2 := Lib.hid hG2
  have HO2 := Lib.hid hO2
  have hf2' : ∀ k, (Value.slice p2 (1 + vo) c2).ownBlock = some k → w.heap.size ≤ k := fun k hk => by
    rcases hf2 k hk with e | e
    · exact Nat.le_of_eq (Option.some.inj e)
    · exact Nat.le_trans (HGa.out.trans hG1).size e
  have Hf2 := Lib.hid hf2'
  clear hG2 hO2 hf2' hf2 hF2 hG1 hB1 hO1 hA1 hb1
  have hLEN : ([6] ++ l1).length = 1 + vo := by rw [List.length_append, Hl1.out]; rfl
  have HLEN := Lib.hid hLEN
  clear hLEN
  go_wp2_with (first
    | (go_at_call 31; refine (HVN2.out _).out.mono ?_; rintro e w3 ⟨hG3, b3, rfl, hB3, hb3⟩; obtain ⟨l3, hl3, hO3⟩ := hB3.own (by omega) (by omega); have hlen3 : ([6] ++ l1).length + l3.length ≤ 1000000 := (by rw [HLEN.out, hl3]; omega); have Hlen3 := Lib.hid hlen3; have Hl3 := Lib.hid hl3; have hA3 : OwnB w3 (.slice p2 (1 + vo) c2) ([6] ++ l1) := HO2.out.grow hG3 (.inl (by rw [HLEN.out]; omega)); clear hlen3 hl3)
    | (at_builtin; refine wpList_appendB _ rfl (.tmp 11) (.tmp 15) rfl (.slice p2 (1 + vo) c2) _ ([6] ++ l1) l3 hA3 hO3.rd Hlen3.out rfl rfl ?_; intro v4 w4 hO4 hF4 hf4; obtain ⟨p4, c4, rfl, hO4⟩ := hO4.int (n := 1 + vo + vn) (by rw [List.length_append, HLEN.out, Hl3.out]); have hG4 : Grow w w4 := Grow.trans' (HG2.out.trans hG3) hF4 Hf2.out; have hlen4 : (([6] ++ l1) ++ l3).length + l.length ≤ 1000000 := (by rw [List.length_append, HLEN.out, Hl3.out]; omega); have Hlen4 := Lib.hid hlen4; clear hlen4; have hf4' : ∀ k, (Value.slice p4 (1 + vo + vn) c4).ownBlock = some k → w.heap.size ≤ k := fun k hk => (hf4 k hk).elim (fun e => Hf2.out k e) (fun e => Nat.le_trans (HG2.out.trans hG3).size e); have Hf4 := Lib.hid hf4'; clear hf4')
    | (at_builtin; refine wpList_appendB _ rfl (.tmp 16) (.tmp 17) rfl (.slice p4 (1 + vo + vn) c4) _ (([6] ++ l1) ++ l3) l hO4 (HR.out.keep hG4.bytes) Hlen4.out rfl rfl ?_; intro v5 w5 hO5 hF5 hf5; obtain ⟨p5, c5, rfl, hO5⟩ := hO5.int (n := 1 + vo + vn + n) (by rw [List.length_append, List.length_append, HLEN.out, Hl3.out, hl])))
  go_ret
  exact ⟨Grow.trans' hG4 hF5 Hf4.out, p5, c5, rfl⟩
end Go.Proofs.YtdhhccpeikhilaaDoor
