/- The reader of frames: take, byte, number. -/
import Derived.Test.YtgdkbflhgcchfaaA9
import Derived.IntWalk
namespace Go.Proofs.Ytgdkbflhgcchfaa
open Go.RowKit

/-- A reader in memory, at the bytes l. -/
def PkAt (w : World) (p : Nat) (l : List UInt8) : Prop := ∃ d, Rd w d l ∧ Blk w p #[d, .bool false] 96
theorem PkAt.grow {w w' : World} {p : Nat} {l : List UInt8} (h : PkAt w p l) (hG : Grow w w') : PkAt w' p l := by
  obtain ⟨d, h1, h2⟩ := h
  exact ⟨d, h1.keep hG.bytes, hG.blk h2 (fun e => e)⟩
/-- What an act of the reader leaves. -/
structure PkOut (w w' : World) (p : Nat) (l : List UInt8) : Prop where
  at' : PkAt w' p l
  fr : Fr (fun k => k = p) w w'
set_option maxRecDepth 100000 in
theorem take_ok (w : World) (p : Nat) (l : List UInt8) (n : Nat) (h : PkAt w p l) (hn : n ≤ l.length) (hl : l.length ≤ 100000) :
    Calls Try.prog 42 #[pt p, .int .i64 (n : Int)] w fun e w' => (∃ v', e = .returned v' ∧ OwnB w' v' (l.take n) ∧ ∀ k, v'.ownBlock = some k → w.heap.size ≤ k ∧ k < w'.heap.size) ∧ PkOut w w' p (l.drop n) := by
  obtain ⟨d, hd, hB⟩ := h
  obtain ⟨pd, c, rfl, hlc, hc, hr⟩ := id hd
  have c0 : w.cell? ⟨p, 0, none⟩ = some (.slice pd l.length c) := hB.cellAt 0 _ rfl
  have c1 : w.cell? ⟨p, 1, none⟩ = some (.bool false) := hB.cellAt 1 _ rfl
  have hlt := hB.lt
  have hf := hB.free
  have d1 : decide ((n : Int) < 0) = false := decide_eq_false (by omega)
  have d2 : decide (l.length < n) = false := decide_eq_false (by omega)
  have hnc : n ≤ c := by omega
  have HD := Lib.hid (And.intro hd hB)
  clear hd hB hr
  go_enter Try.func42, Try.ntmps42
  have HR := Lib.hid ((HD.out.1.take n hn).keep (w' := w.alloc (.cells #[] 5)) (Grow.bytes ((Fr.refl _ w).alloc _)))
  have HN : Hid (∀ (v' : Value) (w' : World), OwnB w' v' ([] ++ l.take n) → Fr (fun k => (Value.slice (some ⟨w.heap.size, 0, none⟩) 0 0).ownBlock = some k) (w.alloc (.cells #[] 5)) w' → Grow w w' ∧ w.heap.size < w'.heap.size) := Lib.hid fun v' w' _ hF =>
    ⟨Grow.trans' ((Fr.refl _ w).alloc (.cells #[] 5)) hF (fun k hk => by have : w.heap.size = k := Option.some.inj hk; omega), by have := hF.size; rw [size_alloc] at this; omega⟩
  have HT := Lib.hid (HD.out.1.drop n hn)
  go_wp2_with (at_builtin; refine wpList_appendB2 _ rfl _ _ rfl (.slice (some ⟨w.heap.size, 0, none⟩) 0 0) (.slice pd n c) [] (l.take n) ⟨rfl, _, 0, rfl, Nat.le_refl _, by omega, .inl rfl⟩ HR.out (by simp; omega) rfl rfl ?_; intro v' w' ho hF hf; have HG := Lib.hid (HN.out v' w' ho hF); have g0 := (HG.out.1.cell hlt).trans c0; have g1 := (HG.out.1.cell hlt).trans c1; have hlt' := Nat.lt_of_lt_of_le hlt HG.out.1.size; have hf' := (HG.out.1.blk HD.out.2 (fun e => e)).free; have HV := Lib.hid (And.intro ho hf); clear ho hF hf)
  all_goals (
    refine bodyPost_ret (v := v') (by simp [results, Try.results42, go_sem]) rfl ?_
    obtain ⟨ho, hf2⟩ := HV.out
    have hB' := HG.out.1.blk HD.out.2 (fun e => e)
    have hs := HG.out.2
    have hT := HT.out
    refine ⟨⟨v', rfl, ?_, fun k hk => ?_⟩, ⟨_, ?_, hB'.set 0 _⟩, HG.out.1.to.setCell _ _ (.inl rfl)⟩
    · refine Own.keep ho (fun b hb => Below.heap_setCell _ _ _ _ (fun e => ?_))
      have e : b = p := e
      subst e
      rcases hf2 _ hb with h | h
      · have : w.heap.size = b := Option.some.inj h
        omega
      · rw [size_alloc] at h; omega
    · rcases hf2 _ hk with h | h
      · have : w.heap.size = k := Option.some.inj h
        exact ⟨by omega, by rw [World.size_setCell]; omega⟩
      · rw [size_alloc] at h; exact ⟨by omega, by rw [World.size_setCell]; omega⟩
    · first | (rw [if_pos (by assumption), show c - n = 0 by omega] at hT) | (rw [if_neg (by assumption)] at hT)
      exact (hT.keep HG.out.1.bytes).set hB' (by decide) 0 _)
theorem take_int (w : World) (p : Nat) (l : List UInt8) (z : Int) (n : Nat) (hz : z = (n : Int)) (h : PkAt w p l) (hn : n ≤ l.length) (hl : l.length ≤ 100000) :
    Calls Try.prog 42 #[pt p, .int .i64 z] w fun e w' => (∃ v', e = .returned v' ∧ OwnB w' v' (l.take n) ∧ ∀ k, v'.ownBlock = some k → w.heap.size ≤ k ∧ k < w'.heap.size) ∧ PkOut w w' p (l.drop n) := by
  subst hz; exact take_ok w p l n h hn hl
set_option maxRecDepth 100000 in
theorem byte_ok (w : World) (p : Nat) (x : UInt8) (l : List UInt8) (h : PkAt w p (x :: l)) (hl : l.length ≤ 99999) :
    Calls Try.prog 43 #[pt p] w fun e w' => e = .returned (u8 x) ∧ PkOut w w' p l := by
  have HT := Lib.hid (take_int w p (x :: l) 1 1 rfl h (by simp) (by simp; omega))
  clear h
  go_enter Try.func43, Try.ntmps43
  go_wp2_with fail
  refine HT.out.mono ?_
  rintro e w2 ⟨⟨v', rfl, ho, _⟩, hO⟩
  have hs1 : (List.take 1 (x :: l)) = [x] := by simp
  have hs2 : (List.drop 1 (x :: l)) = l := by simp
  rw [hs1] at ho
  rw [hs2] at hO
  obtain ⟨d, hd, hB⟩ := hO.at'
  obtain ⟨p1, c1, rfl, hr⟩ := ho.rd.int (n := 1) rfl
  have b1 : w2.cell? ⟨p, 1, none⟩ = some (.bool false) := hB.cellAt 1 _ rfl
  obtain ⟨_, _, hh, h1, h2, h3⟩ := id hr
  injection hh with hh1 hh2 hh3
  subst hh1 hh3
  have HO := Lib.hid hO
  obtain ⟨b, o, rfl, hb, hx⟩ := h3 (by simp)
  have x0 : w2.cell? ⟨b, o, none⟩ = some (u8 x) := by have := hx 0 x rfl; simpa using this
  have hlt := hB.lt
  have hbl := hb.lt
  clear hO hd hr ho hb hx h3 hs1 hs2 hh2
  have h1 : 1 ≤ c1 := h1
  go_wp2_with fail
  go_ret
  exact ⟨rfl, HO.out⟩

/-- Numbers, read. -/
theorem b8_toNat (n : Nat) : (b8 n).toNat = n % 256 := by simp [b8]
def val (a : Nat) (l : List UInt8) : Nat := l.foldl (fun a c => a * 256 + c.toNat) a
set_option maxRecDepth 100000 in
theorem V_read (n : Nat) (hn : n ≤ 4611686018427387903) : ∃ x l q, V n = x :: l ∧ x.toNat / 64 = q ∧ l.length + 1 = 2 ^ q ∧ q ≤ 3 ∧ val (x.toNat % 64) l = n := by
  unfold V
  split
  · exact ⟨_, _, 0, rfl, by rw [b8_toNat]; omega, rfl, by omega, by simp only [val, List.foldl, b8_toNat]; omega⟩
  · split
    · exact ⟨_, _, 1, rfl, by rw [b8_toNat]; omega, rfl, by omega, by simp only [val, List.foldl, b8_toNat]; omega⟩
    · split
      · exact ⟨_, _, 2, rfl, by rw [b8_toNat]; omega, rfl, by omega, by simp only [val, List.foldl, b8_toNat]; omega⟩
      · exact ⟨_, _, 3, rfl, by rw [b8_toNat]; omega, rfl, by omega, by simp only [val, List.foldl, b8_toNat]; omega⟩
theorem val_lt : ∀ (l : List UInt8) (a k : Nat), a < k → val a l < k * 256 ^ l.length
  | [], a, k, h => by simpa [val] using h
  | c :: l, a, k, h => by
    have := val_lt l (a * 256 + c.toNat) (k * 256) (by have := c.toNat_lt; omega)
    show val (a * 256 + c.toNat) l < _
    rw [List.length_cons, Nat.pow_succ, Nat.mul_comm (256 ^ l.length) 256, ← Nat.mul_assoc]
    exact this
theorem val_snoc (a : Nat) (l : List UInt8) (c : UInt8) : val a (l ++ [c]) = val a l * 256 + c.toNat := by simp [val]
theorem or_low (a c : Nat) (hc : c < 256) : (a * 256) ||| c = a * 256 + c := by
  have := Nat.shiftLeft_add_eq_or_of_lt (a := a) (b := c) (i := 8) hc
  rw [Nat.shiftLeft_eq] at this
  exact this.symm
set_option maxRecDepth 100000 in
set_option maxHeartbeats 400000 in
theorem number_ok (w : World) (p n : Nat) (l : List UInt8) (h : PkAt w p (V n ++ l)) (hn : n ≤ 4611686018427387903) (hl : l.length ≤ 90000) :
    Calls Try.prog 39 #[pt p] w fun e w' => e = .returned (.int .u64 (n : Int)) ∧ PkOut w w' p l := by
  obtain ⟨x, bs, q, hV, hq, hbl, hq3, hval⟩ := V_read n hn
  rw [hV, List.cons_append] at h
  have h16 : 2 ^ q ≤ 8 := by
    have : q = 0 ∨ q = 1 ∨ q = 2 ∨ q = 3 := by omega
    rcases this with rfl | rfl | rfl | rfl <;> decide
  have HB := Lib.hid (byte_ok w p x (bs ++ l) h (by simp; omega))
  clear h
  have hq2 : (x.toNat : Int) / 64 = (q : Int) := by omega
  have hpw : (2 : Int) ^ q = (bs.length : Int) + 1 := by
    have : ((2 ^ q : Nat) : Int) = (2 : Int) ^ q := by simp
    omega
  have hb7 : bs.length ≤ 7 := by omega
  clear hbl h16
  go_enter Try.func39, Try.ntmps39
  go_wp2_with fail
  refine HB.out.mono ?_
  rintro e w2 ⟨rfl, hO⟩
  go_wp2_with fail
  have HT := Lib.hid (take_ok w2 p (bs ++ l) bs.length hO.at' (by simp) (by simp; omega))
  have hF2 := hO.fr
  clear hO
  refine HT.out.mono ?_
  rintro e w3 ⟨⟨v', rfl, ho, _⟩, hO⟩
  rw [List.take_left] at ho
  rw [List.drop_left] at hO
  obtain ⟨p3, c3, rfl, hr⟩ := ho.rd.int rfl
  have HO : Hid (PkOut w w3 p l) := Lib.hid ⟨hO.at', hF2.trans hO.fr⟩
  have HR := Lib.hid hr
  clear hO hF2 ho hr
  go_wp2_with fail
  go_loopg [4, 19] bs.length (fun k s4 s19 wr => ∃ i : Nat, k + i = bs.length ∧ s19 = .int .i64 (i : Int) ∧ s4 = .int .u64 ((val (x.toNat % 64) (bs.take i) : Nat) : Int) ∧ wr = w3)
  case atStart => exact ⟨0, by simp, rfl, by simp [val], rfl⟩
  case round =>
    obtain ⟨i, hk, rfl, rfl, rfl⟩ := hrel
    by_cases hend : i = bs.length
    · have hne : ¬ (i < bs.length) := by omega
      have hv2 : val (x.toNat % 64) (bs.take i) = n := by rw [hend, List.take_length]; exact hval
      rw [hv2]
      go_wp2_with fail
      go_ret
      exact ⟨rfl, HO.out⟩
    · have hi : i < bs.length := by omega
      have hbi : bs[i]? = some (bs[i]'hi) := List.getElem?_eq_getElem hi
      have htk : bs.take (i + 1) = bs.take i ++ [bs[i]'hi] := by rw [List.take_add_one, hbi]; rfl
      generalize bs[i]'hi = c at hbi htk
      obtain ⟨_, _, hh, h1, h2, h3⟩ := id HR.out
      injection hh with hh1 hh2 hh3
      subst hh1
      obtain ⟨b, o, rfl, hb, hx⟩ := h3 (by intro e; rw [e] at hi; exact absurd hi (by simp))
      have x0 : wr.cell? ⟨b, o + i, none⟩ = some (u8 c) := hx i c hbi
      have hbl := hb.lt
      clear hb hx hh2 hh3 h3 h1 h2
      generalize hA : val (x.toNat % 64) (bs.take i) = A at *
      have hAl : A < 64 * 256 ^ 6 := by
        have h1 := val_lt (bs.take i) (x.toNat % 64) 64 (by omega)
        rw [hA, List.length_take] at h1
        have h2 : 256 ^ (min i bs.length) ≤ 256 ^ 6 := Nat.pow_le_pow_right (by decide) (by omega)
        omega
      go_wp2_with fail
      go_roundg (gk - 1)
      case measure => omega
      case rel => 
        refine ⟨i + 1, by omega, by go_num, ?_, rfl⟩
        rw [htk, val_snoc, hA]
        rw [show IntKind.u64.wrap (c.toNat : Int) = (c.toNat : Int) from by rw [IntKind.wrap_u64]; have := c.toNat_lt; omega]
        have h1 := u64_or_nat (A * 256) c.toNat (by omega) (by have := c.toNat_lt; omega)
        rw [or_low A c.toNat c.toNat_lt] at h1
        rw [← h1]
        simp
end Go.Proofs.Ytgdkbflhgcchfaa
