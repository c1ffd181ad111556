/- The plain law of FnCYHello: what the machine's pops give, in plain numbers and lists. -/
import Derived.Test.YtdhhccpeikhilaaDoorJ2
import Derived.Test.YtdhhccpeikhilaaDoorF3
namespace Go.Proofs.YtdhhccpeikhilaaDoor

def HGood (P : HP) : HS → Prop
  | .wr l => P.scr = false ∧ l = P.H
  | .plain off l => off ≤ P.N ∧ l = P.H.drop off ∧ (P.scr = true → off = P.N)
  | .seg wo => P.scr = true ∧ (wo < P.p ∨ (P.q ≤ wo ∧ wo < P.N))
  | .cut v => P.scr = true ∧ P.p ≤ v ∧ v < P.q
/-- Which bytes were sent. -/
def HS.sent (P : HP) : HS → Nat → Bool
  | .wr _, _ => false
  | .plain off _, i => decide (i < off)
  | .seg wo, i => if wo < P.p then decide (i < wo) else (decide (i < P.p) || (decide (P.q ≤ i) && decide (i < wo)))
  | .cut v, i => (decide (i < v) || (decide (P.q ≤ i) && decide (i < P.N)))
def HS.count (P : HP) : HS → Nat
  | .wr _ => 0
  | .plain off _ => off
  | .seg wo => if wo < P.p then wo else wo - (P.q - P.p)
  | .cut v => P.N - (P.q - v)
/-- How many parts are left, at most. -/
def HS.parts (P : HP) : HS → Nat
  | .wr _ => 1
  | .plain off _ => if off < P.N then 1 else 0
  | .seg wo => if wo < P.p then 3 else 2
  | .cut _ => 1

theorem room_36 {o m : Nat} (ho : o ≤ 700) (hm : 40 ≤ m) : 36 ≤ room o m := by
  have hv : vlen o ≤ 2 := by
    unfold vlen; split
    · omega
    · split
      · omega
      · omega
  have hv1 := (vlen_le o).1
  unfold room
  rw [if_neg (by omega)]
  split <;> omega
theorem room_len {o m n : Nat} (ho : o ≤ 700) (hm : 40 ≤ m) (hm2 : m ≤ 1400) (hn : n ≤ room o m) : 1 + vlen o + vlen n + n ≤ m := by
  have hv : vlen o ≤ 2 := by
    unfold vlen; split
    · omega
    · split
      · omega
      · omega
  have hv1 := (vlen_le o).1
  unfold room at hn
  rw [if_neg (by omega)] at hn
  split at hn
  · rw [vlen_lo (n := n) (by omega)]; omega
  · rcases Nat.lt_or_ge n 64 with h | h
    · rw [vlen_lo h]; omega
    · rw [vlen_mid h (by omega)]; omega

theorem num_le (P : HP) (s : HS) (m : Nat) : s.num P m ≤ room s.off m ∧ s.num P m ≤ (s.rest P).length := ⟨Nat.min_le_left _ _, Nat.min_le_right _ _⟩

/-- WHAT A POP GIVES at a good state that has something. -/
structure PopLaw (P : HP) (s : HS) (m n : Nat) : Prop where
  pos : 0 < n
  fits : s.off + n ≤ P.N
  data : (s.rest P).take n = (P.H.drop s.off).take n
  len : ((s.rest P).take n).length = n
  wire : 1 + vlen s.off + vlen n + n ≤ m
  apart : P.scr = true → 1 < P.host.length → s.off ≤ namePos P.a → namePos P.a + P.host.length ≤ s.off + n → False
  fresh : ∀ i, s.off ≤ i → i < s.off + n → s.sent P i = false
  good : HGood P (s.popped P n)
  sent : ∀ i, (s.popped P n).sent P i = (s.sent P i || (decide (s.off ≤ i) && decide (i < s.off + n)))
  count : (s.popped P n).count P = s.count P + n
  less : (s.popped P n).parts P * 36 + (P.N - (s.popped P n).count P) + 36 ≤ s.parts P * 36 + (P.N - s.count P)

theorem drop_take_len (H : List UInt8) (o n : Nat) (h : o + n ≤ H.length) : ((H.drop o).take n).length = n := by
  rw [List.length_take, List.length_drop]; omega

theorem pop_law (P : HP) (hP : P.Ok) (s : HS) (m : Nat) (hG : HGood P s) (hh : s.has P = true) (hm : 40 ≤ m) (hm2 : m ≤ 1400) : PopLaw P s m (s.num P m) := by
  have hbd := hP.bounds
  have e1 : P.H.length = P.N := rfl
  have hp : P.p = namePos P.a + P.host.length / 2 := rfl
  have hq : P.q = namePos P.a + P.host.length := rfl
  cases s with
  | wr l =>
    obtain ⟨hs, rfl⟩ := hG
    have hr := room_36 (o := 0) (m := m) (by omega) hm
    have hnum : (HS.wr P.H).num P m = min (room 0 m) P.N := rfl
    obtain ⟨n, hn⟩ : ∃ n, n = (HS.wr P.H).num P m := ⟨_, rfl⟩
    rw [← hn]
    rw [hnum] at hn
    have hn1 : n ≤ room 0 m := by rw [hn]; exact Nat.min_le_left _ _
    have hn2 : n ≤ P.N := by rw [hn]; exact Nat.min_le_right _ _
    have hn3 : n = P.N ∨ 36 ≤ n := by omega
    have hpop : (HS.wr P.H).popped P n = .plain n (P.H.drop n) := rfl
    refine ⟨by omega, by show 0 + n ≤ P.N; omega, rfl, by show (P.H.take n).length = n; rw [List.length_take]; omega, room_len (by show 0 ≤ 700; omega) hm hm2 hn1, (fun e => by rw [hs] at e; cases e), fun _ _ _ => rfl, ⟨hn2, rfl, (fun e => by rw [hs] at e; cases e)⟩, fun i => ?_, ?_, ?_⟩
    · rw [hpop]; show decide (i < n) = (false || (decide (0 ≤ i) && decide (i < 0 + n))); simp
    · rw [hpop]; show n = 0 + n; omega
    · rw [hpop]; show (if n < P.N then 1 else 0) * 36 + (P.N - n) + 36 ≤ 1 * 36 + (P.N - 0); split <;> omega
  | plain off l =>
    obtain ⟨ho, rfl, hsc⟩ := hG
    have hlen : (P.H.drop off).length = P.N - off := by rw [List.length_drop, e1]
    have hpos : 0 < (P.H.drop off).length := of_decide_eq_true hh
    have hr := room_36 (o := off) (m := m) (by omega) hm
    have hnum : (HS.plain off (P.H.drop off)).num P m = min (room off m) (P.H.drop off).length := rfl
    obtain ⟨n, hn⟩ : ∃ n, n = (HS.plain off (P.H.drop off)).num P m := ⟨_, rfl⟩
    rw [← hn]
    rw [hnum, hlen] at hn
    have hn1 : n ≤ room off m := by rw [hn]; exact Nat.min_le_left _ _
    have hn2 : n ≤ P.N - off := by rw [hn]; exact Nat.min_le_right _ _
    have hn3 : n = P.N - off ∨ 36 ≤ n := by omega
    have hpop : (HS.plain off (P.H.drop off)).popped P n = .plain (off + n) (P.H.drop (off + n)) := by show HS.plain (off + n) ((P.H.drop off).drop n) = _; rw [List.drop_drop]
    refine ⟨by omega, by show off + n ≤ P.N; omega, rfl, drop_take_len _ _ _ (by omega), room_len (by show off ≤ 700; omega) hm hm2 hn1, fun e _ h1 h2 => ?_, fun i h1 h2 => ?_, ?_, fun i => ?_, ?_, ?_⟩
    · have := hsc e; omega
    · exact decide_eq_false (by have h1 : off ≤ i := h1; omega)
    · rw [hpop]; exact ⟨by omega, rfl, fun e => by have := hsc e; omega⟩
    · rw [hpop]; show decide (i < off + n) = (decide (i < off) || (decide (off ≤ i) && decide (i < off + n)))
      rw [Bool.eq_iff_iff]; simp; omega
    · rw [hpop]; rfl
    · rw [hpop]; show (if off + n < P.N then 1 else 0) * 36 + (P.N - (off + n)) + 36 ≤ (if off < P.N then 1 else 0) * 36 + (P.N - off); split <;> split <;> omega
  | seg wo =>
    obtain ⟨hs, hw⟩ := hG
    have hrest : (HS.seg wo).rest P = (P.H.drop wo).take ((if wo < P.p then P.p else P.N) - wo) := rfl
    obtain ⟨lim, hlim⟩ : ∃ lim, lim = (if wo < P.p then P.p else P.N) := ⟨_, rfl⟩
    rw [← hlim] at hrest
    have hl2 : wo < lim ∧ lim ≤ P.N := by rw [hlim]; split <;> omega
    have hlen : ((HS.seg wo).rest P).length = lim - wo := by rw [hrest]; exact drop_take_len _ _ _ (by omega)
    have hr := room_36 (o := wo) (m := m) (by omega) hm
    have hnum : (HS.seg wo).num P m = min (room wo m) (lim - wo) := by unfold HS.num; rw [hlen]; rfl
    obtain ⟨n, hn⟩ : ∃ n, n = (HS.seg wo).num P m := ⟨_, rfl⟩
    rw [← hn]
    rw [hnum] at hn
    have hn1 : n ≤ room wo m := by rw [hn]; exact Nat.min_le_left _ _
    have hn2 : n ≤ lim - wo := by rw [hn]; exact Nat.min_le_right _ _
    have hn3 : n = lim - wo ∨ 36 ≤ n := by omega
    have hnp : 0 < n := by omega
    have hdata : ((HS.seg wo).rest P).take n = (P.H.drop wo).take n := by rw [hrest, List.take_take, Nat.min_eq_left hn2]
    have hpop : (HS.seg wo).popped P n = if wo + n = P.p then .seg P.q else if wo + n = P.N then .cut P.p else .seg (wo + n) := rfl
    have hsent : ∀ i, (HS.seg wo).sent P i = if wo < P.p then decide (i < wo) else (decide (i < P.p) || (decide (P.q ≤ i) && decide (i < wo))) := fun _ => rfl
    have hcount : (HS.seg wo).count P = if wo < P.p then wo else wo - (P.q - P.p) := rfl
    have hparts : (HS.seg wo).parts P = if wo < P.p then 3 else 2 := rfl
    have hoff : (HS.seg wo).off = wo := rfl
    rcases hw with hw | hw
    · rw [if_pos hw] at hlim hcount hparts
      subst hlim
      refine ⟨hnp, by rw [hoff]; omega, by rw [hdata, hoff], by rw [hdata]; exact drop_take_len _ _ _ (by omega), by rw [hoff]; exact room_len (by omega) hm hm2 hn1, fun _ _ h1 h2 => by rw [hoff] at h1 h2; omega, fun i h1 h2 => by rw [hoff] at h1 h2; rw [hsent, if_pos hw]; exact decide_eq_false (by omega), ?_, fun i => ?_, ?_, ?_⟩ <;> rw [hpop]
      · by_cases h : wo + n = P.p
        · rw [if_pos h]; exact ⟨hs, .inr ⟨Nat.le_refl _, by omega⟩⟩
        · rw [if_neg h, if_neg (by omega)]; exact ⟨hs, .inl (by omega)⟩
      · rw [hsent, if_pos hw, hoff]
        by_cases h : wo + n = P.p
        · rw [if_pos h]
          show (if P.q < P.p then decide (i < P.q) else (decide (i < P.p) || (decide (P.q ≤ i) && decide (i < P.q)))) = _
          rw [if_neg (by omega), Bool.eq_iff_iff]; simp; omega
        · rw [if_neg h, if_neg (by omega)]
          show (if wo + n < P.p then decide (i < wo + n) else (decide (i < P.p) || (decide (P.q ≤ i) && decide (i < wo + n)))) = _
          rw [if_pos (by omega), Bool.eq_iff_iff]; simp; omega
      · rw [hcount]
        by_cases h : wo + n = P.p
        · rw [if_pos h]
          show (if P.q < P.p then P.q else P.q - (P.q - P.p)) = _
          rw [if_neg (by omega)]; omega
        · rw [if_neg h, if_neg (by omega)]
          show (if wo + n < P.p then wo + n else _) = _
          rw [if_pos (by omega)]
      · rw [hcount, hparts]
        by_cases h : wo + n = P.p
        · rw [if_pos h]
          show (if P.q < P.p then 3 else 2) * 36 + (P.N - (if P.q < P.p then P.q else P.q - (P.q - P.p))) + 36 ≤ _
          rw [if_neg (by omega), if_neg (by omega)]; omega
        · rw [if_neg h, if_neg (by omega)]
          show (if wo + n < P.p then 3 else 2) * 36 + (P.N - (if wo + n < P.p then wo + n else _)) + 36 ≤ _
          rw [if_pos (by omega), if_pos (by omega)]; omega
    · have hnw : ¬ wo < P.p := by omega
      rw [if_neg hnw] at hlim hcount hparts
      subst hlim
      refine ⟨hnp, by rw [hoff]; omega, by rw [hdata, hoff], by rw [hdata]; exact drop_take_len _ _ _ (by omega), by rw [hoff]; exact room_len (by omega) hm hm2 hn1, fun _ _ h1 h2 => by rw [hoff] at h1 h2; omega, fun i h1 h2 => by rw [hoff] at h1 h2; rw [hsent, if_neg hnw, Bool.eq_false_iff]; simp; omega, ?_, fun i => ?_, ?_, ?_⟩ <;> rw [hpop, if_neg (by omega)]
      · by_cases h : wo + n = P.N
        · rw [if_pos h]; exact ⟨hs, Nat.le_refl _, hbd.2.1⟩
        · rw [if_neg h]; exact ⟨hs, .inr ⟨by omega, by omega⟩⟩
      · rw [hsent, if_neg hnw, hoff]
        by_cases h : wo + n = P.N
        · rw [if_pos h]
          show (decide (i < P.p) || (decide (P.q ≤ i) && decide (i < P.N))) = _
          rw [Bool.eq_iff_iff]; simp; omega
        · rw [if_neg h]
          show (if wo + n < P.p then decide (i < wo + n) else (decide (i < P.p) || (decide (P.q ≤ i) && decide (i < wo + n)))) = _
          rw [if_neg (by omega), Bool.eq_iff_iff]; simp; omega
      · rw [hcount]
        by_cases h : wo + n = P.N
        · rw [if_pos h]
          show P.N - (P.q - P.p) = _
          omega
        · rw [if_neg h]
          show (if wo + n < P.p then wo + n else wo + n - (P.q - P.p)) = _
          rw [if_neg (by omega)]; omega
      · rw [hcount, hparts]
        by_cases h : wo + n = P.N
        · rw [if_pos h]
          show 1 * 36 + (P.N - (P.N - (P.q - P.p))) + 36 ≤ _
          omega
        · rw [if_neg h]
          show (if wo + n < P.p then 3 else 2) * 36 + (P.N - (if wo + n < P.p then wo + n else wo + n - (P.q - P.p))) + 36 ≤ _
          rw [if_neg (by omega), if_neg (by omega)]; omega
  | cut v =>
    obtain ⟨hs, hv1, hv2⟩ := hG
    have hrest : (HS.cut v).rest P = (P.H.drop v).take (P.q - v) := rfl
    have hlen : ((HS.cut v).rest P).length = P.q - v := by rw [hrest]; exact drop_take_len _ _ _ (by omega)
    have hr := room_36 (o := v) (m := m) (by omega) hm
    have hnum : (HS.cut v).num P m = min (room v m) (P.q - v) := by unfold HS.num; rw [hlen]; rfl
    obtain ⟨n, hn⟩ : ∃ n, n = (HS.cut v).num P m := ⟨_, rfl⟩
    rw [← hn]
    rw [hnum] at hn
    have hn1 : n ≤ room v m := by rw [hn]; exact Nat.min_le_left _ _
    have hn2 : n ≤ P.q - v := by rw [hn]; exact Nat.min_le_right _ _
    have hn3 : n = P.q - v ∨ 36 ≤ n := by omega
    have hnp : 0 < n := by omega
    have hdata : ((HS.cut v).rest P).take n = (P.H.drop v).take n := by rw [hrest, List.take_take, Nat.min_eq_left hn2]
    have hpop : (HS.cut v).popped P n = if v + n < P.q then .cut (v + n) else .plain P.N [] := rfl
    have hsent : ∀ i, (HS.cut v).sent P i = (decide (i < v) || (decide (P.q ≤ i) && decide (i < P.N))) := fun _ => rfl
    have hcount : (HS.cut v).count P = P.N - (P.q - v) := rfl
    have hparts : (HS.cut v).parts P = 1 := rfl
    have hoff : (HS.cut v).off = v := rfl
    refine ⟨hnp, by rw [hoff]; omega, by rw [hdata, hoff], by rw [hdata]; exact drop_take_len _ _ _ (by omega), by rw [hoff]; exact room_len (by omega) hm hm2 hn1, fun _ _ h1 h2 => by rw [hoff] at h1 h2; omega, fun i h1 h2 => by rw [hoff] at h1 h2; rw [hsent, Bool.eq_false_iff]; simp; omega, ?_, fun i => ?_, ?_, ?_⟩ <;> rw [hpop]
    · by_cases h : v + n < P.q
      · rw [if_pos h]; exact ⟨hs, by omega, h⟩
      · rw [if_neg h]; exact ⟨Nat.le_refl _, by rw [List.drop_of_length_le (by omega)], fun _ => rfl⟩
    · rw [hsent, hoff]
      by_cases h : v + n < P.q
      · rw [if_pos h]
        show (decide (i < v + n) || (decide (P.q ≤ i) && decide (i < P.N))) = _
        rw [Bool.eq_iff_iff]; simp; omega
      · rw [if_neg h]
        show decide (i < P.N) = _
        rw [Bool.eq_iff_iff]; simp; omega
    · rw [hcount]
      by_cases h : v + n < P.q
      · rw [if_pos h]
        show P.N - (P.q - (v + n)) = _
        omega
      · rw [if_neg h]
        show P.N = _
        omega
    · rw [hcount, hparts]
      by_cases h : v + n < P.q
      · rw [if_pos h]
        show 1 * 36 + (P.N - (P.N - (P.q - (v + n)))) + 36 ≤ _
        omega
      · rw [if_neg h]
        show (if P.N < P.N then 1 else 0) * 36 + (P.N - P.N) + 36 ≤ _
        rw [if_neg (by omega)]; omega
end Go.Proofs.YtdhhccpeikhilaaDoor
