/- What waits, counted: plain. Acts without a drop; what is queued less what came is what waits; in the end nothing waits. -/
import Derived.Test.YtgdkbflhgcchfaaD7
namespace Go.Proofs.Ytgdkbflhgcchfaa
open Go.RowKit

/-- How often the bytes d from the offset a on have the byte b at x. -/
def crC (l a : Nat) : List UInt8 → Pt → Nat → Int
  | [], _, _ => 0
  | c :: d, x, b => (if x = mkP l a ∧ b = c.toNat then 1 else 0) + crC l (a + 1) d x b
theorem addC_eq (l : Nat) (y : Int) (x : Pt) (b : Nat) : ∀ (d : List UInt8) (F : Pt → Nat → Int) (a : Nat), addC F l a y d x b = F x b + y * crC l a d x b
  | [], F, a => by simp [addC, crC]
  | c :: d, F, a => by
    show addC (inc1 F (mkP l a) c.toNat y) l (a + 1) y d x b = F x b + y * ((if x = mkP l a ∧ b = c.toNat then 1 else 0) + crC l (a + 1) d x b)
    rw [addC_eq l y x b d]
    unfold inc1
    rw [Int.mul_add]
    by_cases h : x = mkP l a ∧ b = c.toNat
    · rw [if_pos h, if_pos h]; omega
    · rw [if_neg h, if_neg h]; omega
theorem crC_append (l : Nat) (x : Pt) (b : Nat) (e : List UInt8) : ∀ (d : List UInt8) (a : Nat), crC l a (d ++ e) x b = crC l a d x b + crC l (a + d.length) e x b
  | [], a => by simp [crC]
  | c :: d, a => by
    show (if x = mkP l a ∧ b = c.toNat then (1 : Int) else 0) + crC l (a + 1) (d ++ e) x b = (if x = mkP l a ∧ b = c.toNat then 1 else 0) + crC l (a + 1) d x b + crC l (a + (c :: d).length) e x b
    rw [crC_append l x b e d (a + 1), show a + (c :: d).length = a + 1 + d.length by simp; omega]
    omega
theorem crC_bound (l : Nat) (x : Pt) (b : Nat) : ∀ (d : List UInt8) (a : Nat), 0 ≤ crC l a d x b ∧ crC l a d x b ≤ d.length
  | [], a => by simp [crC]
  | c :: d, a => by
    have := crC_bound l x b d (a + 1)
    unfold crC
    rw [List.length_cons]
    split <;> omega
theorem crC_pos (l : Nat) (c : UInt8) : ∀ (d : List UInt8) (a i : Nat), d[i]? = some c → 1 ≤ crC l a d (mkP l (a + i)) c.toNat
  | [], a, i, h => by simp at h
  | e :: d, a, 0, h => by
    have h : e = c := by simpa using h
    have := crC_bound l (mkP l a) c.toNat d (a + 1)
    unfold crC
    rw [Nat.add_zero, if_pos ⟨rfl, by rw [h]⟩]
    omega
  | e :: d, a, i + 1, h => by
    have h : d[i]? = some c := by simpa using h
    have := crC_pos l c d (a + 1) i h
    rw [show a + 1 + i = a + (i + 1) by omega] at this
    unfold crC
    split <;> omega
/-- What a frame counts. -/
def ctF (l : Nat) (c : Ct) (x : Pt) (b : Nat) : Int := match c with | .crypto a d => crC l a d x b | _ => 0
def ctG (l : Nat) (c : Ct) (k : List UInt8) : Int := if c.ty = 6 then 0 else if k = b8 l :: c.enc then 1 else 0
/-- What parts, frames of a level count. -/
def sumF (l : Nat) : List (Nat × List UInt8) → Pt → Nat → Int
  | [], _, _ => 0
  | p :: ps, x, b => crC l p.1 p.2 x b + sumF l ps x b
def sumG (l : Nat) : List Ct → List UInt8 → Int
  | [], _ => 0
  | c :: cs, k => ctG l c k + sumG l cs k
theorem sumF_append (l : Nat) (x : Pt) (b : Nat) (qs : List (Nat × List UInt8)) : ∀ ps, sumF l (ps ++ qs) x b = sumF l ps x b + sumF l qs x b
  | [] => by simp [sumF]
  | p :: ps => by
    show crC l p.1 p.2 x b + sumF l (ps ++ qs) x b = crC l p.1 p.2 x b + sumF l ps x b + sumF l qs x b
    rw [sumF_append l x b qs ps]; omega
theorem sumG_append (l : Nat) (k : List UInt8) (ds : List Ct) : ∀ cs, sumG l (cs ++ ds) k = sumG l cs k + sumG l ds k
  | [] => by simp [sumG]
  | c :: cs => by
    show ctG l c k + sumG l (cs ++ ds) k = ctG l c k + sumG l cs k + sumG l ds k
    rw [sumG_append l k ds cs]; omega
theorem ctG_bound (l : Nat) (c : Ct) (k : List UInt8) : 0 ≤ ctG l c k ∧ ctG l c k ≤ 1 := by
  unfold ctG
  split
  · omega
  · split <;> omega
theorem sumG_bound (l : Nat) (k : List UInt8) : ∀ cs, 0 ≤ sumG l cs k ∧ sumG l cs k ≤ cs.length
  | [] => by simp [sumG]
  | c :: cs => by
    have h1 := sumG_bound l k cs
    have h2 := ctG_bound l c k
    unfold sumG
    rw [List.length_cons]
    omega
theorem sumF_bound (l : Nat) (x : Pt) (b : Nat) : ∀ ps : List (Nat × List UInt8), (∀ p ∈ ps, p.2.length ≤ 400) → 0 ≤ sumF l ps x b ∧ sumF l ps x b ≤ 400 * ps.length
  | [], _ => by simp [sumF]
  | p :: ps, h => by
    have h1 := sumF_bound l x b ps (fun q hq => h q (List.mem_cons_of_mem _ hq))
    have h2 := crC_bound l x b p.2 p.1
    have h3 := h p List.mem_cons_self
    unfold sumF
    rw [List.length_cons]
    omega
theorem nextO_sum (l M : Nat) (cs : List (Nat × List UInt8)) (os : List Ct) (ho : ∀ c ∈ os, c.ty ≠ 6) :
    ((nextO M cs os).1 = none ∧ (nextO M cs os).2 = (cs, os)) ∨ ∃ c, (nextO M cs os).1 = some c ∧ c.enc.length ≤ M ∧ (∀ x b, sumF l cs x b = sumF l (nextO M cs os).2.1 x b + ctF l c x b) ∧ ∀ k, sumG l os k = sumG l (nextO M cs os).2.2 k + ctG l c k := by
  cases os with
  | nil => exact .inl ⟨rfl, rfl⟩
  | cons c os =>
    by_cases h : c.enc.length ≤ M
    · refine .inr ⟨c, by simp [nextO, h], h, fun x b => ?_, fun k => ?_⟩
      · have : ctF l c x b = 0 := by
          have := ho c List.mem_cons_self
          cases c <;> first | rfl | exact absurd rfl this
        rw [this]; simp [nextO, h]
      · simp only [nextO, h, if_true, sumG]; omega
    · exact .inl ⟨by simp [nextO, h], by simp [nextO, h]⟩
theorem room_fits (a M : Nat) (h0 : room a M ≠ 0) : 1 + vlen a + vlen (room a M) + room a M ≤ M ∨ 16384 ≤ room a M := by
  have hv := vlen_le a
  unfold room at h0 ⊢
  split at h0
  · omega
  · rename_i c1
    rw [if_neg c1]
    split at h0
    · rename_i c2
      rw [if_pos c2]
      rw [vlen_lo (n := M - (2 + vlen a)) (by omega)]; omega
    · rename_i c2
      rw [if_neg c2]
      rcases Nat.lt_or_ge (M - (2 + vlen a) - 1) 64 with c | c
      · rw [vlen_lo c]; omega
      · rcases Nat.lt_or_ge (M - (2 + vlen a) - 1) 16384 with c3 | c3
        · rw [vlen_mid c c3]; omega
        · right; omega
theorem crypto_len (a : Nat) (d : List UInt8) : (Ct.crypto a d).enc.length = 1 + vlen a + vlen d.length + d.length := by
  simp only [Ct.enc, List.length_append, List.length_cons, List.length_nil, V_length]
theorem nextF_sum (l M : Nat) (cs : List (Nat × List UInt8)) (os : List Ct) (hc : ∀ x ∈ cs, x.2.length ≤ 400) (ho : ∀ c ∈ os, c.ty ≠ 6) :
    ((nextF M cs os).1 = none ∧ (nextF M cs os).2 = (cs, os)) ∨ ∃ c, (nextF M cs os).1 = some c ∧ c.enc.length ≤ M ∧ (∀ x b, sumF l cs x b = sumF l (nextF M cs os).2.1 x b + ctF l c x b) ∧ ∀ k, sumG l os k = sumG l (nextF M cs os).2.2 k + ctG l c k := by
  cases cs with
  | nil => exact nextO_sum l M [] os ho
  | cons p cs =>
    have hp := hc p List.mem_cons_self
    by_cases hfit : 1 + vlen p.1 + vlen p.2.length + p.2.length ≤ M
    · have e : nextF M (p :: cs) os = (some (.crypto p.1 p.2), cs, os) := by simp [nextF, hfit]
      rw [e]
      refine .inr ⟨_, rfl, by rw [crypto_len]; exact hfit, fun x b => ?_, fun k => ?_⟩
      · show crC l p.1 p.2 x b + sumF l cs x b = sumF l cs x b + crC l p.1 p.2 x b; omega
      · show sumG l os k = sumG l os k + 0; omega
    · by_cases h0 : room p.1 M = 0
      · have e : nextF M (p :: cs) os = nextO M (p :: cs) os := by simp [nextF, hfit, h0]
        rw [e]
        exact nextO_sum l M (p :: cs) os ho
      · have e : nextF M (p :: cs) os = (some (.crypto p.1 (p.2.take (room p.1 M))), (p.1 + room p.1 M, p.2.drop (room p.1 M)) :: cs, os) := by simp [nextF, hfit, h0]
        have hr := room_lt hp hfit
        rw [e]
        refine .inr ⟨_, rfl, ?_, fun x b => ?_, fun k => ?_⟩
        · rw [crypto_len, List.length_take, Nat.min_eq_left hr]
          have := room_fits p.1 M h0
          omega
        · show crC l p.1 p.2 x b + sumF l cs x b = crC l (p.1 + room p.1 M) (p.2.drop (room p.1 M)) x b + sumF l cs x b + crC l p.1 (p.2.take (room p.1 M)) x b
          have h1 := crC_append l x b (p.2.drop (room p.1 M)) (p.2.take (room p.1 M)) p.1
          rw [List.take_append_drop, List.length_take, Nat.min_eq_left hr] at h1
          omega
        · show sumG l os k = sumG l os k + 0; omega
/-- Parts and frames of a level that wait. -/
def pts (st : St) (n : Nat) : List (Nat × List UInt8) := match st.lv n with | none => [] | some L => L.1
def ots (st : St) (n : Nat) : List Ct := match st.lv n with | none => [] | some L => L.2
/-- What waits, counted. -/
def cntF (st : St) : Pt → Nat → Int := fun x b => sumF 0 (pts st 0) x b + sumF 1 (pts st 1) x b + sumF 2 (pts st 2) x b
def cntG (st : St) : List UInt8 → Int := fun k => sumG 0 (ots st 0) k + sumG 1 (ots st 1) k + sumG 2 (ots st 2) k
/-- Nothing was dropped. -/
def Live (st : St) : Prop := ∃ L0 L1, st.ini = some L0 ∧ st.hs = some L1
theorem Live.lv {st : St} (h : Live st) (n : Nat) : ∃ L, st.lv n = some L := by
  obtain ⟨L0, L1, h0, h1⟩ := h
  unfold St.lv
  split
  · exact ⟨L0, h0⟩
  · split
    · exact ⟨L1, h1⟩
    · exact ⟨_, rfl⟩
theorem Live.set {st : St} (h : Live st) (n : Nat) (L : Lv) : Live (st.set n L) := by
  obtain ⟨L0, L1, h0, h1⟩ := h
  unfold St.set
  split
  · exact ⟨L, L1, rfl, h1⟩
  · split
    · exact ⟨L0, L, h0, rfl⟩
    · exact ⟨L0, L1, h0, h1⟩
theorem cnt_set {st : St} (h : Live st) (n : Nat) (hn : n ≤ 2) (L L' : Lv) (hL : st.lv n = some L) : (∀ x b, cntF (st.set n L') x b = cntF st x b - sumF n L.1 x b + sumF n L'.1 x b) ∧ ∀ k, cntG (st.set n L') k = cntG st k - sumG n L.2 k + sumG n L'.2 k := by
  obtain ⟨L0, L1, h0, h1⟩ := h
  have hc : n = 0 ∨ n = 1 ∨ n = 2 := by omega
  rcases hc with rfl | rfl | rfl
  · have hL : L = L0 := by have : st.ini = some L := hL; rw [h0] at this; exact (Option.some.inj this).symm
    subst hL
    constructor <;> intros <;> simp [cntF, cntG, pts, ots, St.set, St.lv, h0, h1] <;> omega
  · have hL : L = L1 := by have : st.hs = some L := hL; rw [h1] at this; exact (Option.some.inj this).symm
    subst hL
    constructor <;> intros <;> simp [cntF, cntG, pts, ots, St.set, St.lv, h0, h1] <;> omega
  · have hL : L = st.app := by have : some st.app = some L := hL; exact (Option.some.inj this).symm
    subst hL
    constructor <;> intros <;> simp [cntF, cntG, pts, ots, St.set, St.lv, h0, h1] <;> omega
/-- What is lost is counted. -/
theorem cnt_lost {st : St} (h : Live st) (n : Nat) (hn : n ≤ 2) (c : Ct) : Live (st.lost n c) ∧ (∀ x b, cntF (st.lost n c) x b = cntF st x b + ctF n c x b) ∧ ∀ k, cntG (st.lost n c) k = cntG st k + ctG n c k := by
  obtain ⟨L, hL⟩ := h.lv n
  have e : st.lost n c = st.set n (St.push L c) := by simp [St.lost, hL]
  rw [e]
  obtain ⟨g1, g2⟩ := cnt_set h n hn L (St.push L c) hL
  refine ⟨h.set n _, fun x b => ?_, fun k => ?_⟩
  · rw [g1]
    cases c
    case crypto a d =>
      show cntF st x b - sumF n L.1 x b + sumF n (L.1 ++ [(a, d)]) x b = cntF st x b + crC n a d x b
      rw [sumF_append]
      simp [sumF]; omega
    all_goals (show cntF st x b - sumF n L.1 x b + sumF n L.1 x b = cntF st x b + 0; omega)
  · rw [g2]
    cases c
    case crypto a d =>
      show cntG st k - sumG n L.2 k + sumG n L.2 k = cntG st k + 0
      omega
    all_goals (
      show cntG st k - sumG n L.2 k + sumG n (L.2 ++ [_]) k = cntG st k + _
      rw [sumG_append]
      simp [sumG]; omega)
/-- What comes is counted out. -/
theorem cnt_get {N : Nat} {st : St} (h : Live st) (hs : SOk3 N st) (n M : Nat) (hn : n ≤ 2) : Live (st.get n M).2 ∧
    (((st.get n M).1 = none ∧ cntF (st.get n M).2 = cntF st ∧ cntG (st.get n M).2 = cntG st) ∨
    ∃ c, (st.get n M).1 = some c ∧ c.enc.length ≤ M ∧ (∀ x b, cntF st x b = cntF (st.get n M).2 x b + ctF n c x b) ∧ ∀ k, cntG st k = cntG (st.get n M).2 k + ctG n c k) := by
  obtain ⟨L, hL⟩ := h.lv n
  have e : st.get n M = ((nextF M L.1 L.2).1, st.set n (nextF M L.1 L.2).2) := by simp [St.get, hL]
  have hok := hs n L hn hL
  rw [e]
  refine ⟨h.set n _, ?_⟩
  obtain ⟨g1, g2⟩ := cnt_set h n hn L (nextF M L.1 L.2).2 hL
  rcases nextF_sum n M L.1 L.2 (fun x hx => (hok.1 x hx).2) (fun c hc => (hok.2.1 c hc).2) with ⟨h1, h2⟩ | ⟨c, h1, h2, h3, h4⟩
  · refine .inl ⟨h1, ?_, ?_⟩
    · funext x b; rw [g1, h2]; show cntF st x b - sumF n L.1 x b + sumF n L.1 x b = cntF st x b; omega
    · funext k; rw [g2, h2]; show cntG st k - sumG n L.2 k + sumG n L.2 k = cntG st k; omega
  · refine .inr ⟨c, h1, h2, fun x b => ?_, fun k => ?_⟩
    · rw [g1, h3 x b]; omega
    · rw [g2, h4 k]; omega
end Go.Proofs.Ytgdkbflhgcchfaa
