/- What waits, counted: one step; the end. Plain, but for the counting itself. -/
import Derived.Test.YtgdkbflhgcchfaaE1
namespace Go.Proofs.Ytgdkbflhgcchfaa
open Go.RowKit

/-- One frame is counted in, or out. -/
theorem count_ct (w : World) (m1 m2 : Nat) (F F' : Pt → Nat → Int) (G G' : List UInt8 → Int) (hC : CntAt w m1 m2 F G) (n : Nat) (c : Ct) (hn : n ≤ 2) (hc : c.Ok) (v : Value) (hv : Rd w v c.enc) (y : Int) (hy : y = 1 ∨ y = -1)
    (hF : ∀ x b, F' x b = F x b + y * ctF n c x b) (hG : ∀ k, G' k = G k + y * ctG n c k) (bF : ∀ x b, 0 ≤ F x b ∧ F x b ≤ 1000000) (bG : ∀ k, 0 ≤ G k ∧ G k ≤ 1000000) (pF : ∀ x b, 0 ≤ F' x b) (pG : ∀ k, 0 ≤ G' k) :
    Calls Try.prog 10 #[.agg #[.map (some m1), .map (some m2)], .int .i64 (n : Int), v, .int .i64 y] w fun e w' => e = .returned (.bool true) ∧ CntAt w' m1 m2 F' G' ∧ Fr (fun k => k = m1 ∨ k = m2) w w' := by
  by_cases h6 : c.ty = 6
  · cases c
    case crypto a d =>
      have eG : G' = G := funext fun k => by rw [hG k, show ctG n (.crypto a d) k = 0 from if_pos rfl]; omega
      have eF : F' = addC F n a y d := funext fun x => funext fun b => by rw [hF x b, addC_eq]; rfl
      rw [eG, eF]
      refine count_crypto w m1 m2 F G hC n a d hn hc v hv y hy (fun i b hi => ?_)
      have h1 := bF (mkP n (a + i)) b.toNat
      have h2 := pF (mkP n (a + i)) b.toNat
      rw [hF] at h2
      have h3 : 1 ≤ ctF n (.crypto a d) (mkP n (a + i)) b.toNat := crC_pos n b d a i hi
      refine ⟨by omega, h1.2, ?_⟩
      rcases hy with rfl | rfl
      · omega
      · omega
    all_goals (simp [Ct.ty] at h6)
  · have eF : F' = F := funext fun x => funext fun b => by
      rw [hF x b]
      have : ctF n c x b = 0 := by cases c <;> first | rfl | exact absurd rfl h6
      rw [this]; omega
    have eG : G' = incO G (b8 n :: c.enc) y := funext fun k => by
      rw [hG k]
      unfold incO ctG
      rw [if_neg h6]
      split <;> omega
    rw [eF, eG]
    have h1 := bG (b8 n :: c.enc)
    have h2 := pG (b8 n :: c.enc)
    rw [eG] at h2
    refine count_other w m1 m2 F G hC n c hn hc h6 v hv y hy ⟨by omega, h1.2⟩ ?_
    have : incO G (b8 n :: c.enc) y (b8 n :: c.enc) = G (b8 n :: c.enc) + y := if_pos rfl
    omega
theorem cnt_bound {st : St} (hs : SOk3 300 st) : (∀ x b, 0 ≤ cntF st x b ∧ cntF st x b ≤ 1000000) ∧ ∀ k, 0 ≤ cntG st k ∧ cntG st k ≤ 1000000 := by
  have hp : ∀ n, n ≤ 2 → (∀ p ∈ pts st n, p.2.length ≤ 400) ∧ (pts st n).length ≤ 300 ∧ (ots st n).length ≤ 300 := fun n hn => by
    unfold pts ots
    cases e : st.lv n with
    | none => exact ⟨(fun _ h => nomatch h), Nat.zero_le _, Nat.zero_le _⟩
    | some L =>
      obtain ⟨h1, h2, h3, h4⟩ := hs n L hn e
      exact ⟨fun p hp => (h1 p hp).2, h3, h4⟩
  obtain ⟨a0, b0, c0⟩ := hp 0 (by omega)
  obtain ⟨a1, b1, c1⟩ := hp 1 (by omega)
  obtain ⟨a2, b2, c2⟩ := hp 2 (by omega)
  constructor
  · intro x b
    have h0 := sumF_bound 0 x b _ a0
    have h1 := sumF_bound 1 x b _ a1
    have h2 := sumF_bound 2 x b _ a2
    unfold cntF
    omega
  · intro k
    have h0 := sumG_bound 0 k (ots st 0)
    have h1 := sumG_bound 1 k (ots st 1)
    have h2 := sumG_bound 2 k (ots st 2)
    unfold cntG
    omega
/-- How much of a level waits. -/
def lt (st : St) (n : Nat) : Nat := (pts st n).length + (ots st n).length
theorem lt_set {st : St} (h : Live st) (n m : Nat) (hn : n ≤ 2) (hm : m ≤ 2) (L : Lv) : lt (st.set n L) m = if m = n then L.1.length + L.2.length else lt st m := by
  obtain ⟨L0, L1, h0, h1⟩ := h
  have h1 : n = 0 ∨ n = 1 ∨ n = 2 := by omega
  have h2 : m = 0 ∨ m = 1 ∨ m = 2 := by omega
  rcases h1 with rfl | rfl | rfl <;> rcases h2 with rfl | rfl | rfl <;> simp [lt, pts, ots, St.set, St.lv]
theorem lt_lost {st : St} (h : Live st) (n m : Nat) (hn : n ≤ 2) (hm : m ≤ 2) (c : Ct) : lt (st.lost n c) m ≤ lt st m + 1 := by
  obtain ⟨L, hL⟩ := h.lv n
  have e : st.lost n c = st.set n (St.push L c) := by simp [St.lost, hL]
  rw [e, lt_set h n m hn hm]
  split
  · rename_i e
    subst e
    have : lt st m = L.1.length + L.2.length := by simp [lt, pts, ots, hL]
    rw [this]
    cases c <;> simp [St.push] <;> omega
  · omega
theorem nextF_len (M : Nat) (cs : List (Nat × List UInt8)) (os : List Ct) : (nextF M cs os).2.1.length + (nextF M cs os).2.2.length ≤ cs.length + os.length := by
  have ho : ∀ cs os, (nextO M cs os).2.1.length + (nextO M cs os).2.2.length ≤ cs.length + os.length := fun cs os => by
    cases os with
    | nil => simp [nextO]
    | cons c os => by_cases h : c.enc.length ≤ M <;> simp [nextO, h]
  cases cs with
  | nil => exact ho [] os
  | cons x cs =>
    by_cases hfit : 1 + vlen x.1 + vlen x.2.length + x.2.length ≤ M
    · simp [nextF, hfit]
    · by_cases h0 : room x.1 M = 0
      · have e : nextF M (x :: cs) os = nextO M (x :: cs) os := by simp [nextF, hfit, h0]
        rw [e]; exact ho _ _
      · simp [nextF, hfit, h0]
theorem nextF_big (N : Nat) (L : Lv) (h : LOk N L) : (nextF 1200 L.1 L.2).2.1.length + (nextF 1200 L.1 L.2).2.2.length ≤ L.1.length + L.2.length - 1 := by
  obtain ⟨cs, os⟩ := L
  cases cs with
  | nil =>
    cases os with
    | nil => simp [nextF, nextO]
    | cons c os =>
      have := enc_len c (h.2.1 c List.mem_cons_self).1
      have hc : c.enc.length ≤ 1200 := by omega
      simp [nextF, nextO, hc]
  | cons x cs =>
    have h1 := (h.1 x List.mem_cons_self).2
    have h2 := vlen_le x.1
    have h3 := vlen_le x.2.length
    have hfit : 1 + vlen x.1 + vlen x.2.length + x.2.length ≤ 1200 := by omega
    simp [nextF, hfit]
theorem lt_get {N : Nat} {st : St} (h : Live st) (hs : SOk3 N st) (n m M : Nat) (hn : n ≤ 2) (hm : m ≤ 2) : lt (st.get n M).2 m ≤ lt st m ∧ (M = 1200 → m = n → lt (st.get n M).2 m ≤ lt st m - 1) := by
  obtain ⟨L, hL⟩ := h.lv n
  have e : st.get n M = ((nextF M L.1 L.2).1, st.set n (nextF M L.1 L.2).2) := by simp [St.get, hL]
  rw [e]
  show lt (st.set n (nextF M L.1 L.2).2) m ≤ lt st m ∧ _
  rw [lt_set h n m hn hm]
  have hl : m = n → lt st m = L.1.length + L.2.length := fun e => by subst e; simp [lt, pts, ots, hL]
  constructor
  · split
    · rename_i e
      rw [hl e]
      exact nextF_len M L.1 L.2
    · omega
  · intro hM e
    rw [if_pos e, hl e]
    subst hM
    exact nextF_big N L (hs n L hn hL)
theorem step_live {st : St} (h : Live st) (x : Sp) (hx : x.kind ≠ 3) (hok : x.Ok) : Live (st.step x).2 := by
  cases x with
  | lost n c => exact (cnt_lost h n hok.1 c).1
  | get n M =>
    obtain ⟨L, hL⟩ := h.lv n
    have e : (st.get n M).2 = st.set n (nextF M L.1 L.2).2 := by simp [St.get, hL]
    show Live (st.get n M).2
    rw [e]
    exact h.set n _
  | has n => exact h
  | drop n => exact absurd rfl hx
theorem run_live : ∀ (xs : List Sp) (st : St), Live st → (∀ x ∈ xs, x.kind ≠ 3 ∧ x.Ok) → Live (st.run xs)
  | [], _st, h, _ => h
  | x :: xs, _st, h, hx => run_live xs _ (step_live h x (hx x List.mem_cons_self).1 (hx x List.mem_cons_self).2) (fun y hy => hx y (List.mem_cons_of_mem _ hy))
theorem St0_live : Live St0 := ⟨_, _, rfl, rfl⟩
theorem lt_step {N : Nat} {st : St} (h : Live st) (hs : SOk3 N st) (x : Sp) (hx : x.kind ≠ 3) (hok : x.Ok) (m : Nat) (hm : m ≤ 2) : lt (st.step x).2 m ≤ lt st m + 1 := by
  cases x with
  | lost n c => exact lt_lost h n m hok.1 hm c
  | get n M => exact Nat.le_succ_of_le (lt_get h hs n m M hok.1 hm).1
  | has n => exact Nat.le_succ _
  | drop n => exact absurd rfl hx
theorem lt_run (m : Nat) (hm : m ≤ 2) : ∀ (xs : List Sp) (N : Nat) (st : St), Live st → SOk3 N st → (∀ x ∈ xs, x.kind ≠ 3 ∧ x.Ok) → lt (st.run xs) m ≤ lt st m + xs.length
  | [], _, _, _, _, _ => Nat.le_refl _
  | x :: xs, N, st, h, hs, hx => by
    have h1 := hx x List.mem_cons_self
    have := lt_run m hm xs (N + 1) _ (step_live h x h1.1 h1.2) (step_ok hs h1.2) (fun y hy => hx y (List.mem_cons_of_mem _ hy))
    have h2 := lt_step h hs x h1.1 h1.2 m hm
    rw [List.length_cons]
    show lt ((st.step x).2.run xs) m ≤ _
    omega
/-- The acts that ask for all. -/
def gets (j : Nat) : List Sp := (List.range j).map fun i => Sp.get (i % 3) 1200
theorem gets_succ (j : Nat) : gets (j + 1) = gets j ++ [Sp.get (j % 3) 1200] := by simp [gets, List.range_succ]
theorem gets_length (j : Nat) : (gets j).length = j := by simp [gets]
theorem gets_ok (j : Nat) : ∀ x ∈ gets j, x.kind ≠ 3 ∧ x.Ok := fun x hx => by
  obtain ⟨i, _, rfl⟩ := List.mem_map.1 hx
  exact ⟨by show (1 : Nat) ≠ 3; decide, by show i % 3 ≤ 2; omega, by show 1200 ≤ 2000; decide⟩
theorem lt_gets {st : St} (h : Live st) {N : Nat} (hs : SOk3 N st) (m : Nat) (hm : m ≤ 2) (hl : lt st m ≤ 60) : ∀ j, lt (st.run (gets j)) m ≤ 60 - (j + 2 - m) / 3
  | 0 => by
    have : (0 + 2 - m) / 3 = 0 := by omega
    rw [this]; exact hl
  | j + 1 => by
    have ih := lt_gets h hs m hm hl j
    rw [gets_succ, run_snoc]
    have hL := run_live (gets j) st h (gets_ok j)
    have hS := run_ok (gets j) N st hs (fun x hx => (gets_ok j x hx).2)
    have h1 := lt_get hL hS (j % 3) m 1200 (by omega) hm
    show lt ((st.run (gets j)).get (j % 3) 1200).2 m ≤ _
    by_cases e : m = j % 3
    · have := h1.2 rfl e
      omega
    · have := h1.1
      omega
/-- IN THE END NOTHING WAITS. -/
theorem all_out (xs : List Sp) (hl : xs.length ≤ 60) (hx : ∀ x ∈ xs, x.kind ≠ 3 ∧ x.Ok) : cntF (St0.run (xs ++ gets 186)) = (fun _ _ => 0) ∧ cntG (St0.run (xs ++ gets 186)) = fun _ => 0 := by
  have e : St0.run (xs ++ gets 186) = (St0.run xs).run (gets 186) := by unfold St.run; rw [List.foldl_append]
  have hL := run_live xs St0 St0_live hx
  have hS := run_ok xs 0 St0 St0_ok (fun x h => (hx x h).2)
  have h0 : ∀ m, m ≤ 2 → lt (St0.run (xs ++ gets 186)) m = 0 := fun m hm => by
    have h1 := lt_run m hm xs 0 St0 St0_live St0_ok hx
    have h2 : lt St0 m = 0 := by
      have : m = 0 ∨ m = 1 ∨ m = 2 := by omega
      rcases this with rfl | rfl | rfl <;> rfl
    have h3 := lt_gets hL hS m hm (by omega) 186
    rw [e]
    omega
  have hp : ∀ m, m ≤ 2 → pts (St0.run (xs ++ gets 186)) m = [] ∧ ots (St0.run (xs ++ gets 186)) m = [] := fun m hm => by
    have := h0 m hm
    unfold lt at this
    exact ⟨List.eq_nil_of_length_eq_zero (by omega), List.eq_nil_of_length_eq_zero (by omega)⟩
  constructor
  · funext x b
    unfold cntF
    rw [(hp 0 (by omega)).1, (hp 1 (by omega)).1, (hp 2 (by omega)).1]
    rfl
  · funext k
    unfold cntG
    rw [(hp 0 (by omega)).2, (hp 1 (by omega)).2, (hp 2 (by omega)).2]
    rfl
end Go.Proofs.Ytgdkbflhgcchfaa
