/- The steps of FnCYHello and what the machine makes of them. -/
import Derived.Test.YtdhhccpeikhilaaDoorJ4
namespace Go.Proofs.YtdhhccpeikhilaaDoor

abbrev sAsk : Stp := ⟨5, 0, 0, []⟩
abbrev sPop (m : Nat) : Stp := ⟨4, 0, m, []⟩
def pairs (mo : Nat → Nat) : Nat → List Stp
  | 0 => []
  | n + 1 => pairs mo n ++ [sAsk, sPop (mo n)]
def hsteps (P : HP) (k : Nat) (mo : Nat → Nat) (n : Nat) : List Stp := [⟨3, 0, 0, P.H.take k⟩, sAsk, ⟨3, 0, 0, P.H.drop k⟩] ++ pairs mo n
def hs0 (P : HP) : HS := if P.scr = true then .seg 0 else .wr P.H
def hst (P : HP) (mo : Nat → Nat) : Nat → HS
  | 0 => hs0 P
  | n + 1 => hnext P (hst P mo n) (sPop (mo n))
def hsp (P : HP) (mo : Nat → Nat) : Nat → List Sn
  | 0 => []
  | n + 1 => hsp P mo n ++ [hseen P (hst P mo n) sAsk, hseen P (hst P mo n) (sPop (mo n))]
def hs3 (P : HP) (k : Nat) : List Sn := hsees P (.wr []) [⟨3, 0, 0, P.H.take k⟩, sAsk, ⟨3, 0, 0, P.H.drop k⟩]

theorem pairs_length (mo : Nat → Nat) : ∀ n, (pairs mo n).length = 2 * n
  | 0 => rfl
  | n + 1 => by unfold pairs; rw [List.length_append, pairs_length mo n]; simp; omega
theorem hsteps_length (P : HP) (k : Nat) (mo : Nat → Nat) (n : Nat) : (hsteps P k mo n).length = 3 + 2 * n := by
  unfold hsteps; rw [List.length_append, pairs_length]; simp
theorem hsteps_succ (P : HP) (k : Nat) (mo : Nat → Nat) (n : Nat) : hsteps P k mo (n + 1) = (hsteps P k mo n ++ [sAsk]) ++ [sPop (mo n)] := by
  unfold hsteps; rw [pairs]; simp [List.append_assoc]
theorem hnext_ask (P : HP) (s : HS) : hnext P s sAsk = s := by
  unfold hnext; rw [if_neg (by decide), if_neg (fun e => absurd e.1 (by decide))]
theorem hnext_first (P : HP) (k : Nat) (hk : k < P.N) : hnext P (.wr []) ⟨3, 0, 0, P.H.take k⟩ = .wr (P.H.take k) := by
  unfold hnext
  rw [if_pos rfl]
  show (if P.scr = true ∧ [] ++ P.H.take k = P.H then HS.seg 0 else HS.wr ([] ++ P.H.take k)) = _
  rw [if_neg]
  · rfl
  · rintro ⟨_, e⟩
    have := congrArg List.length e
    have e1 : P.H.length = P.N := rfl
    rw [List.nil_append, List.length_take] at this
    omega
theorem hnext_second (P : HP) (k : Nat) : hnext P (.wr (P.H.take k)) ⟨3, 0, 0, P.H.drop k⟩ = hs0 P := by
  unfold hnext
  rw [if_pos rfl]
  show (if P.scr = true ∧ P.H.take k ++ P.H.drop k = P.H then HS.seg 0 else HS.wr (P.H.take k ++ P.H.drop k)) = _
  rw [List.take_append_drop]
  unfold hs0
  by_cases h : P.scr = true
  · rw [if_pos ⟨h, rfl⟩, if_pos h]
  · rw [if_neg (fun e => h e.1), if_neg h]
theorem hsteps_state (P : HP) (k : Nat) (hk : k < P.N) (mo : Nat → Nat) : ∀ n, (hsteps P k mo n).foldl (hnext P) (.wr []) = hst P mo n
  | 0 => by
    show hnext P (hnext P (hnext P (.wr []) ⟨3, 0, 0, P.H.take k⟩) sAsk) ⟨3, 0, 0, P.H.drop k⟩ = hs0 P
    rw [hnext_first P k hk, hnext_ask, hnext_second]
  | n + 1 => by
    rw [hsteps_succ, List.foldl_append, List.foldl_append, hsteps_state P k hk mo n]
    show hnext P (hnext P (hst P mo n) sAsk) (sPop (mo n)) = _
    rw [hnext_ask]; rfl
theorem hsteps_sees (P : HP) (k : Nat) (hk : k < P.N) (mo : Nat → Nat) : ∀ n, hsees P (.wr []) (hsteps P k mo n) = hs3 P k ++ hsp P mo n
  | 0 => by unfold hsteps hsp pairs hs3; simp
  | n + 1 => by
    rw [hsteps_succ, hsees_snoc, hsees_snoc, hsteps_sees P k hk mo n, List.foldl_append, hsteps_state P k hk mo n]
    show hs3 P k ++ hsp P mo n ++ [hseen P (hst P mo n) sAsk] ++ [hseen P (hnext P (hst P mo n) sAsk) (sPop (mo n))] = _
    rw [hnext_ask, hsp]
    simp [List.append_assoc]
theorem hsp_length (P : HP) (mo : Nat → Nat) : ∀ n, (hsp P mo n).length = 2 * n
  | 0 => rfl
  | n + 1 => by unfold hsp; rw [List.length_append, hsp_length P mo n]; simp; omega
theorem hsp_get (P : HP) (mo : Nat → Nat) : ∀ n j, j < n → (hsp P mo n)[2 * j]? = some (hseen P (hst P mo j) sAsk) ∧ (hsp P mo n)[2 * j + 1]? = some (hseen P (hst P mo j) (sPop (mo j)))
  | 0, j, h => absurd h (by omega)
  | n + 1, j, h => by
    unfold hsp
    have hl := hsp_length P mo n
    rcases Nat.lt_or_ge j n with c | c
    · have := hsp_get P mo n j c
      rw [List.getElem?_append_left (by omega), List.getElem?_append_left (by omega)]
      exact this
    · obtain rfl : j = n := by omega
      rw [List.getElem?_append_right (by omega), List.getElem?_append_right (by omega), hl]
      rw [show 2 * j - 2 * j = 0 from by omega, show 2 * j + 1 - 2 * j = 1 from by omega]
      exact ⟨rfl, rfl⟩
theorem hs3_length (P : HP) (k : Nat) : (hs3 P k).length = 3 := rfl
theorem seen_get (P : HP) (k : Nat) (mo : Nat → Nat) (n j : Nat) (h : j < n) : (hs3 P k ++ hsp P mo n)[3 + 2 * j]? = some (hseen P (hst P mo j) sAsk) ∧ (hs3 P k ++ hsp P mo n)[4 + 2 * j]? = some (hseen P (hst P mo j) (sPop (mo j))) := by
  have h1 := hsp_get P mo n j h
  rw [List.getElem?_append_right (by rw [hs3_length]; omega), List.getElem?_append_right (by rw [hs3_length]; omega), hs3_length, show 3 + 2 * j - 3 = 2 * j from by omega, show 4 + 2 * j - 3 = 2 * j + 1 from by omega]
  exact h1
theorem seen_one (P : HP) (k : Nat) (hk : k < P.N) (l : List Sn) : ∃ y, (hs3 P k ++ l)[1]? = some y ∧ y.has = (!P.scr && decide (0 < k)) := by
  refine ⟨_, rfl, ?_⟩
  show (hseen P (hnext P (.wr []) ⟨3, 0, 0, P.H.take k⟩) sAsk).has = _
  rw [hnext_first P k hk]
  have e1 : P.H.length = P.N := rfl
  have : (P.H.take k).length = k := by rw [List.length_take]; omega
  unfold hseen
  rw [if_neg (fun e => absurd e.1 (by decide)), hnext_ask]
  show (!P.scr && decide (0 < (P.H.take k).length)) = _
  rw [this]
theorem ask_seen (P : HP) (s : HS) : (hseen P s sAsk).has = s.has P := by
  unfold hseen; rw [if_neg (fun e => absurd e.1 (by decide)), hnext_ask]
theorem pop_seen (P : HP) (s : HS) (m : Nat) (h : 0 < s.num P m) : (hseen P s (sPop m)).is = true ∧ (hseen P s (sPop m)).off = s.off ∧ (hseen P s (sPop m)).data = (s.rest P).take (s.num P m) := by
  unfold hseen; rw [if_pos ⟨rfl, h⟩]; exact ⟨rfl, rfl, rfl⟩
theorem hnext_pop (P : HP) (s : HS) (m : Nat) : hnext P s (sPop m) = if 0 < s.num P m then s.popped P (s.num P m) else s := by
  unfold hnext
  rw [if_neg (show ¬ ((4 : Nat) = 3) by decide)]
  by_cases h : 0 < s.num P m
  · rw [if_pos ⟨rfl, h⟩, if_pos h]
  · rw [if_neg (fun e => h e.2), if_neg h]

theorem good_done (P : HP) (hP : P.Ok) (s : HS) (hG : HGood P s) (hh : s.has P = false) : s.count P = P.N ∧ ∀ m, s.num P m = 0 := by
  have hbd := hP.bounds
  cases s with
  | wr l =>
    obtain ⟨hs, rfl⟩ := hG
    have : (HS.wr P.H).has P = true := by
      show (!P.scr && decide (0 < P.N)) = true
      rw [hs, decide_eq_true (by omega)]; rfl
    rw [this] at hh; cases hh
  | plain off l =>
    obtain ⟨ho, rfl, _⟩ := hG
    have h0 : ¬ (0 < (P.H.drop off).length) := of_decide_eq_false hh
    have e1 : P.H.length = P.N := rfl
    have h1 := h0
    rw [List.length_drop, e1] at h1
    refine ⟨by show off = P.N; omega, fun m => ?_⟩
    have : (HS.plain off (P.H.drop off)).num P m = min (room off m) (P.H.drop off).length := rfl
    omega
  | seg wo => cases hh
  | cut v => cases hh
theorem hs0_good (P : HP) (hP : P.Ok) : HGood P (hs0 P) ∧ (hs0 P).count P = 0 ∧ (hs0 P).parts P ≤ 3 ∧ ∀ i, (hs0 P).sent P i = false := by
  have hbd := hP.bounds
  unfold hs0
  by_cases h : P.scr = true
  · rw [if_pos h]
    refine ⟨⟨h, .inl hbd.1⟩, ?_, ?_, fun i => ?_⟩
    · show (if 0 < P.p then 0 else _) = 0
      rw [if_pos hbd.1]
    · show (if 0 < P.p then 3 else 2) ≤ 3
      split <;> omega
    · show (if 0 < P.p then decide (i < 0) else _) = false
      rw [if_pos hbd.1]; simp
  · rw [if_neg h]
    exact ⟨⟨by simpa using h, rfl⟩, rfl, by show 1 ≤ 3; omega, fun _ => rfl⟩
theorem hst_good (P : HP) (hP : P.Ok) (mo : Nat → Nat) (hmo : ∀ j, 40 ≤ mo j ∧ mo j ≤ 1400) : ∀ j, HGood P (hst P mo j) ∧ ((hst P mo j).has P = true → (hst P mo j).parts P * 36 + (P.N - (hst P mo j).count P) + 36 * j ≤ 108 + P.N)
  | 0 => ⟨(hs0_good P hP).1, fun _ => by have := (hs0_good P hP).2.2.1; show (hs0 P).parts P * 36 + (P.N - (hs0 P).count P) + 36 * 0 ≤ _; omega⟩
  | j + 1 => by
    obtain ⟨h1, h2⟩ := hst_good P hP mo hmo j
    unfold hst
    rw [hnext_pop]
    cases hh : (hst P mo j).has P with
    | true =>
      have hl := pop_law P hP _ (mo j) h1 hh (hmo j).1 (hmo j).2
      rw [if_pos hl.pos]
      have := h2 hh
      have := hl.less
      exact ⟨hl.good, fun _ => by omega⟩
    | false =>
      have := (good_done P hP _ h1 hh).2 (mo j)
      rw [if_neg (by omega)]
      exact ⟨h1, fun e => by rw [hh] at e; cases e⟩
theorem hst_end (P : HP) (hP : P.Ok) (mo : Nat → Nat) (hmo : ∀ j, 40 ≤ mo j ∧ mo j ≤ 1400) : (hst P mo 40).has P = false := by
  cases hh : (hst P mo 40).has P with
  | false => rfl
  | true =>
    have := (hst_good P hP mo hmo 40).2 hh
    have := hP.bounds
    omega

theorem hoks_snoc (P : HP) : ∀ (xs : List Stp) (s : HS) (x : Stp), HOks P s xs → HOk P (xs.foldl (hnext P) s) x → HOks P s (xs ++ [x])
  | [], _, _, _, h => ⟨h, trivial⟩
  | _ :: r, _, x, ⟨h1, h2⟩, h => ⟨h1, hoks_snoc P r _ x h2 h⟩
theorem pop_ok (P : HP) (hP : P.Ok) (s : HS) (m : Nat) (hm : 40 ≤ m ∧ m ≤ 1400) (hG : HGood P s) : HOk P s (sPop m) := by
  refine ⟨hm.2, by show 0 ≤ 1000; omega, .inr (.inl ⟨rfl, fun l hl => by subst hl; exact hG.1, fun hn => ?_⟩)⟩
  have hn : s.num P m = 0 := hn
  cases hh : s.has P with
  | true => have := (pop_law P hP s m hG hh hm.1 hm.2).pos; omega
  | false =>
    cases s with
    | wr l =>
      obtain ⟨hs, rfl⟩ := hG
      have hbd := hP.bounds
      have : (HS.wr P.H).has P = true := by
        show (!P.scr && decide (0 < P.N)) = true
        rw [hs, decide_eq_true (by omega)]; rfl
      rw [this] at hh; cases hh
    | plain off l =>
      have h0 : ¬ (0 < l.length) := of_decide_eq_false hh
      show l.length = 0
      omega
    | seg wo => cases hh
    | cut v => cases hh
theorem hsteps_ok (P : HP) (hP : P.Ok) (k : Nat) (hk : k < P.N) (mo : Nat → Nat) (hmo : ∀ j, 40 ≤ mo j ∧ mo j ≤ 1400) : ∀ n, HOks P (.wr []) (hsteps P k mo n)
  | 0 => by
    have hbd := hP.bounds
    have e1 : P.H.length = P.N := rfl
    show HOk P _ _ ∧ HOk P _ _ ∧ HOk P _ _ ∧ True
    rw [hnext_first P k hk, hnext_ask]
    refine ⟨⟨by show 0 ≤ 1400; omega, by show (P.H.take k).length ≤ 1000; rw [List.length_take]; omega, .inl ⟨rfl, [], rfl, by show 0 + (P.H.take k).length ≤ 5000; rw [List.length_take]; omega, fun _ => ?_⟩⟩, ⟨by show 0 ≤ 1400; omega, by show 0 ≤ 1000; omega, .inr (.inr rfl)⟩, ⟨by show 0 ≤ 1400; omega, by show (P.H.drop k).length ≤ 1000; rw [List.length_drop]; omega, .inl ⟨rfl, _, rfl, by show (P.H.take k).length + (P.H.drop k).length ≤ 5000; rw [List.length_take, List.length_drop]; omega, fun _ => ?_⟩⟩, trivial⟩
    · show [] ++ P.H.take k = P.H.take ([] ++ P.H.take k).length
      rw [List.nil_append, List.length_take, Nat.min_eq_left (by omega)]
    · show P.H.take k ++ P.H.drop k = P.H.take (P.H.take k ++ P.H.drop k).length
      rw [List.take_append_drop, List.take_length]
  | n + 1 => by
    rw [hsteps_succ]
    have ih := hsteps_ok P hP k hk mo hmo n
    refine hoks_snoc P _ _ _ (hoks_snoc P _ _ _ ih ⟨by show 0 ≤ 1400; omega, by show 0 ≤ 1000; omega, .inr (.inr rfl)⟩) ?_
    rw [List.foldl_append, hsteps_state P k hk mo n]
    show HOk P (hnext P (hst P mo n) sAsk) (sPop (mo n))
    rw [hnext_ask]
    exact pop_ok P hP _ _ (hmo n) (hst_good P hP mo hmo n).1
end Go.Proofs.YtdhhccpeikhilaaDoor
