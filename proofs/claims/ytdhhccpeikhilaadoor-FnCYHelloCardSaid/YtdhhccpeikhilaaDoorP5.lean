/- The frame sorter's plain law: a push that starts and ends in one gap keeps the sorter's order. No program here. -/
import Derived.Test.YtdhhccpeikhilaaDoorP4
namespace Go.Proofs.YtdhhccpeikhilaaDoor

/-- What a push does: the sorter's order stands, and the frame's bytes are there. -/
def Took (rp a n : Nat) (l : List UInt8) (q : Q) (gs6 : List Gap) (q6 : Q) : Prop :=
  Good rp gs6 q6 ∧ (∀ x, rp ≤ x → (Cov q6 x ↔ Cov q x ∨ (a ≤ x ∧ x < a + n))) ∧ (∀ F : Nat → UInt8, DataOk F q → (∀ i x, l[i]? = some x → x = F (a + i)) → DataOk F q6)

theorem erase_shape (gs : List Gap) (i : Nat) : gs.eraseIdx i = gs.take i ++ [] ++ [] ++ gs.drop (i + 1) := by
  rw [List.append_nil, List.append_nil]; exact List.eraseIdx_eq_take_drop_succ _ _
theorem set_shape1 (gs : List Gap) (i : Nat) (y : Gap) (h : i < gs.length) : gs.set i y = gs.take i ++ [y] ++ [] ++ gs.drop (i + 1) := by
  rw [List.set_eq_take_append_cons_drop, if_pos h]; simp
theorem set_shape2 (gs : List Gap) (i : Nat) (y : Gap) (h : i < gs.length) : gs.set i y = gs.take i ++ [] ++ [y] ++ gs.drop (i + 1) := by
  rw [List.set_eq_take_append_cons_drop, if_pos h]; simp
theorem ins_at (hd r : List Gap) (x : Gap) : (hd ++ r).insertIdx hd.length x = hd ++ x :: r := by
  induction hd with
  | nil => cases r <;> rfl
  | cons b t ih => rw [List.cons_append, List.length_cons, List.insertIdx_succ_cons, ih, List.cons_append]
theorem ins_shape (gs : List Gap) (i : Nat) (y x : Gap) (h : i < gs.length) : (gs.set i y).insertIdx (i + 1) x = gs.take i ++ [y] ++ [x] ++ gs.drop (i + 1) := by
  rw [set_shape1 gs i y h, List.append_nil]
  have hl : (gs.take i ++ [y]).length = i + 1 := by simp; omega
  rw [← hl, ins_at]
  simp

theorem push1_good {rp a n i : Nat} {gs gs6 : List Gap} {q q6 : Q} {l : List UInt8} {gi : Gap} {inE : Bool} (hG : Good rp gs q) (hi : StartGap gs a i gi) (hj : EndAt gs i (a + n) i gi inE) (hn : 0 < n) (hl : l.length = n) (hz : a + n ≤ 16384) (hnew : gi.s < a + n)
    {N : Nat} (h : Push1 N gs q l a n gi i inE gs6 q6) : Took rp a n l q gs6 q6 := by
  obtain ⟨q1, pos, rep, cut, Z, A, gs3, adj, Z2, hE, hA, hU, hZ2, hG1, rfl⟩ := h
  have hgi := List.mem_of_getElem? hi.1
  have hilt : i < gs.length := (List.getElem?_eq_some_iff.1 hi.1).1
  have hgie := hG.gaps.ne gi hgi
  have hlo := hG.gaps.lo gi hgi
  have hgs := hG.gaps.le_s hgi
  have hnext : ∀ k d, q k = some d → gi.s ≤ k → gi.e ≤ k := fun k d hk h1 => by
    rcases Nat.lt_or_ge k gi.e with c | c
    · have := hG.ap.pos hk; exact (hG.notCov hgi h1 c ⟨k, d, hk, Nat.le_refl _, by omega⟩).elim
    · exact c
  have hbefore : ∀ k d, q k = some d → k < gi.e → k + d.length ≤ gi.s := fun k d hk h1 => by
    rcases Nat.lt_or_ge k gi.s with c | c
    · rcases Nat.lt_or_ge gi.s (k + d.length) with c2 | c2
      · exact (hG.notCov hgi (Nat.le_refl _) hgie ⟨k, d, hk, by omega, c2⟩).elim
      · exact c2
    · have := hnext k d hk c; omega
  obtain ⟨c1, c2, hq1, c4, c5, c6⟩ := hE.1.cut hG.ap
  have hend : (inE = true ∧ a + n < gi.e) ∨ (inE = false ∧ gi.e ≤ a + n) := by
    rcases hj.2 with ⟨x, _, _, y, _⟩ | ⟨x, x0, _, y⟩
    · exact .inl ⟨x, y⟩
    · exact .inr ⟨x, y i gi (Nat.le_refl _) (Nat.le_refl _) hi.1⟩
  rcases Nat.lt_or_ge a gi.e with hae | hae
  · -- the frame starts ahead of the gap's end
    obtain ⟨hZ, hAe, haA, hAZ, hq3a, hq3b, hcA, hgA, hrA⟩ : Z = a + n ∧ A < gi.e ∧ a ≤ A ∧ A < a + n ∧ (∀ k d, q1 k = some d → q k = some d ∧ (k + d.length ≤ A ∨ gi.e ≤ k)) ∧ (∀ k d, q k = some d → q1 k = some d ∨ (A ≤ k ∧ k + d.length ≤ gi.s)) ∧
        (∀ x, rp ≤ x → a ≤ x → x < A → Cov q x) ∧ ((gi.s < A ∧ rep = false ∧ A = a) ∨ (A ≤ gi.s ∧ a ≤ gi.s)) ∧ rp ≤ A := by
      cases rep with
      | false =>
        obtain ⟨rfl, rfl, rfl, hqa⟩ := hE.none
        have hA' : (gi.s ≤ pos ∧ A = pos) ∨ (pos < gi.s ∧ A = gi.s) := by
          rw [hA]
          rcases Nat.lt_or_ge pos gi.s with c | c
          · exact .inr ⟨c, by rw [if_pos ⟨decide_eq_false (by omega), rfl⟩]⟩
          · exact .inl ⟨c, by rw [if_neg (fun e => by have := of_decide_eq_false e.1; omega)]⟩
        have hcs : (gi.s < A ∧ false = false ∧ A = pos) ∨ (A ≤ gi.s ∧ pos ≤ gi.s) := by
          clear hA
          rcases Nat.lt_or_ge gi.s A with c | c
          · exact .inl ⟨c, rfl, by omega⟩
          · exact .inr ⟨c, by omega⟩
        clear hA
        refine ⟨rfl, by omega, by omega, by omega, fun k d hk => ⟨hk, ?_⟩, fun k d hk => .inl hk, fun x x1 x2 x3 => ?_, hcs, by omega⟩
        · rcases Nat.lt_or_ge k gi.e with c | c
          · have := hbefore k d hk c; omega
          · exact .inr c
        · exact (hG.cov x x1 (by omega)).2 (hi.notIn hG.gaps x2 (by omega))
      | true =>
        obtain ⟨_, d0, hd0⟩ := c6 rfl
        have hags : a < gi.s := by
          rcases Nat.lt_or_ge a gi.s with c | c
          · exact c
          · have := hnext a d0 hd0 c; omega
        have hra := (hG.ge a d0 hd0).1
        have hA' : A = a := by rw [hA, if_neg (fun e => by cases e.2)]
        obtain ⟨hp, hZ⟩ := hE.upTo hG.ap (s := gi.s) (by omega) (by omega) (fun x x1 x2 => (hG.cov x (by omega) (by omega)).2 (hi.notIn hG.gaps x1 x2)) (hG.notCov hgi (Nat.le_refl _) hgie)
        refine ⟨hZ, by omega, by omega, by omega, fun k d hk => ?_, fun k d hk => ?_, fun x x1 x2 x3 => by omega, by omega, by omega⟩
        · rw [hq1] at hk
          split at hk
          · cases hk
          · refine ⟨hk, ?_⟩
            rcases Nat.lt_or_ge k a with c | c
            · have := hG.ap.over hd0 hk c; omega
            · have := hnext k d hk (by omega); omega
        · by_cases c : a ≤ k ∧ k < pos
          · have := hbefore k d hk (by omega); exact .inr (by omega)
          · exact .inl (by rw [hq1, if_neg c]; exact hk)
    have hZ2' : (a + n < gi.e → Z2 = a + n) ∧ (gi.e ≤ a + n → Z2 = gi.e) := by
      rcases hend with ⟨e1, e2⟩ | ⟨e1, e2⟩
      · refine ⟨fun _ => ?_, fun _ => by omega⟩
        rw [hZ2, if_neg (fun e => by rw [e1] at e; cases e.1)]; exact hZ
      · refine ⟨fun _ => by omega, fun _ => ?_⟩
        by_cases c : gi.e < Z
        · rw [hZ2, if_pos ⟨e1, by omega, c⟩]
        · rw [hZ2, if_neg (fun e => c e.2.2)]; omega
    have hZ2b : Z2 ≤ a + n ∧ Z2 ≤ gi.e ∧ A < Z2 ∧ gi.s ≤ Z2 := by
      rcases Nat.lt_or_ge (a + n) gi.e with c | c
      · have := hZ2'.1 c; omega
      · have := hZ2'.2 c; omega
    have hshape : ∃ M1 M2 : List Gap, gs6 = gs.take i ++ M1 ++ M2 ++ gs.drop (i + 1) ∧ ((gi.s < a ∧ ∃ b, M1 = [⟨b, gi.s, a⟩]) ∨ (a ≤ gi.s ∧ M1 = [])) ∧ ((a + n < gi.e ∧ ∃ b, M2 = [⟨b, a + n, gi.e⟩]) ∨ (gi.e ≤ a + n ∧ M2 = [])) := by
      rcases hU with ⟨u1, u2, u3, u4⟩ | ⟨u1, u2, u3, u4⟩ | ⟨u1, u2, u3, u4⟩ | ⟨u1, u2, u3, u4⟩
      · rcases hG1 with ⟨_, v, _⟩ | ⟨_, v⟩
        · rw [u4] at v; cases v
        · exact ⟨[], [], by rw [v, u3]; exact erase_shape gs i, .inr ⟨by omega, rfl⟩, .inr ⟨by omega, rfl⟩⟩
      · rcases hG1 with ⟨_, v, _⟩ | ⟨_, v⟩
        · rw [u4] at v; cases v
        · exact ⟨[], _, by rw [v, u3]; exact set_shape2 gs i _ hilt, .inr ⟨by omega, rfl⟩, .inl ⟨by omega, gi.b, by rw [hZ]⟩⟩
      · have hAa : A = a := by omega
        rcases hG1 with ⟨v1, _, b, _, v⟩ | ⟨v1, v⟩
        · have c : a + n < gi.e := by
            rcases Nat.lt_or_ge (a + n) gi.e with c | c
            · exact c
            · exact (v1 (hZ2'.2 c)).elim
          exact ⟨_, _, by rw [v, u3]; exact ins_shape gs i _ _ hilt, .inl ⟨by omega, gi.b, by rw [hAa]⟩, .inl ⟨c, b, by rw [hZ2'.1 c]⟩⟩
        · have c : gi.e ≤ a + n := by
            rcases v1 with v1 | v1
            · rcases Nat.lt_or_ge (a + n) gi.e with c | c
              · have := hZ2'.1 c; omega
              · exact c
            · rw [u4] at v1; cases v1
          exact ⟨_, [], by rw [v, u3]; exact set_shape1 gs i _ hilt, .inl ⟨by omega, gi.b, by rw [hAa]⟩, .inr ⟨c, rfl⟩⟩
      · exfalso
        rcases hgA with ⟨_, e, _⟩ | ⟨e, _⟩
        · rw [u2] at e; cases e
        · omega
    obtain ⟨M1, M2, rfl, m1, m2⟩ := hshape
    obtain ⟨g1, g2⟩ := gaps6 hG.gaps (Nat.le_refl i) hi hj (by omega) hz hnew m1 m2
    refine queue6 hG haA hZ2b.2.2.1 hZ2b.1 hrA hz (by omega) (fun k d hk => ⟨(hq3a k d hk).1, (hq3a k d hk).2.imp id (fun e => by omega)⟩) (fun k d hk => (hq3b k d hk).imp id (fun e => ⟨e.1, by omega⟩)) (fun x x1 x2 x3 x4 => ?_) g1 g2
    rcases x4 with x4 | x4
    · exact hcA x x1 x2 x4
    · have c : gi.e ≤ a + n := by
        rcases Nat.lt_or_ge (a + n) gi.e with c | c
        · have := hZ2'.1 c; omega
        · exact c
      have := hZ2'.2 c
      rcases hj.2 with ⟨_, _, _, y, _⟩ | ⟨_, _, ⟨h, y1, y2⟩, _⟩
      · omega
      · exact (hG.cov x x1 (by omega)).2 (notIn_between hG.gaps hi.1 y1 (by omega) (by omega))
  · -- .. at its end: nothing new
    obtain ⟨d0, hd0⟩ := hG.startsAt hi hae (by omega)
    have hae' : a = gi.e := by have := hi.2.1; omega
    have hrep : rep = true := by
      cases rep with
      | true => rfl
      | false => obtain ⟨_, _, _, e⟩ := hE.none; rw [hd0] at e; cases e
    subst hrep
    have hA' : A = a := by rw [hA, if_neg (fun e => by cases e.2)]
    rcases hend with ⟨_, e⟩ | ⟨e1, e2⟩
    · omega
    obtain ⟨h, y1, y2⟩ : ∃ h, gs[i + 1]? = some h ∧ a + n < h.s := by
      rcases hj.2 with ⟨x, _⟩ | ⟨_, _, y, _⟩
      · rw [e1] at x; cases x
      · exact y
    have hcov : ∀ x, a ≤ x → x < a + n → Cov q x := fun x x1 x2 => (hG.cov x (by omega) (by omega)).2 (notIn_between hG.gaps hi.1 y1 (by omega) (by omega))
    have hZp := hE.all hG.ap hcov
    have hZ2' : Z2 = pos := by rw [hZ2, if_neg (fun e => e.2.1 (by omega))]; exact hZp
    have hap := (c6 rfl).1
    have hgs6 : gs6 = gs := by
      rcases hU with ⟨u1, _⟩ | ⟨u1, _⟩ | ⟨_, u, _⟩ | ⟨u1, u2, u3, u4⟩
      · omega
      · omega
      · cases u
      · rcases hG1 with ⟨_, v, _⟩ | ⟨_, v⟩
        · rw [u4] at v; cases v
        · rw [v, u3]
    subst hgs6
    have hposz : pos ≤ a + n := by omega
    have hin : ∀ x, InG gs6 x ↔ InG gs6 x ∧ ¬ (a ≤ x ∧ x < a + n) := fun x => by
      refine ⟨fun e => ⟨e, fun c => (hG.cov x (by omega) (by omega)).1 (hcov x c.1 c.2) e⟩, fun e => e.1⟩
    rw [hA', hZ2']
    refine queue6 hG (Nat.le_refl _) hap hposz (by omega) hz (by omega) (fun k d hk => ?_) (fun k d hk => ?_) (fun x _ x2 x3 _ => hcov x x2 x3) hG.gaps hin
    · rw [hq1] at hk
      split at hk
      · cases hk
      · refine ⟨hk, ?_⟩
        rcases Nat.lt_or_ge k a with c | c
        · exact .inl (hG.ap.over hd0 hk c)
        · exact .inr (by omega)
    · by_cases c : a ≤ k ∧ k < pos
      · refine .inr ⟨c.1, ?_⟩
        obtain ⟨k', d', z1, z2, z3, z4, z5⟩ := c4 k c.1 c.2
        rcases Nat.lt_or_ge k' k with c7 | c7
        · have := hG.ap.apart k' d' k d z1 hk c7; omega
        · have : k' = k := by omega
          subst this; rw [z1] at hk; injection hk with hk; subst hk; omega
      · exact .inl (by rw [hq1, if_neg c]; exact hk)
end Go.Proofs.YtdhhccpeikhilaaDoor
