/- The frame sorter's plain law: a push over several gaps keeps the sorter's order. No program here. -/
import Derived.Test.YtdhhccpeikhilaaDoorP5
namespace Go.Proofs.YtdhhccpeikhilaaDoor

theorem Good.atGap {rp : Nat} {gs : List Gap} {q : Q} {g : Gap} (hG : Good rp gs q) (hg : g ∈ gs) : (∀ k d, q k = some d → g.s ≤ k → g.e ≤ k) ∧ (∀ k d, q k = some d → k < g.e → k + d.length ≤ g.s) := by
  have hgie := hG.gaps.ne g hg
  have h1 : ∀ k d, q k = some d → g.s ≤ k → g.e ≤ k := fun k d hk h1 => by
    rcases Nat.lt_or_ge k g.e with c | c
    · have := hG.ap.pos hk; exact (hG.notCov hg h1 c ⟨k, d, hk, Nat.le_refl _, by omega⟩).elim
    · exact c
  refine ⟨h1, fun k d hk h2 => ?_⟩
  rcases Nat.lt_or_ge k g.s with c | c
  · rcases Nat.lt_or_ge g.s (k + d.length) with c2 | c2
    · exact (hG.notCov hg (Nat.le_refl _) hgie ⟨k, d, hk, by omega, c2⟩).elim
    · exact c2
  · have := h1 k d hk c; omega

/-- What lies between two gaps goes. -/
theorem del_gap {rp A k : Nat} {gs : List Gap} {q q1 q2 : Q} {g h : Gap} (hG : Good rp gs q) (hg : gs[k]? = some g) (hh : gs[k + 1]? = some h) (hA : A ≤ g.e) (h1 : ∀ m, q1 m = if A ≤ m ∧ m < g.s then none else q m) (hd : DelC q1 g.e q2) :
    ∀ m, q2 m = if A ≤ m ∧ m < h.s then none else q m := by
  have hgm := List.mem_of_getElem? hg
  have hhm := List.mem_of_getElem? hh
  have hge := hG.gaps.ne g hgm
  have hhs := hG.gaps.le_s hhm
  have hhe := hG.gaps.ne h hhm
  have hlt := hG.gaps.sorted.2 k (k + 1) g h hg hh (by omega)
  have hlo := hG.gaps.lo g hgm
  obtain ⟨n1, n2⟩ := hG.atGap hgm
  have some1 : ∀ m d, q1 m = some d → q m = some d := fun m d hm => by
    rw [h1] at hm; split at hm
    · cases hm
    · exact hm
  have hap : Apart q1 := ⟨fun m d hm => hG.ap.ne m d (some1 m d hm), fun m d m' d' hm hm' hl => hG.ap.apart m d m' d' (some1 m d hm) (some1 m' d' hm') hl⟩
  have := del_range hd h.s hap (by omega) (fun x x1 x2 => by
      obtain ⟨m, d, hm, y1, y2⟩ := (hG.cov x (by omega) (by omega)).2 (notIn_between hG.gaps hg hh x1 x2)
      refine ⟨m, d, ?_, y1, y2⟩
      rw [h1, if_neg]
      · exact hm
      · intro c
        have := n2 m d hm (by omega)
        omega) (fun ⟨m, d, hm, y1, y2⟩ => hG.notCov hhm (Nat.le_refl _) hhe ⟨m, d, some1 m d hm, y1, y2⟩)
      (.inr (.inl (fun ⟨m, d, hm, y1, y2⟩ => hG.notCov hgm (x := g.e - 1) (by omega) (by omega) ⟨m, d, some1 m d hm, y1, y2⟩)))
      (fun m d hm hl => by have := n2 m d (some1 m d hm) hl; omega)
  intro m
  rw [this, h1]
  by_cases c1 : g.e ≤ m ∧ m < h.s
  · rw [if_pos c1, if_pos (by omega)]
  · rw [if_neg c1]
    by_cases c2 : A ≤ m ∧ m < g.s
    · rw [if_pos c2, if_pos (by omega)]
    · rw [if_neg c2]
      by_cases c3 : A ≤ m ∧ m < h.s
      · rw [if_pos c3]
        cases hm : q m with
        | none => rfl
        | some d => have := n1 m d hm (by omega); omega
      · rw [if_neg c3]

theorem del_gaps {rp A i j k : Nat} {gs : List Gap} {q q2 q3 : Q} {gn : Gap} (hG : Good rp gs q) (hn : gs[i + 1]? = some gn) (hA : A ≤ gn.s) (h2 : ∀ m, q2 m = if A ≤ m ∧ m < gn.s then none else q m) (hd : DelG gs (i + 1) q2 k q3) (hj : j < gs.length) :
    k ≤ j → i + 1 ≤ k ∧ ∃ g, gs[k]? = some g ∧ A ≤ g.s ∧ ∀ m, q3 m = if A ≤ m ∧ m < g.s then none else q m := by
  induction hd with
  | start => exact fun _ => ⟨Nat.le_refl _, gn, hn, hA, h2⟩
  | @next k g q1 q3 h hg hd ih =>
    intro hk
    obtain ⟨i1, g', i2, i3, i4⟩ := ih (by omega)
    have := Option.some.inj (hg.symm.trans i2)
    subst this
    have hh : gs[k + 1]? = some (gs[k + 1]'(by omega)) := List.getElem?_eq_getElem (by omega)
    have hlt := hG.gaps.sorted.2 k (k + 1) g _ hg hh (by omega)
    have hge := hG.gaps.ne g (List.mem_of_getElem? hg)
    exact ⟨by omega, _, hh, by omega, del_gap hG hg hh (by omega) i4 hd⟩

theorem push2_good {rp a n i j : Nat} {gs gs6 : List Gap} {q q6 : Q} {l : List UInt8} {gi gj : Gap} {inE : Bool} (hG : Good rp gs q) (hij : i < j) (hi : StartGap gs a i gi) (hj : EndAt gs i (a + n) j gj inE) (hn : 0 < n) (hl : l.length = n) (hz : a + n ≤ 16384)
    (h : Push2 gs q l a n gi gj i j inE gs6 q6) : Took rp a n l q gs6 q6 := by
  obtain ⟨q1, pos, rep, cut, Z, A, hd, adj, q2, q3, Z2, hE, hA, hU, hdc, hdg, hZ2, hG6, rfl⟩ := h
  have hgi := List.mem_of_getElem? hi.1
  have hgj := List.mem_of_getElem? hj.1
  have hilt : i < gs.length := (List.getElem?_eq_some_iff.1 hi.1).1
  have hjlt : j < gs.length := (List.getElem?_eq_some_iff.1 hj.1).1
  have hgie := hG.gaps.ne gi hgi
  have hgje := hG.gaps.ne gj hgj
  have hlo := hG.gaps.lo gi hgi
  have hgs := hG.gaps.le_s hgi
  have hsij := hG.gaps.sorted.2 i j gi gj hi.1 hj.1 hij
  obtain ⟨hnext, hbefore⟩ := hG.atGap hgi
  obtain ⟨jnext, jbefore⟩ := hG.atGap hgj
  have hgn : gs[i + 1]? = some (gs[i + 1]'(by omega)) := List.getElem?_eq_getElem (by omega)
  generalize hgne : gs[i + 1]'(by omega) = gn at hgn
  clear hgne
  have hgnm := List.mem_of_getElem? hgn
  have hgns := hG.gaps.le_s hgnm
  have hsn := hG.gaps.sorted.2 i (i + 1) gi gn hi.1 hgn (by omega)
  have hgnj : gn.s ≤ gj.s := by
    rcases Nat.eq_or_lt_of_le (show i + 1 ≤ j from hij) with e | e
    · subst e; have := Option.some.inj (hgn.symm.trans hj.1); rw [this]; exact Nat.le_refl _
    · have := hG.gaps.sorted.2 (i + 1) j gn gj hgn hj.1 e; have := hG.gaps.ne gn hgnm; omega
  obtain ⟨c1, c2, hq1, c4, c5, c6⟩ := hE.1.cut hG.ap
  have hend : gj.s ≤ a + n ∧ ((inE = true ∧ a + n < gj.e) ∨ (inE = false ∧ gj.e ≤ a + n)) := by
    rcases hj.2 with ⟨x, _, y0, y, _⟩ | ⟨x, x0, _, y⟩
    · exact ⟨y0, .inl ⟨x, y⟩⟩
    · have := y j gj (by omega) (Nat.le_refl _) hj.1
      exact ⟨by omega, .inr ⟨x, this⟩⟩
  obtain ⟨hjs, hend⟩ := hend
  obtain ⟨hZ, hAe, haA, hAov, hcA, hrA, hq2, M1, hM1, hM1'⟩ : Z = a + n ∧ A ≤ gi.e ∧ a ≤ A ∧ (∀ k d, q k = some d → k < A → k + d.length ≤ A) ∧ (∀ x, rp ≤ x → a ≤ x → x < A → Cov q x) ∧ rp ≤ A ∧ (∀ m, q2 m = if A ≤ m ∧ m < gn.s then none else q m) ∧
      ∃ M1, hd = gs.take i ++ M1 ∧ ((gi.s < a ∧ ∃ b, M1 = [⟨b, gi.s, a⟩]) ∨ (a ≤ gi.s ∧ M1 = [])) := by
    rcases Nat.lt_or_ge a gi.e with hae | hae
    · cases rep with
      | false =>
        obtain ⟨rfl, rfl, rfl, hqa⟩ := hE.none
        have hA' : (gi.s ≤ pos ∧ A = pos) ∨ (pos < gi.s ∧ A = gi.s) := by
          rw [hA]
          rcases Nat.lt_or_ge pos gi.s with c | c
          · exact .inr ⟨c, by rw [if_pos ⟨decide_eq_false (by omega), rfl⟩]⟩
          · exact .inl ⟨c, by rw [if_neg (fun e => by have := of_decide_eq_false e.1; omega)]⟩
        clear hA hZ2
        have hAs : gi.s ≤ A ∧ A < gi.e := by omega
        refine ⟨rfl, by omega, by omega, fun k d hk hlt => ?_, fun x x1 x2 x3 => ?_, by omega, del_gap hG hi.1 hgn (by omega) (fun m => ?_) hdc, ?_⟩
        · have := hbefore k d hk (by omega); omega
        · exact (hG.cov x x1 (by omega)).2 (hi.notIn hG.gaps x2 (by omega))
        · rw [if_neg (by omega)]
        · rcases hU with ⟨u1, u2, u3, _⟩ | ⟨u1, u2, u3, _⟩ | ⟨u1, u2, u3, _⟩ | ⟨_, u, _⟩
          · exact ⟨[], by rw [u3, List.append_nil], .inr ⟨by omega, rfl⟩⟩
          · omega
          · exact ⟨_, u3, .inl ⟨by omega, gi.b, by rw [show A = pos from by omega]⟩⟩
          · cases u
      | true =>
        obtain ⟨_, d0, hd0⟩ := c6 rfl
        have hags : a < gi.s := by
          rcases Nat.lt_or_ge a gi.s with c | c
          · exact c
          · have := hnext a d0 hd0 c; omega
        have hra := (hG.ge a d0 hd0).1
        have hA' : A = a := by rw [hA, if_neg (fun e => by cases e.2)]
        obtain ⟨hp, hZ⟩ := hE.upTo hG.ap (s := gi.s) (by omega) (by omega) (fun x x1 x2 => (hG.cov x (by omega) (by omega)).2 (hi.notIn hG.gaps x1 x2)) (hG.notCov hgi (Nat.le_refl _) hgie)
        clear hA hZ2
        subst hA'
        refine ⟨hZ, by omega, by omega, fun k d hk hlt => hG.ap.over hd0 hk hlt, fun x x1 x2 x3 => by omega, by omega, del_gap hG hi.1 hgn (by omega) (fun m => ?_) hdc, ?_⟩
        · rw [hq1, hp]
        · rcases hU with ⟨u1, u2, u3, _⟩ | ⟨u1, u2, u3, _⟩ | ⟨_, u, _⟩ | ⟨u, _⟩
          · exact ⟨[], by rw [u3, List.append_nil], .inr ⟨by omega, rfl⟩⟩
          · omega
          · cases u
          · omega
    · obtain ⟨d0, hd0⟩ := hG.startsAt hi hae (by omega)
      have hae' : a = gi.e := by have := hi.2.1; omega
      have hrep : rep = true := by
        cases rep with
        | true => rfl
        | false => obtain ⟨_, _, _, e⟩ := hE.none; rw [hd0] at e; cases e
      subst hrep
      have hA' : A = a := by rw [hA, if_neg (fun e => by cases e.2)]
      have hra := (hG.ge a d0 hd0).1
      obtain ⟨hp, hZ⟩ := hE.upTo hG.ap (s := gn.s) (by omega) (by omega) (fun x x1 x2 => (hG.cov x (by omega) (by omega)).2 (notIn_between hG.gaps hi.1 hgn (by omega) x2)) (hG.notCov hgnm (Nat.le_refl _) (hG.gaps.ne gn hgnm))
      clear hA hZ2
      subst hA'
      refine ⟨hZ, by omega, by omega, fun k d hk hlt => hG.ap.over hd0 hk hlt, fun x x1 x2 x3 => by omega, by omega, fun m => ?_, ?_⟩
      · have hq0 : q1 gi.e = none := by rw [hq1, if_pos (by have := (c6 rfl).1; omega)]
        have : q2 = q1 := by
          cases hdc with
          | stop _ => rfl
          | step hs _ => rw [hq0] at hs; cases hs
        rw [this, hq1, hp]
      · rcases hU with ⟨u, _⟩ | ⟨u, _⟩ | ⟨_, u, _⟩ | ⟨u1, u2, u3, u4⟩
        · omega
        · omega
        · cases u
        · exact ⟨_, u3, .inl ⟨u1, gi.b, by rw [hae']⟩⟩
  obtain ⟨_, gj', hgj', hAj, hq3⟩ := del_gaps hG hgn (by omega) hq2 hdg hjlt (Nat.le_refl _)
  have := Option.some.inj (hj.1.symm.trans hgj')
  subst this
  have hZ2' : (a + n < gj.e → Z2 = a + n) ∧ (gj.e ≤ a + n → Z2 = gj.e) := by
    rcases hend with ⟨e1, e2⟩ | ⟨e1, e2⟩
    · refine ⟨fun _ => ?_, fun _ => by omega⟩
      rw [hZ2, if_neg (fun e => by rw [e1] at e; cases e.1)]; exact hZ
    · refine ⟨fun _ => by omega, fun _ => ?_⟩
      by_cases c : gj.e < Z
      · rw [hZ2, if_pos ⟨e1, by omega, c⟩]
      · rw [hZ2, if_neg (fun e => c e.2.2)]; omega
  have hZ2b : Z2 ≤ a + n ∧ Z2 ≤ gj.e ∧ gj.s ≤ Z2 := by
    rcases Nat.lt_or_ge (a + n) gj.e with c | c
    · have := hZ2'.1 c; omega
    · have := hZ2'.2 c; omega
  have hshape : ∃ M2 : List Gap, gs6 = gs.take i ++ M1 ++ M2 ++ gs.drop (j + 1) ∧ ((a + n < gj.e ∧ ∃ b, M2 = [⟨b, a + n, gj.e⟩]) ∨ (gj.e ≤ a + n ∧ M2 = [])) := by
    rcases hG6 with ⟨v1, v2⟩ | ⟨v1, v2⟩
    · have c : gj.e ≤ a + n := by
        rcases Nat.lt_or_ge (a + n) gj.e with c | c
        · have := hZ2'.1 c; omega
        · exact c
      exact ⟨[], by rw [v2, hM1, List.append_nil], .inr ⟨c, rfl⟩⟩
    · have c : a + n < gj.e := by
        rcases Nat.lt_or_ge (a + n) gj.e with c | c
        · exact c
        · exact (v1 (hZ2'.2 c)).elim
      exact ⟨[⟨gj.b, a + n, gj.e⟩], by rw [v2, hM1, hZ2'.1 c]; simp, .inl ⟨c, gj.b, rfl⟩⟩
  obtain ⟨M2, rfl, m2⟩ := hshape
  obtain ⟨g1, g2⟩ := gaps6 hG.gaps (Nat.le_of_lt hij) hi hj (by omega) hz (by omega) hM1' m2
  refine queue6 hG haA (by omega) hZ2b.1 hrA hz (by omega) (fun k d hk => ?_) (fun k d hk => ?_) (fun x x1 x2 x3 x4 => ?_) g1 g2
  · rw [hq3] at hk
    split at hk
    · cases hk
    · refine ⟨hk, ?_⟩
      rcases Nat.lt_or_ge k A with c | c
      · exact .inl (hAov k d hk c)
      · have := jnext k d hk (by omega); exact .inr (by omega)
  · by_cases c : A ≤ k ∧ k < gj.s
    · have := jbefore k d hk (by omega); exact .inr (by omega)
    · exact .inl (by rw [hq3, if_neg c]; exact hk)
  · rcases x4 with x4 | x4
    · exact hcA x x1 x2 x4
    · have c : gj.e ≤ a + n := by
        rcases Nat.lt_or_ge (a + n) gj.e with c | c
        · have := hZ2'.1 c; omega
        · exact c
      have := hZ2'.2 c
      rcases hj.2 with ⟨_, _, _, y, _⟩ | ⟨_, _, ⟨h, y1, y2⟩, _⟩
      · omega
      · exact (hG.cov x x1 (by omega)).2 (notIn_between hG.gaps hj.1 y1 (by omega) (by omega))
end Go.Proofs.YtdhhccpeikhilaaDoor
