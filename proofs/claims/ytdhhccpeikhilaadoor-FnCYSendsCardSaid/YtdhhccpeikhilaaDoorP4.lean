/- The frame sorter's plain law: a push that starts and ends in one gap. No program here. -/
import Derived.Test.YtdhhccpeikhilaaDoorP3
namespace Go.Proofs.YtdhhccpeikhilaaDoor

section
variable {rp a z i j pos Z : Nat} {gs : List Gap} {q q1 : Q} {gi gj : Gap} {rep cut inE : Bool}

theorem Good.notCov (hG : Good rp gs q) {g : Gap} (hg : g ∈ gs) {x : Nat} (h1 : g.s ≤ x) (h2 : x < g.e) : ¬ Cov q x := fun h => by
  rcases Nat.lt_or_ge 16384 x with c | c
  · obtain ⟨k, d, hk, _, h4⟩ := h; have := (hG.ge k d hk).2; omega
  · exact (hG.cov x (Nat.le_trans (hG.gaps.lo g hg) h1) c).1 h ⟨g, hg, h1, h2⟩

/-- No entry starts ahead of an entry and goes over its start. -/
theorem Apart.over (h : Apart q) {k x : Nat} {d e : List UInt8} (hx : q x = some e) (hk : q k = some d) (hlt : k < x) : k + d.length ≤ x := h.apart k d x e hk hx hlt

/-- Ahead of gap i, from a on, nothing is in a gap. -/
theorem StartGap.notIn (hG : GapsOk rp gs) (hi : StartGap gs a i gi) {x : Nat} (h1 : a ≤ x) (h2 : x < gi.s) : ¬ InG gs x := by
  rintro ⟨g, hg, x1, x2⟩
  obtain ⟨k, hk⟩ := List.mem_iff_getElem?.1 hg
  rcases Nat.lt_trichotomy k i with c | c | c
  · have := hi.2.2 k g c hk; omega
  · subst c; have := Option.some.inj (hi.1.symm.trans hk); subst this; omega
  · have := hG.sorted.2 i k gi g hi.1 hk c; have := hG.sorted.1 _ _ hi.1; omega

/-- Behind gap k and ahead of gap k + 1 nothing is in a gap. -/
theorem notIn_between (hG : GapsOk rp gs) {k x : Nat} {g h : Gap} (hg : gs[k]? = some g) (hh : gs[k + 1]? = some h) (h1 : g.e ≤ x) (h2 : x < h.s) : ¬ InG gs x := by
  rintro ⟨f, hf, x1, x2⟩
  obtain ⟨m, hm⟩ := List.mem_iff_getElem?.1 hf
  rcases Nat.lt_trichotomy m k with c | c | c
  · have := hG.sorted.2 m k f g hm hg c; have := hG.sorted.1 _ _ hg; omega
  · subst c; have := Option.some.inj (hg.symm.trans hm); subst this; omega
  · rcases Nat.lt_or_ge (k + 1) m with c2 | c2
    · have := hG.sorted.2 (k + 1) m h f hh hm c2; have := hG.sorted.1 _ _ hh; omega
    · have : m = k + 1 := by omega
      subst this; have := Option.some.inj (hh.symm.trans hm); subst this; omega

/-- THE FIRST LOOP's END, where it replaced something and the bytes from a on reach up to s. -/
theorem L1End.upTo (h : L1End z q a q1 pos true cut Z) (hap : Apart q) {s : Nat} (has : a ≤ s) (hsz : s ≤ z) (hcov : ∀ x, a ≤ x → x < s → Cov q x) (hn : ¬ Cov q s) : pos = s ∧ Z = z := by
  obtain ⟨hL, hE⟩ := h
  obtain ⟨i1, i2, i3, i4, _, i6⟩ := hL.cut hap
  obtain ⟨i6, d0, hd0⟩ := i6 rfl
  have hps : pos ≤ s := by
    rcases Nat.lt_or_ge s pos with c | c
    · obtain ⟨k, d, y1, _, y3, y4, _⟩ := i4 s has c; exact (hn ⟨k, d, y1, y3, y4⟩).elim
    · exact c
  have hqp : q1 pos = q pos := by rw [i3, if_neg (by omega)]
  rw [hqp] at hE
  rcases hE with ⟨e1, _, e2⟩ | ⟨d, e1, e2, e3, _⟩
  · refine ⟨?_, e2⟩
    rcases Nat.lt_or_ge pos s with c | c
    · exfalso
      obtain ⟨k, d, y1, y2, y3⟩ := hcov pos i1 c
      rcases Nat.lt_or_ge k a with c2 | c2
      · have := hap.over hd0 y1 c2; omega
      · have hkp : k < pos := by
          rcases Nat.lt_or_ge k pos with c3 | c3
          · exact c3
          · have : k = pos := by omega
            subst this; rw [e1] at y1; cases y1
        obtain ⟨k', d', z1, z2, z3, z4, z5⟩ := i4 k c2 hkp
        rcases Nat.lt_or_ge k' k with c4 | c4
        · have := hap.apart k' d' k d z1 y1 c4; omega
        · have : k' = k := by omega
          subst this; rw [z1] at y1; injection y1 with y1; subst y1; omega
    · omega
  · exfalso
    have : pos + d.length ≠ z := fun e => e3 ⟨rfl, e⟩
    exact hn ⟨pos, d, e1, hps, by omega⟩

/-- .. and where all of it is there. -/
theorem L1End.all (h : L1End z q a q1 pos true cut Z) (hap : Apart q) (hcov : ∀ x, a ≤ x → x < z → Cov q x) : Z = pos := by
  obtain ⟨hL, hE⟩ := h
  obtain ⟨i1, i2, i3, i4, _, i6⟩ := hL.cut hap
  obtain ⟨i6, d0, hd0⟩ := i6 rfl
  have hqp : q1 pos = q pos := by rw [i3, if_neg (by omega)]
  rw [hqp] at hE
  rcases hE with ⟨e1, _, e2⟩ | ⟨d, _, _, _, _, _, e2⟩
  · rcases Nat.lt_or_ge pos z with c | c
    · exfalso
      obtain ⟨k, d, y1, y2, y3⟩ := hcov pos i1 c
      rcases Nat.lt_or_ge k a with c2 | c2
      · have := hap.over hd0 y1 c2; omega
      · have hkp : k < pos := by
          rcases Nat.lt_or_ge k pos with c3 | c3
          · exact c3
          · have : k = pos := by omega
            subst this; rw [e1] at y1; cases y1
        obtain ⟨k', d', z1, z2, z3, z4, z5⟩ := i4 k c2 hkp
        rcases Nat.lt_or_ge k' k with c4 | c4
        · have := hap.apart k' d' k d z1 y1 c4; omega
        · have : k' = k := by omega
          subst this; rw [z1] at y1; injection y1 with y1; subst y1; omega
    · omega
  · exact e2

/-- .. where it replaced nothing. -/
theorem L1End.none (h : L1End z q a q1 pos false cut Z) : q1 = q ∧ pos = a ∧ Z = z ∧ q a = none := by
  obtain ⟨hL, hE⟩ := h
  have : pos = a ∧ q1 = q := by
    cases hL with
    | start => exact ⟨rfl, rfl⟩
  obtain ⟨rfl, rfl⟩ := this
  rcases hE with ⟨e1, _, e2⟩ | ⟨_, _, _, _, e, _⟩
  · exact ⟨rfl, rfl, e2, e1⟩
  · cases e

/-- Where the frame starts, nothing lies over its start. -/
theorem Good.startsAt (hG : Good rp gs q) (hi : StartGap gs a i gi) (hae : gi.e ≤ a) (ha : a ≤ 16384) : ∃ d, q a = some d := by
  have hgi := List.mem_of_getElem? hi.1
  have hse := hG.gaps.ne gi hgi
  have hae : a = gi.e := by have := hi.2.1; omega
  have hlo := hG.gaps.lo gi hgi
  have hn : ¬ InG gs a := by
    rintro ⟨g, hg, x1, x2⟩
    obtain ⟨k, hk⟩ := List.mem_iff_getElem?.1 hg
    rcases Nat.lt_trichotomy k i with c | c | c
    · have := hi.2.2 k g c hk; omega
    · subst c; have := Option.some.inj (hi.1.symm.trans hk); subst this; omega
    · have := hG.gaps.sorted.2 i k gi g hi.1 hk c; omega
  obtain ⟨k, d, hk, h1, h2⟩ := (hG.cov a (by omega) ha).2 hn
  rcases Nat.lt_or_ge k a with c | c
  · exact (hG.notCov hgi (x := a - 1) (by omega) (by omega) ⟨k, d, hk, by omega, by omega⟩).elim
  · have : k = a := by omega
    subst this; exact ⟨d, hk⟩
end
end Go.Proofs.YtdhhccpeikhilaaDoor
