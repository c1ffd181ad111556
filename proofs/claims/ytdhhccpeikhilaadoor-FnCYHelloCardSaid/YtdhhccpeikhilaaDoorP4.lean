/- The frame sorter's plain law: the queue behind a push. No program here. The frame sorter's plain law: a push that starts and ends in one gap. No program here. -/
import Derived.Test.YtdhhccpeikhilaaDoorP2
namespace Go.Proofs.YtdhhccpeikhilaaDoor

/-- The queue's bytes are the stream's. -/
def DataOk (F : Nat → UInt8) (q : Q) : Prop := ∀ k d, q k = some d → ∀ (i : Nat) (x : UInt8), d[i]? = some x → x = F (k + i)

theorem seg_get (l : List UInt8) (a A z i : Nat) (x : UInt8) (h1 : a ≤ A) (h : (seg l a A z)[i]? = some x) : l[A + i - a]? = some x := by
  unfold seg at h
  rw [List.getElem?_take] at h
  split at h
  · rw [List.getElem?_drop] at h
    rwa [show A + i - a = A - a + i from by omega]
  · cases h

theorem putQ_some {q : Q} {p : Nat} {l d : List UInt8} {k : Nat} (h : putQ q p l k = some d) : (k = p ∧ d = l) ∨ (k ≠ p ∧ q k = some d) := by
  unfold putQ at h
  split at h
  · injection h with h; exact .inl ⟨by assumption, h.symm⟩
  · exact .inr ⟨by assumption, h⟩

/-- THE NEW QUEUE: [A, Z2) is one entry; what lay in there is gone, all else stands. -/
theorem queue6 {rp a A Z2 z : Nat} {gs gs6 : List Gap} {q q3 : Q} {l : List UInt8} (hG : Good rp gs q) (haA : a ≤ A) (hAZ : A < Z2) (hZz : Z2 ≤ z) (hrA : rp ≤ A) (hz : z ≤ 16384) (hl : a + l.length = z)
    (h1 : ∀ k d, q3 k = some d → q k = some d ∧ (k + d.length ≤ A ∨ Z2 ≤ k)) (h2 : ∀ k d, q k = some d → q3 k = some d ∨ (A ≤ k ∧ k + d.length ≤ Z2))
    (h3 : ∀ x, rp ≤ x → a ≤ x → x < z → (x < A ∨ Z2 ≤ x) → Cov q x) (hg6 : GapsOk rp gs6) (hin : ∀ x, InG gs6 x ↔ InG gs x ∧ ¬ (a ≤ x ∧ x < z)) :
    Good rp gs6 (putQ q3 A (seg l a A Z2)) ∧ (∀ x, rp ≤ x → (Cov (putQ q3 A (seg l a A Z2)) x ↔ Cov q x ∨ (a ≤ x ∧ x < z))) ∧
      (∀ F : Nat → UInt8, DataOk F q → (∀ i x, l[i]? = some x → x = F (a + i)) → DataOk F (putQ q3 A (seg l a A Z2))) := by
  have hsl : (seg l a A Z2).length = Z2 - A := seg_length _ _ _ _ haA (by omega) (by omega)
  have hcov : ∀ x, rp ≤ x → (Cov (putQ q3 A (seg l a A Z2)) x ↔ Cov q x ∨ (a ≤ x ∧ x < z)) := fun x hx => by
    constructor
    · rintro ⟨k, d, hk, x1, x2⟩
      rcases putQ_some hk with ⟨rfl, rfl⟩ | ⟨_, hk⟩
      · exact .inr ⟨by omega, by omega⟩
      · exact .inl ⟨k, d, (h1 k d hk).1, x1, x2⟩
    · have old : Cov q x → Cov (putQ q3 A (seg l a A Z2)) x := by
        rintro ⟨k, d, hk, x1, x2⟩
        rcases h2 k d hk with h | ⟨y1, y2⟩
        · by_cases e : k = A
          · subst e
            have := (h1 k d h).2
            have := hG.ap.pos hk
            omega
          · exact ⟨k, d, by unfold putQ; rw [if_neg e]; exact h, x1, x2⟩
        · exact ⟨A, _, by unfold putQ; rw [if_pos rfl], by omega, by omega⟩
      rintro (h | ⟨x1, x2⟩)
      · exact old h
      · by_cases e : x < A ∨ Z2 ≤ x
        · exact old (h3 x hx x1 x2 e)
        · exact ⟨A, _, by unfold putQ; rw [if_pos rfl], by omega, by omega⟩
  refine ⟨⟨⟨fun k d hk => ?_, fun k d k' d' hk hk' hlt => ?_⟩, fun k d hk => ?_, hg6, fun x hx hx' => ?_⟩, hcov, fun F hF hlF k d hk i x hx => ?_⟩
  · rcases putQ_some hk with ⟨rfl, rfl⟩ | ⟨_, hk⟩
    · intro e; rw [e] at hsl; simp at hsl; omega
    · exact hG.ap.ne k d (h1 k d hk).1
  · rcases putQ_some hk with ⟨e0, e1⟩ | ⟨e1, hk1⟩ <;> rcases putQ_some hk' with ⟨e2, e3⟩ | ⟨e2, hk2⟩
    · omega
    · have h5 := h1 _ _ hk2; have := hG.ap.pos h5.1; rw [e1]; omega
    · have := h1 _ _ hk1; omega
    · exact hG.ap.apart k d k' d' (h1 _ _ hk1).1 (h1 _ _ hk2).1 hlt
  · rcases putQ_some hk with ⟨rfl, rfl⟩ | ⟨_, hk⟩
    · omega
    · exact hG.ge k d (h1 k d hk).1
  · rw [hcov x hx, hin, hG.cov x hx hx']
    by_cases c1 : InG gs x <;> by_cases c2 : a ≤ x ∧ x < z <;> simp [c1, c2]
  · rcases putQ_some hk with ⟨rfl, rfl⟩ | ⟨_, hk⟩
    · have := hlF _ _ (seg_get _ _ _ _ _ _ haA hx)
      rw [this]; congr 1; omega
    · exact hF k d (h1 k d hk).1 i x hx

/-- What the first loop leaves: the entries from a on, one behind the other, up to pos, are gone. -/
theorem L1.cut {z a pos : Nat} {q q1 : Q} {rep : Bool} (h : L1 z q a q1 pos rep) (hap : Apart q) : a ≤ pos ∧ pos ≤ max a z ∧ (∀ k, q1 k = if a ≤ k ∧ k < pos then none else q k) ∧
    (∀ x, a ≤ x → x < pos → ∃ k d, q k = some d ∧ a ≤ k ∧ k ≤ x ∧ x < k + d.length ∧ k + d.length ≤ pos) ∧ (rep = false → pos = a) ∧ (rep = true → a < pos ∧ ∃ d, q a = some d) := by
  induction h with
  | start => exact ⟨Nat.le_refl _, by omega, fun k => by rw [if_neg (by omega)], fun x _ _ => by omega, fun _ => rfl, by simp⟩
  | @next q1 pos rep d h hd hc ih =>
    obtain ⟨i1, i2, i3, i4, i5, i6⟩ := ih
    have hd' : q pos = some d := by rw [i3, if_neg (by omega)] at hd; exact hd
    have hpos := hap.pos hd'
    refine ⟨by omega, by omega, fun k => ?_, fun x x1 x2 => ?_, by simp, fun _ => ⟨by omega, ?_⟩⟩
    · unfold rmQ
      rw [i3]
      by_cases c : k = pos
      · subst c; rw [if_pos rfl, if_pos (by omega)]
      · rw [if_neg c]
        by_cases c2 : a ≤ k ∧ k < pos
        · rw [if_pos c2, if_pos (by omega)]
        · rw [if_neg c2]
          by_cases c3 : a ≤ k ∧ k < pos + d.length
          · rw [if_pos c3]
            cases hk : q k with
            | none => rfl
            | some e => have := hap.apart pos d k e hd' hk (by omega); omega
          · rw [if_neg c3]
    · rcases Nat.lt_or_ge x pos with c | c
      · obtain ⟨k, e, y1, y2, y3, y4, y5⟩ := i4 x x1 c; exact ⟨k, e, y1, y2, y3, y4, by omega⟩
      · exact ⟨pos, d, hd', i1, c, x2, Nat.le_refl _⟩
    · cases rep with
      | false => have := i5 rfl; rw [← this]; exact ⟨d, hd'⟩
      | true => exact (i6 rfl).2
end Go.Proofs.YtdhhccpeikhilaaDoor
namespace Go.Proofs.YtdhhccpeikhilaaDoor

section
variable {rp a z i j pos Z : Nat} {gs : List Gap} {q q1 : Q} {gi gj : Gap} {rep cut inE : Bool}

theorem Good.notCov (hG : Good rp gs q) {g : Gap} (hg : g ∈ gs) {x : Nat} (h1 : g.s ≤ x) (h2 : x < g.e) : ¬ Cov q x := fun h => by
  rcases Nat.lt_or_ge 16384 x with c | c
  · obtain ⟨k, d, hk, _, h4⟩ := h; have := (hG.ge k d hk).2; omega
  · exact (hG.cov x (Nat.le_trans (hG.gaps.lo g hg) h1) c).1 h ⟨g, hg, h1, h2⟩

/-- No entry starts ahead of an entry and goes over its start. -/
theorem Apart.over (h : Apart q) {k x : Nat} {d e : List UInt8} (hx : q x = some e) (hk : q k = some d) (hlt : k < x) : k + d.length ≤ x := h.apart k d x e hk hx hlt

/-- Ahead of gap i, from a on, nothing is in a gap. -/
theorem StartGap.notIn (hG : GapsOk rp gs) (hi : StartGap gs a i gi) {x : Nat} (h1 : a ≤ x) (h2 : x < gi.s) : ¬ InG gs x := by
  rintro ⟨g, hg, x1, x2⟩
  obtain ⟨k, hk⟩ := List.mem_iff_getElem?.1 hg
  rcases Nat.lt_trichotomy k i with c | c | c
  · have := hi.2.2 k g c hk; omega
  · subst c; have := Option.some.inj (hi.1.symm.trans hk); subst this; omega
  · have := hG.sorted.2 i k gi g hi.1 hk c; have := hG.sorted.1 _ _ hi.1; omega

/-- Behind gap k and ahead of gap k + 1 nothing is in a gap. -/
theorem notIn_between (hG : GapsOk rp gs) {k x : Nat} {g h : Gap} (hg : gs[k]? = some g) (hh : gs[k + 1]? = some h) (h1 : g.e ≤ x) (h2 : x < h.s) : ¬ InG gs x := by
  rintro ⟨f, hf, x1, x2⟩
  obtain ⟨m, hm⟩ := List.mem_iff_getElem?.1 hf
  rcases Nat.lt_trichotomy m k with c | c | c
  · have := hG.sorted.2 m k f g hm hg c; have := hG.sorted.1 _ _ hg; omega
  · subst c; have := Option.some.inj (hg.symm.trans hm); subst this; omega
  · rcases Nat.lt_or_ge (k + 1) m with c2 | c2
    · have := hG.sorted.2 (k + 1) m h f hh hm c2; have := hG.sorted.1 _ _ hh; omega
    · have : m = k + 1 := by omega
      subst this; have := Option.some.inj (hh.symm.trans hm); subst this; omega

/-- THE FIRST LOOP's END, where it replaced something and the bytes from a on reach up to s. -/
theorem L1End.upTo (h : L1End z q a q1 pos true cut Z) (hap : Apart q) {s : Nat} (has : a ≤ s) (hsz : s ≤ z) (hcov : ∀ x, a ≤ x → x < s → Cov q x) (hn : ¬ Cov q s) : pos = s ∧ Z = z := by
  obtain ⟨hL, hE⟩ := h
  obtain ⟨i1, i2, i3, i4, _, i6⟩ := hL.cut hap
  obtain ⟨i6, d0, hd0⟩ := i6 rfl
  have hps : pos ≤ s := by
    rcases Nat.lt_or_ge s pos with c | c
    · obtain ⟨k, d, y1, _, y3, y4, _⟩ := i4 s has c; exact (hn ⟨k, d, y1, y3, y4⟩).elim
    · exact c
  have hqp : q1 pos = q pos := by rw [i3, if_neg (by omega)]
  rw [hqp] at hE
  rcases hE with ⟨e1, _, e2⟩ | ⟨d, e1, e2, e3, _⟩
  · refine ⟨?_, e2⟩
    rcases Nat.lt_or_ge pos s with c | c
    · exfalso
      obtain ⟨k, d, y1, y2, y3⟩ := hcov pos i1 c
      rcases Nat.lt_or_ge k a with c2 | c2
      · have := hap.over hd0 y1 c2; omega
      · have hkp : k < pos := by
          rcases Nat.lt_or_ge k pos with c3 | c3
          · exact c3
          · have : k = pos := by omega
            subst this; rw [e1] at y1; cases y1
        obtain ⟨k', d', z1, z2, z3, z4, z5⟩ := i4 k c2 hkp
        rcases Nat.lt_or_ge k' k with c4 | c4
        · have := hap.apart k' d' k d z1 y1 c4; omega
        · have : k' = k := by omega
          subst this; rw [z1] at y1; injection y1 with y1; subst y1; omega
    · omega
  · exfalso
    have : pos + d.length ≠ z := fun e => e3 ⟨rfl, e⟩
    exact hn ⟨pos, d, e1, hps, by omega⟩

/-- .. and where all of it is there. -/
theorem L1End.all (h : L1End z q a q1 pos true cut Z) (hap : Apart q) (hcov : ∀ x, a ≤ x → x < z → Cov q x) : Z = pos := by
  obtain ⟨hL, hE⟩ := h
  obtain ⟨i1, i2, i3, i4, _, i6⟩ := hL.cut hap
  obtain ⟨i6, d0, hd0⟩ := i6 rfl
  have hqp : q1 pos = q pos := by rw [i3, if_neg (by omega)]
  rw [hqp] at hE
  rcases hE with ⟨e1, _, e2⟩ | ⟨d, _, _, _, _, _, e2⟩
  · rcases Nat.lt_or_ge pos z with c | c
    · exfalso
      obtain ⟨k, d, y1, y2, y3⟩ := hcov pos i1 c
      rcases Nat.lt_or_ge k a with c2 | c2
      · have := hap.over hd0 y1 c2; omega
      · have hkp : k < pos := by
          rcases Nat.lt_or_ge k pos with c3 | c3
          · exact c3
          · have : k = pos := by omega
            subst this; rw [e1] at y1; cases y1
        obtain ⟨k', d', z1, z2, z3, z4, z5⟩ := i4 k c2 hkp
        rcases Nat.lt_or_ge k' k with c4 | c4
        · have := hap.apart k' d' k d z1 y1 c4; omega
        · have : k' = k := by omega
          subst this; rw [z1] at y1; injection y1 with y1; subst y1; omega
    · omega
  · exact e2

/-- .. where it replaced nothing. -/
theorem L1End.none (h : L1End z q a q1 pos false cut Z) : q1 = q ∧ pos = a ∧ Z = z ∧ q a = none := by
  obtain ⟨hL, hE⟩ := h
  have : pos = a ∧ q1 = q := by
    cases hL with
    | start => exact ⟨rfl, rfl⟩
  obtain ⟨rfl, rfl⟩ := this
  rcases hE with ⟨e1, _, e2⟩ | ⟨_, _, _, _, e, _⟩
  · exact ⟨rfl, rfl, e2, e1⟩
  · cases e

/-- Where the frame starts, nothing lies over its start. -/
theorem Good.startsAt (hG : Good rp gs q) (hi : StartGap gs a i gi) (hae : gi.e ≤ a) (ha : a ≤ 16384) : ∃ d, q a = some d := by
  have hgi := List.mem_of_getElem? hi.1
  have hse := hG.gaps.ne gi hgi
  have hae : a = gi.e := by have := hi.2.1; omega
  have hlo := hG.gaps.lo gi hgi
  have hn : ¬ InG gs a := by
    rintro ⟨g, hg, x1, x2⟩
    obtain ⟨k, hk⟩ := List.mem_iff_getElem?.1 hg
    rcases Nat.lt_trichotomy k i with c | c | c
    · have := hi.2.2 k g c hk; omega
    · subst c; have := Option.some.inj (hi.1.symm.trans hk); subst this; omega
    · have := hG.gaps.sorted.2 i k gi g hi.1 hk c; omega
  obtain ⟨k, d, hk, h1, h2⟩ := (hG.cov a (by omega) ha).2 hn
  rcases Nat.lt_or_ge k a with c | c
  · exact (hG.notCov hgi (x := a - 1) (by omega) (by omega) ⟨k, d, hk, by omega, by omega⟩).elim
  · have : k = a := by omega
    subst this; exact ⟨d, hk⟩
end
end Go.Proofs.YtdhhccpeikhilaaDoor
