/- The frame sorter's plain law: gaps and queued bytes, what a frame that comes turns in them. No program here. -/
import Init
namespace Go.Proofs.YtdhhccpeikhilaaDoor

/-- A gap: its element's block, where it starts and ends. -/
structure Gap where
  b : Nat
  s : Nat
  e : Nat

/-- The queue: what lies at an offset. -/
abbrev Q := Nat → Option (List UInt8)

def rmQ (q : Q) (k : Nat) : Q := fun j => if j = k then none else q j
def putQ (q : Q) (k : Nat) (l : List UInt8) : Q := fun j => if j = k then some l else q j

inductive DelC : Q → Nat → Q → Prop
  | stop {q p} (h : q p = none) : DelC q p q
  | step {q p d q'} (h : q p = some d) (h' : DelC (rmQ q p) (p + d.length) q') : DelC q p q'

/-- An entry covers a place. -/
def Cov (q : Q) (x : Nat) : Prop := ∃ k d, q k = some d ∧ k ≤ x ∧ x < k + d.length
/-- Entries are not empty and do not overlap. -/
structure Apart (q : Q) : Prop where
  ne : ∀ k d, q k = some d → d ≠ []
  apart : ∀ k d k' d', q k = some d → q k' = some d' → k < k' → k + d.length ≤ k'

theorem Apart.pos {q : Q} (h : Apart q) {k d} (hk : q k = some d) : 0 < d.length := List.length_pos_iff.2 (h.ne k d hk)

theorem rmQ_some {q : Q} {p k d} (h : rmQ q p k = some d) : k ≠ p ∧ q k = some d := by
  unfold rmQ at h; split at h
  · cases h
  · exact ⟨by assumption, h⟩
theorem rmQ_of {q : Q} {p k d} (hne : k ≠ p) (h : q k = some d) : rmQ q p k = some d := by unfold rmQ; rw [if_neg hne]; exact h

theorem Apart.rm {q : Q} (h : Apart q) (p : Nat) : Apart (rmQ q p) :=
  ⟨fun k d hk => h.ne k d (rmQ_some hk).2, fun k d k' d' hk hk' => h.apart k d k' d' (rmQ_some hk).2 (rmQ_some hk').2⟩

/-- An entry begins where a place is covered and the one ahead of it is not (or lies ahead of all entries). -/
theorem starts {q : Q} {x : Nat} (h : Cov q x) (hb : x = 0 ∨ ¬ Cov q (x - 1)) : ∃ d, q x = some d := by
  obtain ⟨k, d, hk, h1, h2⟩ := h
  rcases Nat.lt_or_ge k x with h3 | h3
  · exfalso
    rcases hb with hb | hb
    · omega
    · exact hb ⟨k, d, hk, by omega, by omega⟩
  · have : k = x := by omega
    subst this; exact ⟨d, hk⟩

/-- What goes from p on, where [p, s) is covered and s is not: the entries of [p, s), no others. -/
theorem del_range {q q' : Q} {p : Nat} (h : DelC q p q') : ∀ (s : Nat), Apart q → p ≤ s → (∀ x, p ≤ x → x < s → Cov q x) → ¬ Cov q s → (p = 0 ∨ ¬ Cov q (p - 1) ∨ p = s) →
    (∀ k d, q k = some d → k < p → k + d.length ≤ p) → (∀ k, q' k = if p ≤ k ∧ k < s then none else q k) := by
  induction h with
  | @stop q p hn =>
    intro s ha hps hc hs hb hl k
    have : p = s := by
      rcases Nat.lt_or_ge p s with h | h
      · exfalso
        obtain ⟨k', d, hk', h1, h2⟩ := hc p (Nat.le_refl _) h
        rcases Nat.lt_or_ge k' p with h3 | h3
        · have := hl k' d hk' h3; omega
        · have : k' = p := by omega
          subst this; rw [hn] at hk'; cases hk'
      · omega
    subst this
    rw [if_neg (by omega)]
  | @step q p d q' hd h' ih =>
    intro s ha hps hc hs hb hl k
    have hpos := ha.pos hd
    have hle : p + d.length ≤ s := by
      rcases Nat.lt_or_ge s (p + d.length) with h | h
      · exact (hs ⟨p, d, hd, hps, h⟩).elim
      · exact h
    have hl' : ∀ k e, rmQ q p k = some e → k < p + d.length → k + e.length ≤ p + d.length := by
      intro k e hk hlt
      obtain ⟨hne, hk⟩ := rmQ_some hk
      rcases Nat.lt_or_ge k p with h | h
      · have := hl k e hk h; omega
      · have := ha.apart p d k e hd hk (by omega); omega
    have hcov : ∀ x, Cov q x → (x < p ∨ p + d.length ≤ x) → Cov (rmQ q p) x := by
      rintro x ⟨k', e, hk', h1, h2⟩ hx
      have hne : k' ≠ p := fun e' => by
        subst e'; rw [hd] at hk'; injection hk' with hk'; subst hk'; omega
      exact ⟨k', e, rmQ_of hne hk', h1, h2⟩
    have := ih s (ha.rm p) hle (fun x h1 h2 => hcov x (hc x (by omega) h2) (.inr h1)) (fun ⟨k', e, hk', h1, h2⟩ => hs ⟨k', e, (rmQ_some hk').2, h1, h2⟩)
      (by
        rcases Nat.eq_zero_or_pos (p + d.length) with h0 | h0
        · exact .inl h0
        · refine .inr (.inl ?_)
          rintro ⟨k', e, hk', h1, h2⟩
          have := hl' k' e hk' (by omega)
          obtain ⟨hne, hk'⟩ := rmQ_some hk'
          rcases Nat.lt_or_ge k' p with h | h
          · have := hl k' e hk' h; omega
          · have := ha.apart p d k' e hd hk' (by omega); omega) hl' k
    rw [this]
    by_cases c : k = p
    · subst c
      have e1 : rmQ q k k = none := by unfold rmQ; rw [if_pos rfl]
      rw [e1]
      by_cases c2 : k < s
      · simp [c2]
      · omega
    · have e1 : rmQ q p k = q k := by unfold rmQ; rw [if_neg c]
      rw [e1]
      by_cases c2 : p + d.length ≤ k ∧ k < s
      · rw [if_pos c2, if_pos (by omega)]
      · rw [if_neg c2]
        by_cases c3 : p ≤ k ∧ k < s
        · rw [if_pos c3]
          cases hk : q k with
          | none => rfl
          | some e => have := ha.apart p d k e hd hk (by omega); omega
        · rw [if_neg c3]
end Go.Proofs.YtdhhccpeikhilaaDoor
