/- The frame sorter's plain law: the queue behind a push. No program here. -/
import Derived.Test.YtdhhccpeikhilaaDoorP2
namespace Go.Proofs.YtdhhccpeikhilaaDoor

/-- The queue's bytes are the stream's. -/
def DataOk (F : Nat → UInt8) (q : Q) : Prop := ∀ k d, q k = some d → ∀ (i : Nat) (x : UInt8), d[i]? = some x → x = F (k + i)

theorem seg_get (l : List UInt8) (a A z i : Nat) (x : UInt8) (h1 : a ≤ A) (h : (seg l a A z)[i]? = some x) : l[A + i - a]? = some x := by
  unfold seg at h
  rw [List.getElem?_take] at h
  split at h
  · rw [List.getElem?_drop] at h
    rwa [show A + i - a = A - a + i from by omega]
  · cases h

theorem putQ_some {q : Q} {p : Nat} {l d : List UInt8} {k : Nat} (h : putQ q p l k = some d) : (k = p ∧ d = l) ∨ (k ≠ p ∧ q k = some d) := by
  unfold putQ at h
  split at h
  · injection h with h; exact .inl ⟨by assumption, h.symm⟩
  · exact .inr ⟨by assumption, h⟩

/-- THE NEW QUEUE: [A, Z2) is one entry; what lay in there is gone, all else stands. -/
theorem queue6 {rp a A Z2 z : Nat} {gs gs6 : List Gap} {q q3 : Q} {l : List UInt8} (hG : Good rp gs q) (haA : a ≤ A) (hAZ : A < Z2) (hZz : Z2 ≤ z) (hrA : rp ≤ A) (hz : z ≤ 16384) (hl : a + l.length = z)
    (h1 : ∀ k d, q3 k = some d → q k = some d ∧ (k + d.length ≤ A ∨ Z2 ≤ k)) (h2 : ∀ k d, q k = some d → q3 k = some d ∨ (A ≤ k ∧ k + d.length ≤ Z2))
    (h3 : ∀ x, rp ≤ x → a ≤ x → x < z → (x < A ∨ Z2 ≤ x) → Cov q x) (hg6 : GapsOk rp gs6) (hin : ∀ x, InG gs6 x ↔ InG gs x ∧ ¬ (a ≤ x ∧ x < z)) :
    Good rp gs6 (putQ q3 A (seg l a A Z2)) ∧ (∀ x, rp ≤ x → (Cov (putQ q3 A (seg l a A Z2)) x ↔ Cov q x ∨ (a ≤ x ∧ x < z))) ∧
      (∀ F : Nat → UInt8, DataOk F q → (∀ i x, l[i]? = some x → x = F (a + i)) → DataOk F (putQ q3 A (seg l a A Z2))) := by
  have hsl : (seg l a A Z2).length = Z2 - A := seg_length _ _ _ _ haA (by omega) (by omega)
  have hcov : ∀ x, rp ≤ x → (Cov (putQ q3 A (seg l a A Z2)) x ↔ Cov q x ∨ (a ≤ x ∧ x < z)) := fun x hx => by
    constructor
    · rintro ⟨k, d, hk, x1, x2⟩
      rcases putQ_some hk with ⟨rfl, rfl⟩ | ⟨_, hk⟩
      · exact .inr ⟨by omega, by omega⟩
      · exact .inl ⟨k, d, (h1 k d hk).1, x1, x2⟩
    · have old : Cov q x → Cov (putQ q3 A (seg l a A Z2)) x := by
        rintro ⟨k, d, hk, x1, x2⟩
        rcases h2 k d hk with h | ⟨y1, y2⟩
        · by_cases e : k = A
          · subst e
            have := (h1 k d h).2
            have := hG.ap.pos hk
            omega
          · exact ⟨k, d, by unfold putQ; rw [if_neg e]; exact h, x1, x2⟩
        · exact ⟨A, _, by unfold putQ; rw [if_pos rfl], by omega, by omega⟩
      rintro (h | ⟨x1, x2⟩)
      · exact old h
      · by_cases e : x < A ∨ Z2 ≤ x
        · exact old (h3 x hx x1 x2 e)
        · exact ⟨A, _, by unfold putQ; rw [if_pos rfl], by omega, by omega⟩
  refine ⟨⟨⟨fun k d hk => ?_, fun k d k' d' hk hk' hlt => ?_⟩, fun k d hk => ?_, hg6, fun x hx hx' => ?_⟩, hcov, fun F hF hlF k d hk i x hx => ?_⟩
  · rcases putQ_some hk with ⟨rfl, rfl⟩ | ⟨_, hk⟩
    · intro e; rw [e] at hsl; simp at hsl; omega
    · exact hG.ap.ne k d (h1 k d hk).1
  · rcases putQ_some hk with ⟨e0, e1⟩ | ⟨e1, hk1⟩ <;> rcases putQ_some hk' with ⟨e2, e3⟩ | ⟨e2, hk2⟩
    · omega
    · have h5 := h1 _ _ hk2; have := hG.ap.pos h5.1; rw [e1]; omega
    · have := h1 _ _ hk1; omega
    · exact hG.ap.apart k d k' d' (h1 _ _ hk1).1 (h1 _ _ hk2).1 hlt
  · rcases putQ_some hk with ⟨rfl, rfl⟩ | ⟨_, hk⟩
    · omega
    · exact hG.ge k d (h1 k d hk).1
  · rw [hcov x hx, hin, hG.cov x hx hx']
    by_cases c1 : InG gs x <;> by_cases c2 : a ≤ x ∧ x < z <;> simp [c1, c2]
  · rcases putQ_some hk with ⟨rfl, rfl⟩ | ⟨_, hk⟩
    · have := hlF _ _ (seg_get _ _ _ _ _ _ haA hx)
      rw [this]; congr 1; omega
    · exact hF k d (h1 k d hk).1 i x hx

/-- What the first loop leaves: the entries from a on, one behind the other, up to pos, are gone. -/
theorem L1.cut {z a pos : Nat} {q q1 : Q} {rep : Bool} (h : L1 z q a q1 pos rep) (hap : Apart q) : a ≤ pos ∧ pos ≤ max a z ∧ (∀ k, q1 k = if a ≤ k ∧ k < pos then none else q k) ∧
    (∀ x, a ≤ x → x < pos → ∃ k d, q k = some d ∧ a ≤ k ∧ k ≤ x ∧ x < k + d.length ∧ k + d.length ≤ pos) ∧ (rep = false → pos = a) ∧ (rep = true → a < pos ∧ ∃ d, q a = some d) := by
  induction h with
  | start => exact ⟨Nat.le_refl _, by omega, fun k => by rw [if_neg (by omega)], fun x _ _ => by omega, fun _ => rfl, by simp⟩
  | @next q1 pos rep d h hd hc ih =>
    obtain ⟨i1, i2, i3, i4, i5, i6⟩ := ih
    have hd' : q pos = some d := by rw [i3, if_neg (by omega)] at hd; exact hd
    have hpos := hap.pos hd'
    refine ⟨by omega, by omega, fun k => ?_, fun x x1 x2 => ?_, by simp, fun _ => ⟨by omega, ?_⟩⟩
    · unfold rmQ
      rw [i3]
      by_cases c : k = pos
      · subst c; rw [if_pos rfl, if_pos (by omega)]
      · rw [if_neg c]
        by_cases c2 : a ≤ k ∧ k < pos
        · rw [if_pos c2, if_pos (by omega)]
        · rw [if_neg c2]
          by_cases c3 : a ≤ k ∧ k < pos + d.length
          · rw [if_pos c3]
            cases hk : q k with
            | none => rfl
            | some e => have := hap.apart pos d k e hd' hk (by omega); omega
          · rw [if_neg c3]
    · rcases Nat.lt_or_ge x pos with c | c
      · obtain ⟨k, e, y1, y2, y3, y4, y5⟩ := i4 x x1 c; exact ⟨k, e, y1, y2, y3, y4, by omega⟩
      · exact ⟨pos, d, hd', i1, c, x2, Nat.le_refl _⟩
    · cases rep with
      | false => have := i5 rfl; rw [← this]; exact ⟨d, hd'⟩
      | true => exact (i6 rfl).2
end Go.Proofs.YtdhhccpeikhilaaDoor
