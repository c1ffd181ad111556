/- The reference's receiving side keeps step with the stream. -/
import Derived.Test.YtdhhccpeikhilaaDoorE0
namespace Go.Proofs.YtdhhccpeikhilaaDoor
open Go.RowKit

/-- The reference has what the queue covers. -/
def HQ (H : Nat → Bool) (q : Q) : Prop := ∀ k, H k = true ↔ Cov q k

theorem Good.rp_le {rp : Nat} {gs : List Gap} {q : Q} (h : Good rp gs q) : rp ≤ 16384 := by
  obtain ⟨g, hg, _, h2⟩ := h.gaps.last
  have hm := List.mem_of_getLast? hg
  have := h.gaps.lo g hm
  omega
theorem Good.cov_ge {rp : Nat} {gs : List Gap} {q : Q} (h : Good rp gs q) {k : Nat} (hk : Cov q k) : rp ≤ k ∧ k < 16384 := by
  obtain ⟨k0, d, h1, h2, h3⟩ := hk
  have := h.ge k0 d h1
  omega
theorem HQ.took {rp a n : Nat} {l : List UInt8} {gs gs6 : List Gap} {q q6 : Q} {H H' : Nat → Bool} (hG : Good rp gs q) (hH : HQ H q) (hT : Took rp a n l q gs6 q6) (hH' : ∀ k, H' k = (H k || (decide (rp ≤ k) && decide (a ≤ k) && decide (k < a + n)))) : HQ H' q6 := by
  intro k
  rw [hH' k]
  rcases Nat.lt_or_ge k rp with c | c
  · have h1 : H k = false := by
      cases h : H k with
      | false => rfl
      | true => have := (hG.cov_ge ((hH k).1 h)).1; omega
    rw [h1, decide_eq_false (show ¬ rp ≤ k by omega)]
    simp only [Bool.false_and, Bool.or_self, Bool.false_eq_true, false_iff]
    intro h
    have := (hT.1.cov_ge h).1
    omega
  · rw [hT.2.1 k c, ← hH k, decide_eq_true c]
    simp
theorem HQ.pop {rp : Nat} {gs : List Gap} {q : Q} {H H' : Nat → Bool} {d : List UInt8} (hG : Good rp gs q) (hH : HQ H q) (hd : q rp = some d) (hH' : ∀ k, H' k = (H k && !(decide (rp ≤ k) && decide (k < rp + d.length)))) : HQ H' (rmQ q rp) := by
  intro k
  rw [hH' k]
  constructor
  · intro h
    simp only [Bool.and_eq_true, Bool.not_eq_true', Bool.and_eq_false_iff, decide_eq_false_iff_not] at h
    obtain ⟨k0, e, h1, h2, h3⟩ := (hH k).1 h.1
    refine ⟨k0, e, rmQ_of (fun e' => ?_) h1, h2, h3⟩
    subst e'
    rw [hd] at h1; injection h1 with h1; subst h1
    omega
  · rintro ⟨k0, e, h1, h2, h3⟩
    obtain ⟨hne, h1⟩ := rmQ_some h1
    have hc : Cov q k := ⟨k0, e, h1, h2, h3⟩
    have := hG.ap.apart rp d k0 e hd h1 (by have := hG.ge k0 e h1; omega)
    simp only [Bool.and_eq_true, Bool.not_eq_true', Bool.and_eq_false_iff, decide_eq_false_iff_not]
    exact ⟨(hH k).2 hc, .inr (by omega)⟩
theorem HQ.some_iff {rp : Nat} {gs : List Gap} {q : Q} {H : Nat → Bool} (hG : Good rp gs q) (hH : HQ H q) : (∃ k, H k = true) ↔ ∃ k, q k ≠ none := by
  constructor
  · rintro ⟨k, hk⟩
    obtain ⟨k0, d, h1, _⟩ := (hH k).1 hk
    exact ⟨k0, by rw [h1]; simp⟩
  · rintro ⟨k, hk⟩
    cases hq : q k with
    | none => exact (hk hq).elim
    | some d => exact ⟨k, (hH k).2 ⟨k, d, hq, Nat.le_refl _, by have := hG.ap.pos hq; omega⟩⟩
theorem HQ.ready_some {rp n : Nat} {q : Q} {H : Nat → Bool} {d : List UInt8} (hH : HQ H q) (hd : q rp = some d) (hn : H (rp + n) = false) : d.length ≤ n := by
  rcases Nat.lt_or_ge n d.length with c | c
  · have := (hH (rp + n)).2 ⟨rp, d, hd, by omega, by omega⟩
    rw [hn] at this; cases this
  · exact c
theorem HQ.ready_none {rp n : Nat} {gs : List Gap} {q : Q} {H : Nat → Bool} (hG : Good rp gs q) (hH : HQ H q) (hd : q rp = none) (hn : ∀ k, rp ≤ k → k < rp + n → H k = true) : n = 0 := by
  rcases Nat.eq_zero_or_pos n with c | c
  · exact c
  · obtain ⟨k0, e, h1, h2, h3⟩ := (hH rp).1 (hn rp (Nat.le_refl _) (by omega))
    have := (hG.ge k0 e h1).1
    have e' : k0 = rp := by omega
    subst e'; rw [hd] at h1; cases h1
theorem data_bytes {rp : Nat} {q : Q} {d : List UInt8} (h : DataOk FB q) (hd : q rp = some d) : d = fB rp d.length := by
  apply List.ext_getElem?
  intro i
  rcases Nat.lt_or_ge i d.length with c | c
  · have h1 := h rp d hd i _ (List.getElem?_eq_getElem c)
    have h2 : (fB rp d.length)[i]? = some ((fB rp d.length)[i]'(by rw [fB_length]; exact c)) := List.getElem?_eq_getElem _
    rw [List.getElem?_eq_getElem c, h2, h1, (fB_get h2).2]
  · rw [List.getElem?_eq_none c, List.getElem?_eq_none (by rw [fB_length]; exact c)]

/-- The reference's state in memory, in step with the stream's. -/
def SpecAt (w : World) (b r : Nat) (s : RS) : Prop :=
  ∃ H, Blk w b (cyC r s.rp s.hi s.fin (.slice none 0 0) 0) 35 ∧ HaveAt w r H ∧ HQ H s.q ∧ DataOk FB s.q ∧ Good s.rp s.gs s.q

theorem SpecAt.grow {w w' : World} {b r : Nat} {s : RS} (h : SpecAt w b r s) (hg : Grow w w') : SpecAt w' b r s := by
  obtain ⟨H, h1, h2, h3⟩ := h
  exact ⟨H, hg.blk h1 (fun e => e), h2.same (hg.block r h2.lt (fun e => e)), h3⟩

theorem came_step (w : World) (b r n : Nat) (s s' : RS) (x : Stp) (y : Sn) (h : SpecAt w b r s) (hk : x.kind = 0) (hR : RStep s x y s') (hd : x.data = fB x.off n) (hn : x.data.length = n) (hx : x.off ≤ 1000000) (hl : n ≤ 1000000) :
    Calls Tryd.prog 9 #[pt b, .int .i64 (x.off : Int), .int .i64 (n : Int)] w fun e w' => e = .returned (.int .i64 (y.code : Int)) ∧ SpecAt w' b r s' ∧ Fr (fun k => k = b ∨ k = r) w w' := by
  obtain ⟨rp, hi, fin, gs, q⟩ := s
  obtain ⟨H, h1, h2, h3, h4, h5⟩ := h
  obtain ⟨_, _, hR⟩ := hR
  rcases hR with ⟨_, _, _, hR⟩ | ⟨e, _⟩ | ⟨e, _⟩
  · rw [hn] at hR
    rcases hR with ⟨g1, g2, rfl⟩ | ⟨g1, g2, g3, g4, rfl⟩ | ⟨g1, g2, g3, g4, rfl⟩ | ⟨g1, g2, g3, g4, g5, g6, g7, _⟩
    · refine (came_far w b x.off n hx hl g1).mono ?_
      rintro e w' ⟨rfl, rfl⟩
      exact ⟨by rw [g2]; rfl, ⟨H, h1, h2, h3, h4, h5⟩, Fr.refl _ _⟩
    · have g2 : fin = true := g2
      subst g2
      refine (came_late w b r rp hi 0 x.off n _ h1 g1 g3).mono ?_
      rintro e w' ⟨rfl, rfl⟩
      exact ⟨by rw [g4]; rfl, ⟨H, h1, h2, h3, h4, h5⟩, Fr.refl _ _⟩
    · have g2 : fin = true := g2
      subst g2
      refine (came_old w b r rp hi 0 x.off n _ h1 g1 g3).mono ?_
      rintro e w' ⟨rfl, rfl⟩
      exact ⟨by rw [g4]; rfl, ⟨H, h1, h2, h3, h4, h5⟩, Fr.refl _ _⟩
    · have g2 : fin = false := g2
      subst g2
      obtain ⟨rp', hi', fin', gs', q'⟩ := s'
      simp only at g4 g5 g6
      subst g4
      subst g5
      subst g6
      have hrp : rp' ≤ 16384 := h5.rp_le
      refine (came_new w b r rp' hi 0 x.off n _ H h1 h2 g1 hrp).mono ?_
      rintro e w' ⟨rfl, hB, ⟨H', hH', hHk⟩, hF⟩
      exact ⟨by rw [g3]; rfl, ⟨H', hB, hH', HQ.took h5 h3 g7 hHk, g7.2.2 FB h4 (fun i z hz => by rw [hd] at hz; exact (fB_get hz).2), g7.1⟩, hF⟩
  · omega
  · omega

theorem ready_step (w : World) (b r : Nat) (s s' : RS) (x : Stp) (y : Sn) (h : SpecAt w b r s) (hk : x.kind = 1) (hR : RStep s x y s') :
    Calls Tryd.prog 10 #[pt b] w fun e w' => w = w' ∧ ∃ n : Nat, e = .returned (.int .i64 (n : Int)) ∧ y.data.length ≤ n ∧ (n = 0 ↔ y.data.length = 0) ∧ n ≤ 16384 := by
  obtain ⟨rp, hi, fin, gs, q⟩ := s
  obtain ⟨H, h1, h2, h3, h4, h5⟩ := h
  refine (ready_any w b r rp hi 0 fin _ H h1 h2 h5.rp_le (fun k hk => ?_)).mono ?_
  · cases hH : H k with
    | false => rfl
    | true => have := (h5.cov_ge ((h3 k).1 hH)).2; omega
  · rintro e w' ⟨rfl, n, rfl, g1, g2, g3⟩
    refine ⟨rfl, n, rfl, ?_⟩
    obtain ⟨_, _, hR⟩ := hR
    rcases hR with ⟨e, _⟩ | ⟨_, _, hR⟩ | ⟨e, _⟩
    · omega
    · rcases hR with ⟨d, k1, k2, k3, rfl⟩ | ⟨k1, k2, k3, rfl⟩
      · have hn := HQ.ready_some h3 k1 g2
        have hpos := h5.ap.pos k1
        rw [k3]
        exact ⟨hn, ⟨fun e => by omega, fun e => by omega⟩, g3⟩
      · have hn := HQ.ready_none h5 h3 k1 g1
        rw [k3]
        exact ⟨by simp, by simp [hn], g3⟩
    · omega

theorem take_step (w : World) (b r : Nat) (s s' : RS) (x : Stp) (y : Sn) (h : SpecAt w b r s) (hk : x.kind = 1) (hR : RStep s x y s') :
    Calls Tryd.prog 12 #[pt b, .int .i64 (y.data.length : Int)] w fun e w' => e = .returned (.tuple #[]) ∧ SpecAt w' b r s' ∧ Fr (fun k => k = b ∨ k = r) w w' := by
  obtain ⟨rp, hi, fin, gs, q⟩ := s
  obtain ⟨H, h1, h2, h3, h4, h5⟩ := h
  have hrp : rp ≤ 16384 := h5.rp_le
  obtain ⟨_, _, hR⟩ := hR
  rcases hR with ⟨e, _⟩ | ⟨_, _, hR⟩ | ⟨e, _⟩
  · omega
  · rcases hR with ⟨d, k1, k2, k3, rfl⟩ | ⟨k1, k2, k3, rfl⟩
    · have hlen := (h5.ge rp d k1).2
      rw [k3]
      refine (take_any w b r rp hi 0 d.length fin _ H h1 h2 (by omega) (by omega)).mono ?_
      rintro e w' ⟨rfl, hB, ⟨H', hH', hHk⟩, hF⟩
      exact ⟨rfl, ⟨H', hB, hH', HQ.pop h5 h3 k1 hHk, fun k d' hk' => h4 k d' (rmQ_some hk').2, h5.pop k1⟩, hF⟩
    · rw [k3]
      refine (take_any w b r rp hi 0 0 fin _ H h1 h2 (by omega) (by omega)).mono ?_
      rintro e w' ⟨rfl, hB, ⟨H', hH', hHk⟩, hF⟩
      have : H' = H := funext fun k => by
        rw [hHk k]
        have : (decide (rp ≤ k) && decide (k < rp + 0)) = false := by
          by_cases c : rp ≤ k
          · rw [decide_eq_false (show ¬ k < rp + 0 by omega), Bool.and_false]
          · rw [decide_eq_false c, Bool.false_and]
        rw [this]; simp
      subst this
      exact ⟨rfl, ⟨H', hB, hH', h3, h4, h5⟩, hF⟩
  · omega

theorem finish_step (w : World) (b r : Nat) (s s' : RS) (x : Stp) (y : Sn) (h : SpecAt w b r s) (hk : x.kind = 2) (hR : RStep s x y s') :
    Calls Tryd.prog 13 #[pt b] w fun e w' => e = .returned (.int .i64 (y.code : Int)) ∧ SpecAt w' b r s' ∧ Fr (fun k => k = b ∨ k = r) w w' := by
  obtain ⟨rp, hi, fin, gs, q⟩ := s
  obtain ⟨H, h1, h2, h3, h4, h5⟩ := h
  have hs := HQ.some_iff h5 h3
  obtain ⟨_, _, hR⟩ := hR
  rcases hR with ⟨e, _⟩ | ⟨e, _⟩ | ⟨_, _, _, hR⟩
  · omega
  · omega
  · refine (cyfinish_any w b r rp hi 0 fin _ H h1 h2).mono ?_
    rintro e w' (⟨g1, rfl, rfl⟩ | ⟨g1, rfl, g2, g3, g4⟩)
    · rcases hR with ⟨k1, k2, rfl⟩ | ⟨k1, k2, rfl⟩
      · exact ⟨by rw [k2]; rfl, ⟨H, h1, h2, h3, h4, h5⟩, Fr.refl _ _⟩
      · obtain ⟨k, hk⟩ := hs.1 g1
        exact (hk (k1 k)).elim
    · rcases hR with ⟨k1, k2, rfl⟩ | ⟨k1, k2, rfl⟩
      · obtain ⟨k, hk⟩ := hs.2 k1
        rw [g1 k] at hk; cases hk
      · exact ⟨by rw [k2]; rfl, ⟨H, g2, g3, h3, h4, h5⟩, g4.mono (fun k _ hk => .inl hk)⟩
end Go.Proofs.YtdhhccpeikhilaaDoor
