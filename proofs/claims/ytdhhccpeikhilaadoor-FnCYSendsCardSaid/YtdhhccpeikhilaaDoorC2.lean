/- A CRYPTO stream that receives: what is read, that it is finished. -/
import Derived.Test.YtdhhccpeikhilaaDoorC1
namespace Go.Proofs.YtdhhccpeikhilaaDoor
open Go.RowKit

theorem Good.pop {rp : Nat} {gs : List Gap} {q : Q} (hG : Good rp gs q) {d : List UInt8} (hd : q rp = some d) : Good (rp + d.length) gs (rmQ q rp) := by
  have hpos := hG.ap.pos hd
  refine ⟨hG.ap.rm rp, fun k e hk => ?_, ⟨hG.gaps.pw, hG.gaps.ne, fun g hg => ?_, hG.gaps.last⟩, fun x hx hx' => ?_⟩
  · obtain ⟨hne, hk⟩ := rmQ_some hk
    have h1 := hG.ge k e hk
    have := hG.ap.apart rp d k e hd hk (by omega)
    exact ⟨this, h1.2⟩
  · have h1 := hG.gaps.lo g hg
    have h2 := hG.gaps.ne g hg
    rcases Nat.lt_or_ge g.s (rp + d.length) with c | c
    · exact (hG.notCov hg (Nat.le_refl _) h2 ⟨rp, d, hd, h1, c⟩).elim
    · exact c
  · rw [← hG.cov x (by omega) hx']
    constructor
    · rintro ⟨k, e, hk, x1, x2⟩; exact ⟨k, e, (rmQ_some hk).2, x1, x2⟩
    · rintro ⟨k, e, hk, x1, x2⟩
      have : k ≠ rp := fun e' => by
        subst e'; rw [hd] at hk; injection hk with hk; subst hk; omega
      exact ⟨k, e, rmQ_of this hk, x1, x2⟩

/-- THE NEXT DATA: there are some. -/
theorem data_some (w : World) (b r bL rp hi wo : Nat) (fin : Bool) (wb : Value) (gs : List Gap) (q : Q) (d : List UInt8) (hC : CryAt w b r bL rp hi fin wo wb gs q) (hG : Good rp gs q) (hd : q rp = some d) :
    Calls Tryd.prog 37 #[pt b] w fun e w' => ∃ s, e = .returned s ∧ Rd w' s d ∧ CryAt w' b r bL (rp + d.length) hi fin wo wb gs (rmQ q rp) ∧ Fr (fun k => k = b ∨ k = r) w w' := by
  obtain ⟨hb, hL, hq⟩ := hC
  obtain ⟨k, gl, hk, _⟩ := hG.gaps.lastAt
  have hne : 0 < gs.length := by have := (List.getElem?_eq_some_iff.1 hk).1; omega
  obtain ⟨g0, hg0⟩ : ∃ g, gs[0]? = some g := ⟨_, List.getElem?_eq_getElem hne⟩
  have hP := hG.pop hd
  have h1 := hP.gaps.lo g0 (List.mem_of_getElem? hg0)
  have h2 := hP.gaps.ne g0 (List.mem_of_getElem? hg0)
  have hmx : g0.e ≤ MAXB := by
    obtain ⟨m, gl, hm, he, _⟩ := hG.gaps.lastAt
    unfold MAXB
    rcases Nat.eq_zero_or_pos m with e | e
    · subst e; have := Option.some.inj (hm.symm.trans hg0); rw [← this, he]; exact Nat.le_refl _
    · have := hG.gaps.sorted.2 0 m g0 gl hg0 hm e; have := hG.gaps.sorted.1 _ _ hm; omega
  have hlt := hb.lt
  have hpop := popS_some w b r rp bL gs g0 hb rfl rfl rfl (by decide) (by decide) (by decide) hL hg0 q hq d hd (by omega) hmx
  have hbL : bL ≠ b := fun e => by subst e; exact absurd (hb.unique hL.root).2 (by decide)
  go_enter Tryd.func37, Tryd.ntmps37
  go_wp2_with (go_at_call 48; refine hpop.mono ?_; rintro e w' ⟨⟨s, rfl, hs⟩, hF, hB, hq'⟩)
  go_ret
  refine ⟨s, rfl, hs, ⟨hB, hL.fr hF ?_, hq'⟩, hF⟩
  rintro k (rfl | rfl) hk
  · exact pushS_ne hq hL hb (by decide) (by decide) (.inr hk)
  · exact pushS_rlist hq hL hk

theorem data_none (w : World) (b r bL rp hi wo : Nat) (fin : Bool) (wb : Value) (gs : List Gap) (q : Q) (hC : CryAt w b r bL rp hi fin wo wb gs q) (hd : q rp = none) :
    Calls Tryd.prog 37 #[pt b] w fun e w' => e = .returned (.slice none 0 0) ∧ Grow w w' := by
  obtain ⟨hb, hL, hq⟩ := hC
  have hlt := hb.lt
  have hpop := popS_none w b r rp hb rfl rfl q hq hd
  go_enter Tryd.func37, Tryd.ntmps37
  go_wp2_with (go_at_call 48; refine hpop.mono ?_; rintro e w' ⟨rfl, hF⟩)
  go_ret
  exact ⟨rfl, hF⟩

/-- IT IS FINISHED: with bytes left that is an error. -/
theorem finish_more (w : World) (b r bL rp hi wo : Nat) (fin : Bool) (wb : Value) (gs : List Gap) (q : Q) (hC : CryAt w b r bL rp hi fin wo wb gs q) (hm : ∃ k, q k ≠ none) :
    Calls Tryd.prog 38 #[pt b] w fun e w' => Grow w w' ∧ ∃ be c, e = .returned (.iface 74 (pt be)) ∧ Blk w' be c 79 ∧ c[1]? = some (.int .u64 10) := by
  obtain ⟨hb, hL, hq⟩ := hC
  have hlt := hb.lt
  have hh := hasMore_any w b r hb rfl q hq
  obtain ⟨k, hk⟩ := hm
  go_enter Tryd.func38, Tryd.ntmps38
  go_wp2_with (go_at_call 49; refine hh.mono ?_; rintro e w' ⟨rfl, ⟨rfl, hx⟩ | ⟨rfl, _⟩⟩; exact (hk (hx k)).elim)
  go_ret
  exact ⟨(Fr.refl _ _).alloc _, w.heap.size, _, rfl, Blk.new w _ _, rfl⟩
theorem finish_done (w : World) (b r bL rp hi wo : Nat) (fin : Bool) (wb : Value) (gs : List Gap) (q : Q) (hC : CryAt w b r bL rp hi fin wo wb gs q) (hm : ∀ k, q k = none) :
    Calls Tryd.prog 38 #[pt b] w fun e w' => e = .returned .nilIface ∧ CryAt w' b r bL rp hi true wo wb gs q ∧ Fr (fun k => k = b) w w' := by
  obtain ⟨hb, hL, hq⟩ := hC
  have hlt := hb.lt
  have hfr := hb.free
  have c4 : w.cell? ⟨b, 4, none⟩ = some (.bool fin) := hb.cellAt 4 _ rfl
  have hh := hasMore_any w b r hb rfl q hq
  go_enter Tryd.func38, Tryd.ntmps38
  go_wp2_with (go_at_call 49; refine hh.mono ?_; rintro e w' ⟨rfl, ⟨rfl, _⟩ | ⟨rfl, k, hx⟩⟩; rotate_left; exact (hx (hm k)).elim)
  go_ret
  have hF : Fr (fun k => k = b) w (w.setCell ⟨b, 4, none⟩ (.bool true)) := (Fr.refl _ _).setCell _ _ (.inl rfl)
  exact ⟨rfl, ⟨hb.set 4 _, hL.fr hF (fun k hk => by rw [show k = b from hk]; exact fun e => pushS_ne hq hL hb (by decide) (by decide) (.inr e)), hq.setCell _ _ hb (by decide)⟩, hF⟩
end Go.Proofs.YtdhhccpeikhilaaDoor
