/- A CRYPTO stream that receives: HandleCryptoFrame. A CRYPTO stream that receives: what is read, that it is finished. The plain CRYPTO stream behind its door: made, and handed on. -/
import Derived.Test.YtdhhccpeikhilaaDoorS14
import Derived.StillTailTactics
namespace Go.Proofs.YtdhhccpeikhilaaDoor
open Go.RowKit

abbrev cryC (r bL rp hi : Nat) (fin : Bool) (wo : Nat) (wb : Value) : Array Value := #[.map (some r), .int .i64 (rp : Int), pt bL, .int .i64 (hi : Int), .bool fin, .int .i64 (wo : Int), wb]

/-- A CRYPTO stream at block b. -/
structure CryAt (w : World) (b r bL rp hi : Nat) (fin : Bool) (wo : Nat) (wb : Value) (gs : List Gap) (q : Q) : Prop where
  blk : Blk w b (cryC r bL rp hi fin wo wb) 99
  L : ListAt w bL gs
  Q : QAt w r q

set_option maxRecDepth 100000 in
set_option maxHeartbeats 1000000 in
theorem handle_far (w : World) (b bf a n : Nat) (p : Option Addr) (cap : Nat) (hf : Blk w bf #[.int .i64 (a : Int), .slice p n cap] 69) (ha : a ≤ 1000000) (hn : n ≤ 1000000) (hfar : 16384 < a + n) :
    Calls Tryd.prog 36 #[pt b, pt bf] w fun e w' => Grow w w' ∧ ∃ be c, e = .returned (.iface 74 (pt be)) ∧ Blk w' be c 79 ∧ c[1]? = some (.int .u64 13) := by
  have f0 := hf.cellAt 0 _ rfl
  have f1 := hf.cellAt 1 _ rfl
  have hlt := hf.lt
  go_enter Tryd.func36, Tryd.ntmps36
  go_wp2_with fail
  go_quiet (fail)
  generalize hwq : w.drewN nq = wd
  have hG : Grow w wd := hwq ▸ drewN_grow w nq
  clear hwq
  go_wp2_with fail
  go_ret
  exact ⟨hG.alloc _, wd.heap.size, _, rfl, Blk.new wd _ _, rfl⟩

set_option maxRecDepth 100000 in
set_option maxHeartbeats 1000000 in
theorem handle_late (w : World) (b r bL rp hi wo bf a n : Nat) (wb : Value) (p : Option Addr) (cap : Nat) (hb : Blk w b (cryC r bL rp hi true wo wb) 99) (hf : Blk w bf #[.int .i64 (a : Int), .slice p n cap] 69) (hz : a + n ≤ 16384) (hfar : hi < a + n) :
    Calls Tryd.prog 36 #[pt b, pt bf] w fun e w' => Grow w w' ∧ ∃ be c, e = .returned (.iface 74 (pt be)) ∧ Blk w' be c 79 ∧ c[1]? = some (.int .u64 10) := by
  have f0 := hf.cellAt 0 _ rfl
  have f1 := hf.cellAt 1 _ rfl
  have hlt := hf.lt
  go_enter Tryd.func36, Tryd.ntmps36
  go_wp2_with fail
  go_quiet (fail)
  have hbd : Blk (w.drewN nq) b (cryC r bL rp hi true wo wb) 99 := hb
  have hG : Grow w (w.drewN nq) := drewN_grow w nq
  clear f0 f1 hlt
  generalize w.drewN nq = wd at *
  have c3 := hbd.cellAt 3 _ rfl
  have c4 := hbd.cellAt 4 _ rfl
  have hlt := hbd.lt
  go_wp2_with fail
  go_ret
  exact ⟨hG.alloc _, wd.heap.size, _, rfl, Blk.new wd _ _, rfl⟩

set_option maxRecDepth 100000 in
set_option maxHeartbeats 1000000 in
theorem handle_old (w : World) (b r bL rp hi wo bf a n : Nat) (wb : Value) (p : Option Addr) (cap : Nat) (hb : Blk w b (cryC r bL rp hi true wo wb) 99) (hf : Blk w bf #[.int .i64 (a : Int), .slice p n cap] 69) (hz : a + n ≤ 16384) (hfar : a + n ≤ hi) :
    Calls Tryd.prog 36 #[pt b, pt bf] w fun e w' => e = .returned .nilIface ∧ Grow w w' := by
  have f0 := hf.cellAt 0 _ rfl
  have f1 := hf.cellAt 1 _ rfl
  have hlt := hf.lt
  go_enter Tryd.func36, Tryd.ntmps36
  go_wp2_with fail
  go_quiet (fail)
  have hbd : Blk (w.drewN nq) b (cryC r bL rp hi true wo wb) 99 := hb
  have hG : Grow w (w.drewN nq) := drewN_grow w nq
  clear f0 f1 hlt
  generalize w.drewN nq = wd at *
  have c3 := hbd.cellAt 3 _ rfl
  have c4 := hbd.cellAt 4 _ rfl
  have hlt := hbd.lt
  go_wp2_with fail
  go_ret
  exact ⟨rfl, hG⟩

set_option maxRecDepth 100000 in
set_option maxHeartbeats 1000000 in
theorem handle_push (w : World) (b r bL rp hi wo bf a n : Nat) (wb : Value) (p : Option Addr) (cap : Nat) (gs : List Gap) (q : Q) (l : List UInt8) (hC : CryAt w b r bL rp hi false wo wb gs q) (hf : Blk w bf #[.int .i64 (a : Int), .slice p n cap] 69) (hz : a + n ≤ 16384)
    (hG : Good rp gs q) (hl : Rd w (.slice p n cap) l) (hn : l.length = n) (hnp : 0 < n) (hlen : gs.length ≤ 900) :
    Calls Tryd.prog 36 #[pt b, pt bf] w fun e w' => e = .returned .nilIface ∧ ∃ gs6 q6, Took rp a n l q gs6 q6 ∧ Fresh w.heap.size gs gs6 ∧ Exact rp a n l q q6 ∧ gs6.length ≤ gs.length + 1 ∧ CryAt w' b r bL rp (max hi (a + n)) false wo wb gs6 q6 ∧ Fr (fun k => k = b ∨ pushS r bL gs k) w w' := by
  obtain ⟨hb, hL, hq⟩ := hC
  have f0 := hf.cellAt 0 _ rfl
  have f1 := hf.cellAt 1 _ rfl
  have hlt := hf.lt
  go_enter Tryd.func36, Tryd.ntmps36
  go_wp2_with fail
  go_quiet (fail)
  have hbd : Blk (w.drewN nq) b (cryC r bL rp hi false wo wb) 99 := hb
  have hfd : Blk (w.drewN nq) bf #[.int .i64 (a : Int), .slice p n cap] 69 := hf
  have hLd := hL.drewN nq
  have hqd := hq.drewN nq
  have hld : Rd (w.drewN nq) (.slice p n cap) l := hl.keep (fun _ _ => rfl)
  have hGd : Grow w (w.drewN nq) := drewN_grow w nq
  clear f0 f1 hlt
  generalize w.drewN nq = wd at *
  have c3 := hbd.cellAt 3 _ rfl
  have c4 := hbd.cellAt 4 _ rfl
  have hlt := hbd.lt
  have hfr := hbd.free
  go_upto_region 10 with fail
  have hmax : (if (hi : Int) < (a : Int) + (n : Int) then (a : Int) + (n : Int) else (hi : Int)) = ((max hi (a + n) : Nat) : Int) := by split <;> omega
  rw [hmax]
  clear hmax
  have hb3 : Blk (wd.setCell ⟨b, 3, none⟩ (.int .i64 ((max hi (a + n) : Nat) : Int))) b (cryC r bL rp (max hi (a + n)) false wo wb) 99 := hbd.set 3 _
  have hbne : ∀ k, b = k → ¬ listS bL gs k := fun k e hk => pushS_ne hqd hLd hbd (by decide) (by decide) (e ▸ .inr hk)
  have hF3 : Fr (fun k => k = b) wd (wd.setCell ⟨b, 3, none⟩ (.int .i64 ((max hi (a + n) : Nat) : Int))) := (Fr.refl _ _).setCell _ _ (.inl rfl)
  have hL3 := hLd.fr hF3 (fun k hk => hbne k hk.symm)
  have hq3 := hqd.setCell ⟨b, 3, none⟩ (.int .i64 ((max hi (a + n) : Nat) : Int)) hbd (by decide)
  have hf3 := hfd.setOther ⟨b, 3, none⟩ (.int .i64 ((max hi (a + n) : Nat) : Int)) (hfd.ne_of_type hbd (by decide))
  have hl3 := hld.keep (hF3.bytes (fun k hk => by rw [show k = b from hk]; exact hbd.noBytes (by decide)))
  have hFw := (hGd.to (S := fun k => k = b ∨ pushS r bL gs k)).trans (hF3.mono (fun k _ hk => .inl hk))
  clear c3 c4 hlt hfr hLd hqd hld hfd hF3 hGd hbd
  generalize wd.setCell ⟨b, 3, none⟩ (.int .i64 ((max hi (a + n) : Nat) : Int)) = w3 at *
  have f0 : w3.cell? ⟨bf, 0, none⟩ = some (.int .i64 (a : Int)) := hf3.cellAt 0 _ rfl
  have f1 : w3.cell? ⟨bf, 1, none⟩ = some (.slice p n cap) := hf3.cellAt 1 _ rfl
  have hlt := hb3.lt
  have hltf := hf3.lt
  go_still_tail 11, (by kernel_rfl)
  have hl4 : Rd w3.drew (.slice p n cap) l := hl3.keep (fun _ _ => rfl)
  have hFd : Fr (fun k => k = b ∨ pushS r bL gs k) w w3.drew := hFw.drew
  have hb4 := hb3.drew
  have hL4 := hL3.drew
  have hq4 := hq3.drew
  change wpList _ _ _ _ _ w3.drew
  clear f0 f1 hlt hltf hb3 hL3 hq3 hf3 hl3 hFw
  generalize w3.drew = w4 at *
  go_wp2_with (go_at_call 47; refine (Push_call _ b r bL rp a n cap p gs q l _ 99 hb4 rfl rfl (by decide) (by decide) (by decide) hL4 hq4 hG hl4 hn hnp hz hlen).mono ?_; rintro e w5 ⟨rfl, gs6, q6, hT, hN6, hX6, hlen6, hL6, hq6, hF6⟩)
  go_ret
  exact ⟨rfl, gs6, q6, hT, fun g hg => (hN6 g hg).imp id (fun h => Nat.le_trans hFd.size h), hX6, hlen6, ⟨hF6.blk hb4 (fun e => pushS_ne hq4 hL4 hb4 (by decide) (by decide) e), hL6, hq6⟩, hFd.trans (hF6.mono (fun k _ hk => .inr hk))⟩
end Go.Proofs.YtdhhccpeikhilaaDoor
namespace Go.Proofs.YtdhhccpeikhilaaDoor
open Go.RowKit

theorem Good.pop {rp : Nat} {gs : List Gap} {q : Q} (hG : Good rp gs q) {d : List UInt8} (hd : q rp = some d) : Good (rp + d.length) gs (rmQ q rp) := by
  have hpos := hG.ap.pos hd
  refine ⟨hG.ap.rm rp, fun k e hk => ?_, ⟨hG.gaps.pw, hG.gaps.ne, fun g hg => ?_, hG.gaps.last⟩, fun x hx hx' => ?_⟩
  · obtain ⟨hne, hk⟩ := rmQ_some hk
    have h1 := hG.ge k e hk
    have := hG.ap.apart rp d k e hd hk (by omega)
    exact ⟨this, h1.2⟩
  · have h1 := hG.gaps.lo g hg
    have h2 := hG.gaps.ne g hg
    rcases Nat.lt_or_ge g.s (rp + d.length) with c | c
    · exact (hG.notCov hg (Nat.le_refl _) h2 ⟨rp, d, hd, h1, c⟩).elim
    · exact c
  · rw [← hG.cov x (by omega) hx']
    constructor
    · rintro ⟨k, e, hk, x1, x2⟩; exact ⟨k, e, (rmQ_some hk).2, x1, x2⟩
    · rintro ⟨k, e, hk, x1, x2⟩
      have : k ≠ rp := fun e' => by
        subst e'; rw [hd] at hk; injection hk with hk; subst hk; omega
      exact ⟨k, e, rmQ_of this hk, x1, x2⟩

/-- THE NEXT DATA: there are some. -/
theorem data_some (w : World) (b r bL rp hi wo : Nat) (fin : Bool) (wb : Value) (gs : List Gap) (q : Q) (d : List UInt8) (hC : CryAt w b r bL rp hi fin wo wb gs q) (hG : Good rp gs q) (hd : q rp = some d) :
    Calls Tryd.prog 37 #[pt b] w fun e w' => ∃ s, e = .returned s ∧ Rd w' s d ∧ CryAt w' b r bL (rp + d.length) hi fin wo wb gs (rmQ q rp) ∧ Fr (fun k => k = b ∨ k = r) w w' := by
  obtain ⟨hb, hL, hq⟩ := hC
  obtain ⟨k, gl, hk, _⟩ := hG.gaps.lastAt
  have hne : 0 < gs.length := by have := (List.getElem?_eq_some_iff.1 hk).1; omega
  obtain ⟨g0, hg0⟩ : ∃ g, gs[0]? = some g := ⟨_, List.getElem?_eq_getElem hne⟩
  have hP := hG.pop hd
  have h1 := hP.gaps.lo g0 (List.mem_of_getElem? hg0)
  have h2 := hP.gaps.ne g0 (List.mem_of_getElem? hg0)
  have hmx : g0.e ≤ MAXB := by
    obtain ⟨m, gl, hm, he, _⟩ := hG.gaps.lastAt
    unfold MAXB
    rcases Nat.eq_zero_or_pos m with e | e
    · subst e; have := Option.some.inj (hm.symm.trans hg0); rw [← this, he]; exact Nat.le_refl _
    · have := hG.gaps.sorted.2 0 m g0 gl hg0 hm e; have := hG.gaps.sorted.1 _ _ hm; omega
  have hlt := hb.lt
  have hpop := popS_some w b r rp bL gs g0 hb rfl rfl rfl (by decide) (by decide) (by decide) hL hg0 q hq d hd (by omega) hmx
  have hbL : bL ≠ b := fun e => by subst e; exact absurd (hb.unique hL.root).2 (by decide)
  go_enter Tryd.func37, Tryd.ntmps37
  go_wp2_with (go_at_call 48; refine hpop.mono ?_; rintro e w' ⟨⟨s, rfl, hs⟩, hF, hB, hq'⟩)
  go_ret
  refine ⟨s, rfl, hs, ⟨hB, hL.fr hF ?_, hq'⟩, hF⟩
  rintro k (rfl | rfl) hk
  · exact pushS_ne hq hL hb (by decide) (by decide) (.inr hk)
  · exact pushS_rlist hq hL hk

theorem data_none (w : World) (b r bL rp hi wo : Nat) (fin : Bool) (wb : Value) (gs : List Gap) (q : Q) (hC : CryAt w b r bL rp hi fin wo wb gs q) (hd : q rp = none) :
    Calls Tryd.prog 37 #[pt b] w fun e w' => e = .returned (.slice none 0 0) ∧ Grow w w' := by
  obtain ⟨hb, hL, hq⟩ := hC
  have hlt := hb.lt
  have hpop := popS_none w b r rp hb rfl rfl q hq hd
  go_enter Tryd.func37, Tryd.ntmps37
  go_wp2_with (go_at_call 48; refine hpop.mono ?_; rintro e w' ⟨rfl, hF⟩)
  go_ret
  exact ⟨rfl, hF⟩

/-- IT IS FINISHED: with bytes left that is an error. -/
theorem finish_more (w : World) (b r bL rp hi wo : Nat) (fin : Bool) (wb : Value) (gs : List Gap) (q : Q) (hC : CryAt w b r bL rp hi fin wo wb gs q) (hm : ∃ k, q k ≠ none) :
    Calls Tryd.prog 38 #[pt b] w fun e w' => Grow w w' ∧ ∃ be c, e = .returned (.iface 74 (pt be)) ∧ Blk w' be c 79 ∧ c[1]? = some (.int .u64 10) := by
  obtain ⟨hb, hL, hq⟩ := hC
  have hlt := hb.lt
  have hh := hasMore_any w b r hb rfl q hq
  obtain ⟨k, hk⟩ := hm
  go_enter Tryd.func38, Tryd.ntmps38
  go_wp2_with (go_at_call 49; refine hh.mono ?_; rintro e w' ⟨rfl, ⟨rfl, hx⟩ | ⟨rfl, _⟩⟩; exact (hk (hx k)).elim)
  go_ret
  exact ⟨(Fr.refl _ _).alloc _, w.heap.size, _, rfl, Blk.new w _ _, rfl⟩
theorem finish_done (w : World) (b r bL rp hi wo : Nat) (fin : Bool) (wb : Value) (gs : List Gap) (q : Q) (hC : CryAt w b r bL rp hi fin wo wb gs q) (hm : ∀ k, q k = none) :
    Calls Tryd.prog 38 #[pt b] w fun e w' => e = .returned .nilIface ∧ CryAt w' b r bL rp hi true wo wb gs q ∧ Fr (fun k => k = b) w w' := by
  obtain ⟨hb, hL, hq⟩ := hC
  have hlt := hb.lt
  have hfr := hb.free
  have c4 : w.cell? ⟨b, 4, none⟩ = some (.bool fin) := hb.cellAt 4 _ rfl
  have hh := hasMore_any w b r hb rfl q hq
  go_enter Tryd.func38, Tryd.ntmps38
  go_wp2_with (go_at_call 49; refine hh.mono ?_; rintro e w' ⟨rfl, ⟨rfl, _⟩ | ⟨rfl, k, hx⟩⟩; rotate_left; exact (hx (hm k)).elim)
  go_ret
  have hF : Fr (fun k => k = b) w (w.setCell ⟨b, 4, none⟩ (.bool true)) := (Fr.refl _ _).setCell _ _ (.inl rfl)
  exact ⟨rfl, ⟨hb.set 4 _, hL.fr hF (fun k hk => by rw [show k = b from hk]; exact fun e => pushS_ne hq hL hb (by decide) (by decide) (.inr e)), hq.setCell _ _ hb (by decide)⟩, hF⟩
end Go.Proofs.YtdhhccpeikhilaaDoor
namespace Go.Proofs.YtdhhccpeikhilaaDoor
open Go.RowKit

theorem base_plain (w : World) (x b : Nat) (hx : Blk w x #[.pointer none, pt b] 86) :
    Calls Tryd.prog 35 #[pt x] w fun e w' => e = .returned (pt b) ∧ w = w' := by
  have x0 : w.cell? ⟨x, 0, none⟩ = some (.pointer none) := hx.cellAt 0 _ rfl
  have x1 : w.cell? ⟨x, 1, none⟩ = some (pt b) := hx.cellAt 1 _ rfl
  have hlt := hx.lt
  go_enter Tryd.func35, Tryd.ntmps35
  go_wp2_with fail
  go_ret
  exact ⟨rfl, rfl⟩

theorem Handle_of (w : World) (x b : Nat) (f : Value) (hx : Blk w x #[.pointer none, pt b] 86) {R : Ending → World → Prop} (h : Calls Tryd.prog 36 #[pt b, f] w R) (hr : ∀ e w', R e w' → ∃ v, e = .returned v) :
    Calls Tryd.prog 25 #[pt x, f] w R := by
  go_enter Tryd.func25, Tryd.ntmps25
  go_wp2_with (first | (go_at_call 35; refine (base_plain w x b hx).mono ?_; rintro e w' ⟨rfl, rfl⟩) | (go_at_call 36; refine h.mono ?_; intro e w' hR; obtain ⟨v, rfl⟩ := hr e w' hR))
  exact hR
theorem Data_of (w : World) (x b : Nat) (hx : Blk w x #[.pointer none, pt b] 86) {R : Ending → World → Prop} (h : Calls Tryd.prog 37 #[pt b] w R) (hr : ∀ e w', R e w' → ∃ v, e = .returned v) :
    Calls Tryd.prog 26 #[pt x] w R := by
  go_enter Tryd.func26, Tryd.ntmps26
  go_wp2_with (first | (go_at_call 35; refine (base_plain w x b hx).mono ?_; rintro e w' ⟨rfl, rfl⟩) | (go_at_call 37; refine h.mono ?_; intro e w' hR; obtain ⟨v, rfl⟩ := hr e w' hR))
  exact hR
theorem Finish_of (w : World) (x b : Nat) (hx : Blk w x #[.pointer none, pt b] 86) {R : Ending → World → Prop} (h : Calls Tryd.prog 38 #[pt b] w R) (hr : ∀ e w', R e w' → ∃ v, e = .returned v) :
    Calls Tryd.prog 27 #[pt x] w R := by
  go_enter Tryd.func27, Tryd.ntmps27
  go_wp2_with (first | (go_at_call 35; refine (base_plain w x b hx).mono ?_; rintro e w' ⟨rfl, rfl⟩) | (go_at_call 38; refine h.mono ?_; intro e w' hR; obtain ⟨v, rfl⟩ := hr e w' hR))
  exact hR

theorem good_new (b : Nat) : Good 0 [⟨b, 0, 4611686018427387903⟩] (fun _ => none) where
  ap := ⟨fun k d h => (by cases h), fun k d k' d' h => (by cases h)⟩
  ge := fun k d h => by cases h
  gaps := ⟨by simp, by simp, by simp, ⟨⟨b, 0, 4611686018427387903⟩, rfl, rfl, Nat.zero_le _⟩⟩
  cov := fun x _ hx => by
    refine ⟨?_, fun h => ?_⟩
    · rintro ⟨k, d, h, _⟩; cases h
    · exact (h ⟨_, List.mem_singleton.2 rfl, Nat.zero_le _, by show x < 4611686018427387903; omega⟩).elim

set_option maxHeartbeats 1000000 in
theorem newStream (w : World) :
    Calls Tryd.prog 34 #[] w fun e w' => Grow w w' ∧ ∃ b r bL g : Nat, e = .returned (pt b) ∧ w.heap.size ≤ b ∧ w.heap.size ≤ r ∧ w.heap.size ≤ bL ∧ w.heap.size ≤ g ∧ CryAt w' b r bL 0 0 false 0 (.slice none 0 0) [⟨g, 0, 4611686018427387903⟩] (fun _ => none) := by
  go_enter Tryd.func34, Tryd.ntmps34
  go_wp2_with (go_at_call 46; refine (newSorter_any w).mono ?_; rintro e w1 ⟨hg, bS, r, bL, g, rfl, h1, h2, h3, h4, hB, hL, hq⟩; have b0 : w1.cell? ⟨bS, 0, none⟩ = some (.map (some r)) := hB.cellAt 0 _ rfl; have b1 : w1.cell? ⟨bS, 1, none⟩ = some (.int .i64 0) := hB.cellAt 1 _ rfl; have b2 : w1.cell? ⟨bS, 2, none⟩ = some (pt bL) := hB.cellAt 2 _ rfl; have hlt := hB.lt)
  go_ret
  refine ⟨hg.alloc _, w1.heap.size, r, bL, g, rfl, by have := hg.size; omega, h2, h3, h4, ⟨?_, ?_, hq.alloc _⟩⟩
  · exact Blk.new w1 _ _
  · exact hL.same (Below.heap_alloc _ _ _ hL.root.lt) (fun q hq => by
      obtain ⟨k, hk⟩ := List.mem_iff_getElem?.1 hq
      exact Below.heap_alloc _ _ _ (hL.node k q hk).lt)

/-- A PLAIN CRYPTO STREAM, made. -/
theorem new_plain (w : World) :
    Calls Tryd.prog 24 #[.bool false, .bool false] w fun e w' => Grow w w' ∧ ∃ x b r bL g : Nat, e = .returned (pt x) ∧ w.heap.size ≤ x ∧ w.heap.size ≤ b ∧ w.heap.size ≤ r ∧ w.heap.size ≤ bL ∧ w.heap.size ≤ g ∧ Blk w' x #[.pointer none, pt b] 86 ∧ CryAt w' b r bL 0 0 false 0 (.slice none 0 0) [⟨g, 0, 4611686018427387903⟩] (fun _ => none) := by
  go_enter Tryd.func24, Tryd.ntmps24
  go_wp2_with (go_at_call 34; refine (newStream w).mono ?_; rintro e w1 ⟨hg, b, r, bL, g, rfl, h1, h2, h3, h4, hC⟩)
  go_ret
  refine ⟨hg.alloc _, w1.heap.size, b, r, bL, g, rfl, hg.size, h1, h2, h3, h4, Blk.new w1 _ _, ⟨hC.blk.alloc _, ?_, hC.Q.alloc _⟩⟩
  exact hC.L.same (Below.heap_alloc _ _ _ hC.L.root.lt) (fun q hq => by
      obtain ⟨k, hk⟩ := List.mem_iff_getElem?.1 hq
      exact Below.heap_alloc _ _ _ (hC.L.node k q hk).lt)
end Go.Proofs.YtdhhccpeikhilaaDoor
