/- The frame sorter's push, walked: where an entry stands that the frame does not outgrow. -/
import Derived.Test.YtdhhccpeikhilaaDoorS11
namespace Go.Proofs.YtdhhccpeikhilaaDoor
open Go.RowKit

set_option maxRecDepth 100000 in
set_option maxHeartbeats 8000000 in
theorem push_dupOne (w : World) (bS r bL a n cap : Nat) (p : Option Addr) (gs : List Gap) (q : Q) (l : List UInt8) (c : Array Value) (T : TypeId) (g0 gi : Gap) (i : Nat) (inE : Bool)
    (H : PushIn w bS r bL a n cap p gs q l c T g0 gi gi i i inE) (d : List UInt8) (hd : q a = some d) (hdn : n ≤ d.length) :
    Calls Tryd.prog 56 #[pt bS, .slice p n cap, .int .i64 (a : Int), .nilFunc] w fun e w' => e = .returned dupV ∧ Grow w w' := by
  have hbd := H.bounds
  obtain ⟨hS, h0, h2, hT, hT2, hT5, hL, hq, hok, hl, hn, hnp, ha, hlen, hg0, hfr, hs, hb, hi, hj, hnew⟩ := H
  have hgi := hi.1
  have hcapn : n ≤ cap ∧ cap ≤ 9223372036854775807 := by
    obtain ⟨p', c', e, h1, h2, _⟩ := hl
    injection e with e1 e2 e3
    omega
  have c0 := hS.cellAt 0 _ h0
  have c2 := hS.cellAt 2 _ h2
  have hnz : ((n : Int) == 0) = false := by simp; omega
  have f3 : w.cell? ⟨g0.b, 3, none⟩ = some (.int .i64 (g0.s : Int)) := (hL.node 0 g0 hg0).cellAt 3 _ rfl
  have hfr' : ¬ ((a : Int) + (n : Int) ≤ (g0.s : Int)) := by omega
  have heq := eqlGap hL hgi hgi
  have si3 : w.cell? ⟨gi.b, 3, none⟩ = some (.int .i64 (gi.s : Int)) := (hL.node i gi hgi).cellAt 3 _ rfl
  have si4 : w.cell? ⟨gi.b, 4, none⟩ = some (.int .i64 (gi.e : Int)) := (hL.node i gi hgi).cellAt 4 _ rfl
  have dii : decide (i = i) = true := decide_eq_true rfl
  rw [dii] at heq
  have dnew : decide ((a : Int) + (n : Int) ≤ (gi.s : Int)) = false := decide_eq_false (by omega)
  go_enter Tryd.func56, Tryd.ntmps56
  go_wp2_with fail
  refine (front_call hL hg0).mono ?_
  rintro e w' ⟨rfl, rfl⟩
  go_wp2_with fail
  refine (findStart_det w bS bL gs a hS h2 hL hbd hi).mono ?_
  rintro e w' ⟨rfl, rfl⟩
  generalize hinS : decide (gi.s ≤ a) = inS
  have HinS := Lib.hid hinS
  clear hinS
  go_wp2_with fail
  refine (findEnd_det w bS bL gs (a + n) i _ (by omega) gi hL hgi hbd hs (fun g hg => by rw [hg0] at hg; injection hg with hg; subst hg; omega) hj).mono ?_
  rintro e w' ⟨rfl, rfl⟩
  go_wp2_with fail
  go_quiet (fail)
  have hFd : Fr (pushS r bL gs) w (w.drewN nq) := ⟨rfl, rfl, rfl, Nat.le_refl _, fun _ _ _ => rfl⟩
  have hFd0 : Grow w (w.drewN nq) := drewN_grow w nq
  have hSd : Blk (w.drewN nq) bS c T := hS
  have hLd := hL.drewN nq
  have hqd := hq.drewN nq
  have hld : Rd (w.drewN nq) (.slice p n cap) l := hl.keep (fun _ _ => rfl)
  clear c0 c2 f3 si3 si4 heq
  generalize w.drewN nq = wd at *
  have c0 := hSd.cellAt 0 _ h0
  have c2 := hSd.cellAt 2 _ h2
  have hltS := hSd.lt
  have hltI := (hLd.node i gi hgi).lt
  have si3 : wd.cell? ⟨gi.b, 3, none⟩ = some (.int .i64 (gi.s : Int)) := (hLd.node i gi hgi).cellAt 3 _ rfl
  have si4 : wd.cell? ⟨gi.b, 4, none⟩ = some (.int .i64 (gi.e : Int)) := (hLd.node i gi hgi).cellAt 4 _ rfl
  go_wp2_with fail
  refine (next_call' hLd hgi).mono ?_
  rintro e w' ⟨rfl, rfl⟩
  have hGd : Grow w wd := hFd0
  clear hFd hFd0
  go_wp2_with fail
  go_loopg [1, 10, 21, 22, 23] 0 (fun _ s1 s10 s21 s22 s23 wr => s1 = .slice p n cap ∧ s10 = .int .i64 ((a : Int) + n) ∧ s21 = .bool false ∧ s22 = .int .i64 (a : Int) ∧ s23 = .bool false ∧ wr = wd)
  case atStart => exact ⟨rfl, rfl, rfl, rfl, rfl, rfl⟩
  case round =>
    obtain ⟨rfl, rfl, rfl, rfl, rfl, rfl⟩ := hrel
    rcases hqd.look a with ⟨hnn, _⟩ | ⟨d', s, hd', hsd, hlk⟩
    · rw [hd] at hnn; cases hnn
    · rw [hd] at hd'
      injection hd' with hd'
      subst hd'
      obtain ⟨ps, cs, rfl, hlc, hcm, _⟩ := id hsd
      have hdl := (hok a d hd).2
      go_wp2_with fail
      go_ret
      exact ⟨rfl, hGd.alloc _⟩

set_option maxRecDepth 100000 in
set_option maxHeartbeats 8000000 in
theorem push_dupTwo (w : World) (bS r bL a n cap : Nat) (p : Option Addr) (gs : List Gap) (q : Q) (l : List UInt8) (c : Array Value) (T : TypeId) (g0 gi gj : Gap) (i j : Nat) (inE : Bool)
    (H : PushIn w bS r bL a n cap p gs q l c T g0 gi gj i j inE) (hij : i < j) (d : List UInt8) (hd : q a = some d) (hdn : n ≤ d.length) :
    Calls Tryd.prog 56 #[pt bS, .slice p n cap, .int .i64 (a : Int), .nilFunc] w fun e w' => e = .returned dupV ∧ Grow w w' := by
  have hbd := H.bounds
  obtain ⟨hS, h0, h2, hT, hT2, hT5, hL, hq, hok, hl, hn, hnp, ha, hlen, hg0, hfr, hs, hb, hi, hj, hnew⟩ := H
  have hgi := hi.1
  have hgj := hj.1
  have hje : gi.e < gj.s := hs.2 i j gi gj hgi hgj hij
  have hcapn : n ≤ cap ∧ cap ≤ 9223372036854775807 := by
    obtain ⟨p', c', e, h1, h2, _⟩ := hl
    injection e with e1 e2 e3
    omega
  have c0 := hS.cellAt 0 _ h0
  have c2 := hS.cellAt 2 _ h2
  have hnz : ((n : Int) == 0) = false := by simp; omega
  have f3 : w.cell? ⟨g0.b, 3, none⟩ = some (.int .i64 (g0.s : Int)) := (hL.node 0 g0 hg0).cellAt 3 _ rfl
  have hfr' : ¬ ((a : Int) + (n : Int) ≤ (g0.s : Int)) := by omega
  have heq := eqlGap hL hgi hgj
  have si3 : w.cell? ⟨gi.b, 3, none⟩ = some (.int .i64 (gi.s : Int)) := (hL.node i gi hgi).cellAt 3 _ rfl
  have si4 : w.cell? ⟨gi.b, 4, none⟩ = some (.int .i64 (gi.e : Int)) := (hL.node i gi hgi).cellAt 4 _ rfl
  have sj3 : w.cell? ⟨gj.b, 3, none⟩ = some (.int .i64 (gj.s : Int)) := (hL.node j gj hgj).cellAt 3 _ rfl
  have sj4 : w.cell? ⟨gj.b, 4, none⟩ = some (.int .i64 (gj.e : Int)) := (hL.node j gj hgj).cellAt 4 _ rfl
  have dii : decide (i = j) = false := decide_eq_false (by omega)
  rw [dii] at heq
  clear dii
  have dnew : decide (gj.s ≤ gi.e) = false := decide_eq_false (by omega)
  go_enter Tryd.func56, Tryd.ntmps56
  go_wp2_with fail
  refine (front_call hL hg0).mono ?_
  rintro e w' ⟨rfl, rfl⟩
  go_wp2_with fail
  refine (findStart_det w bS bL gs a hS h2 hL hbd hi).mono ?_
  rintro e w' ⟨rfl, rfl⟩
  generalize hinS : decide (gi.s ≤ a) = inS
  have HinS := Lib.hid hinS
  clear hinS
  go_wp2_with fail
  refine (findEnd_det w bS bL gs (a + n) i _ (by omega) gi hL hgi hbd hs (fun g hg => by rw [hg0] at hg; injection hg with hg; subst hg; omega) hj).mono ?_
  rintro e w' ⟨rfl, rfl⟩
  go_wp2_with fail
  go_quiet (fail)
  have hFd : Fr (pushS r bL gs) w (w.drewN nq) := ⟨rfl, rfl, rfl, Nat.le_refl _, fun _ _ _ => rfl⟩
  have hFd0 : Grow w (w.drewN nq) := drewN_grow w nq
  have hSd : Blk (w.drewN nq) bS c T := hS
  have hLd := hL.drewN nq
  have hqd := hq.drewN nq
  have hld : Rd (w.drewN nq) (.slice p n cap) l := hl.keep (fun _ _ => rfl)
  clear c0 c2 f3 si3 si4 sj3 sj4 heq
  generalize w.drewN nq = wd at *
  have c0 := hSd.cellAt 0 _ h0
  have c2 := hSd.cellAt 2 _ h2
  have hltS := hSd.lt
  have hltI := (hLd.node i gi hgi).lt
  have si3 : wd.cell? ⟨gi.b, 3, none⟩ = some (.int .i64 (gi.s : Int)) := (hLd.node i gi hgi).cellAt 3 _ rfl
  have si4 : wd.cell? ⟨gi.b, 4, none⟩ = some (.int .i64 (gi.e : Int)) := (hLd.node i gi hgi).cellAt 4 _ rfl
  have sj3 : wd.cell? ⟨gj.b, 3, none⟩ = some (.int .i64 (gj.s : Int)) := (hLd.node j gj hgj).cellAt 3 _ rfl
  have sj4 : wd.cell? ⟨gj.b, 4, none⟩ = some (.int .i64 (gj.e : Int)) := (hLd.node j gj hgj).cellAt 4 _ rfl
  have hltJ := (hLd.node j gj hgj).lt
  go_wp2_with fail
  refine (next_call' hLd hgi).mono ?_
  rintro e w' ⟨rfl, rfl⟩
  have hGd : Grow w wd := hFd0
  clear hFd hFd0
  go_wp2_with fail
  go_loopg [1, 10, 21, 22, 23] 0 (fun _ s1 s10 s21 s22 s23 wr => s1 = .slice p n cap ∧ s10 = .int .i64 ((a : Int) + n) ∧ s21 = .bool false ∧ s22 = .int .i64 (a : Int) ∧ s23 = .bool false ∧ wr = wd)
  case atStart => exact ⟨rfl, rfl, rfl, rfl, rfl, rfl⟩
  case round =>
    obtain ⟨rfl, rfl, rfl, rfl, rfl, rfl⟩ := hrel
    rcases hqd.look a with ⟨hnn, _⟩ | ⟨d', s, hd', hsd, hlk⟩
    · rw [hd] at hnn; cases hnn
    · rw [hd] at hd'
      injection hd' with hd'
      subst hd'
      obtain ⟨ps, cs, rfl, hlc, hcm, _⟩ := id hsd
      have hdl := (hok a d hd).2
      go_wp2_with fail
      go_ret
      exact ⟨rfl, hGd.alloc _⟩

end Go.Proofs.YtdhhccpeikhilaaDoor
