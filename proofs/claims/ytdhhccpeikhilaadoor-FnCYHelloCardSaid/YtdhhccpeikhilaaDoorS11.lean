/- The frame sorter's push, walked: where a frame brings nothing new. -/
import Derived.Test.YtdhhccpeikhilaaDoorS8b
import Derived.Deep.CutRange
import Derived.Deep.CutBlock
import Derived.Deep.LoopGhost
import Derived.BigQuiet
namespace Go.Proofs.YtdhhccpeikhilaaDoor
open Go.RowKit

theorem drewN_grow (w : World) (n : Nat) : Grow w (w.drewN n) := ⟨rfl, rfl, rfl, Nat.le_refl _, fun _ _ _ => rfl⟩

set_option maxRecDepth 100000 in
set_option maxHeartbeats 8000000 in
theorem push_dupFront (w : World) (bS bL a n cap : Nat) (p : Option Addr) (gs : List Gap) (c : Array Value) (T : TypeId) (g0 : Gap) (hS : Blk w bS c T) (h2 : c[2]? = some (pt bL)) (hL : ListAt w bL gs)
    (hnp : 0 < n) (ha : a + n ≤ 16384) (hg0 : gs[0]? = some g0) (hfr : a + n ≤ g0.s) :
    Calls Tryd.prog 56 #[pt bS, .slice p n cap, .int .i64 (a : Int), .nilFunc] w fun e w' => e = .returned dupV ∧ Grow w w' := by
  have c2 := hS.cellAt 2 _ h2
  have hnz : ((n : Int) == 0) = false := by simp; omega
  have f3 : w.cell? ⟨g0.b, 3, none⟩ = some (.int .i64 (g0.s : Int)) := (hL.node 0 g0 hg0).cellAt 3 _ rfl
  have hfr' : ((a : Int) + (n : Int) ≤ (g0.s : Int)) := by omega
  go_enter Tryd.func56, Tryd.ntmps56
  go_wp2_with fail
  refine (front_call hL hg0).mono ?_
  rintro e w' ⟨rfl, rfl⟩
  go_wp2_with fail
  go_ret
  exact ⟨rfl, Fr.refl _ _⟩

set_option maxRecDepth 100000 in
set_option maxHeartbeats 8000000 in
theorem push_dupAt (w : World) (bS bL a n cap : Nat) (p : Option Addr) (gs : List Gap) (c : Array Value) (T : TypeId) (g0 gi : Gap) (i : Nat) (inE : Bool) (hS : Blk w bS c T) (h2 : c[2]? = some (pt bL)) (hL : ListAt w bL gs)
    (hnp : 0 < n) (ha : a + n ≤ 16384) (hg0 : gs[0]? = some g0) (hfr : g0.s < a + n) (hs : Sorted gs) (hbd : ∀ g ∈ gs, g.e ≤ 4611686018427387903 ∧ g.s ≤ g.e) (hi : StartGap gs a i gi) (hj : EndAt gs i (a + n) i gi inE) (hold : a + n ≤ gi.s) :
    Calls Tryd.prog 56 #[pt bS, .slice p n cap, .int .i64 (a : Int), .nilFunc] w fun e w' => e = .returned dupV ∧ Grow w w' := by
  have hgi := hi.1
  have c2 := hS.cellAt 2 _ h2
  have hnz : ((n : Int) == 0) = false := by simp; omega
  have f3 : w.cell? ⟨g0.b, 3, none⟩ = some (.int .i64 (g0.s : Int)) := (hL.node 0 g0 hg0).cellAt 3 _ rfl
  have hfr' : ¬ ((a : Int) + (n : Int) ≤ (g0.s : Int)) := by omega
  have heq := eqlGap hL hgi hgi
  have si3 : w.cell? ⟨gi.b, 3, none⟩ = some (.int .i64 (gi.s : Int)) := (hL.node i gi hgi).cellAt 3 _ rfl
  have dii : decide (i = i) = true := decide_eq_true rfl
  rw [dii] at heq
  have dnew : decide ((a : Int) + (n : Int) ≤ (gi.s : Int)) = true := decide_eq_true (by omega)
  go_enter Tryd.func56, Tryd.ntmps56
  go_wp2_with fail
  refine (front_call hL hg0).mono ?_
  rintro e w' ⟨rfl, rfl⟩
  go_wp2_with fail
  refine (findStart_det w bS bL gs a hS h2 hL hbd hi).mono ?_
  rintro e w' ⟨rfl, rfl⟩
  generalize hinS : decide (gi.s ≤ a) = inS
  clear hinS
  go_wp2_with fail
  refine (findEnd_det w bS bL gs (a + n) i _ (by omega) gi hL hgi hbd hs (fun g hg => by rw [hg0] at hg; injection hg with hg; subst hg; omega) hj).mono ?_
  rintro e w' ⟨rfl, rfl⟩
  go_wp2_with fail
  go_quiet (fail)
  go_wp2_with fail
  go_ret
  exact ⟨rfl, drewN_grow _ _⟩

set_option maxRecDepth 100000 in
set_option maxHeartbeats 8000000 in
theorem push_dupBefore (w : World) (bS bL a n cap : Nat) (p : Option Addr) (gs : List Gap) (c : Array Value) (T : TypeId) (g0 gi gj : Gap) (j : Nat) (inE : Bool) (hS : Blk w bS c T) (h2 : c[2]? = some (pt bL)) (hL : ListAt w bL gs)
    (hnp : 0 < n) (ha : a + n ≤ 16384) (hg0 : gs[0]? = some g0) (hfr : g0.s < a + n) (hs : Sorted gs) (hbd : ∀ g ∈ gs, g.e ≤ 4611686018427387903 ∧ g.s ≤ g.e) (hi : StartGap gs a (j + 1) gi) (hj : EndAt gs (j + 1) (a + n) j gj inE) (hold : a + n ≤ gi.s) :
    Calls Tryd.prog 56 #[pt bS, .slice p n cap, .int .i64 (a : Int), .nilFunc] w fun e w' => e = .returned dupV ∧ Grow w w' := by
  have hgi := hi.1
  have hgj := hj.1
  have hje : gj.e < gi.s := hs.2 j (j + 1) gj gi hgj hgi (by omega)
  have h1 := hs.1 _ _ hgi
  have h1' := hs.1 _ _ hgj
  have c2 := hS.cellAt 2 _ h2
  have hnz : ((n : Int) == 0) = false := by simp; omega
  have f3 : w.cell? ⟨g0.b, 3, none⟩ = some (.int .i64 (g0.s : Int)) := (hL.node 0 g0 hg0).cellAt 3 _ rfl
  have hfr' : ¬ ((a : Int) + (n : Int) ≤ (g0.s : Int)) := by omega
  have heq := eqlGap hL hgi hgj
  have si3 : w.cell? ⟨gi.b, 3, none⟩ = some (.int .i64 (gi.s : Int)) := (hL.node _ gi hgi).cellAt 3 _ rfl
  have si4 : w.cell? ⟨gi.b, 4, none⟩ = some (.int .i64 (gi.e : Int)) := (hL.node _ gi hgi).cellAt 4 _ rfl
  have sj3 : w.cell? ⟨gj.b, 3, none⟩ = some (.int .i64 (gj.s : Int)) := (hL.node j gj hgj).cellAt 3 _ rfl
  have dii : decide (j + 1 = j) = false := decide_eq_false (by omega)
  rw [dii] at heq
  clear dii
  have dnew : decide ((a : Int) + (n : Int) ≤ (gi.s : Int)) = true := decide_eq_true (by omega)
  have dnew2 : decide (gj.s ≤ gi.e) = true := decide_eq_true (by omega)
  go_enter Tryd.func56, Tryd.ntmps56
  go_wp2_with fail
  refine (front_call hL hg0).mono ?_
  rintro e w' ⟨rfl, rfl⟩
  go_wp2_with fail
  refine (findStart_det w bS bL gs a hS h2 hL hbd hi).mono ?_
  rintro e w' ⟨rfl, rfl⟩
  generalize hinS : decide (gi.s ≤ a) = inS
  clear hinS
  go_wp2_with fail
  refine (findEnd_det w bS bL gs (a + n) (j + 1) _ (by omega) gi hL hgi hbd hs (fun g hg => by rw [hg0] at hg; injection hg with hg; subst hg; omega) hj).mono ?_
  rintro e w' ⟨rfl, rfl⟩
  go_wp2_with fail
  go_quiet (fail)
  go_wp2_with fail
  go_ret
  exact ⟨rfl, drewN_grow _ _⟩
end Go.Proofs.YtdhhccpeikhilaaDoor
