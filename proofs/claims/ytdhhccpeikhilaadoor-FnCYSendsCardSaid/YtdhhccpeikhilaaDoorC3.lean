/- The plain CRYPTO stream behind its door: made, and handed on. -/
import Derived.Test.YtdhhccpeikhilaaDoorC2
namespace Go.Proofs.YtdhhccpeikhilaaDoor
open Go.RowKit

theorem base_plain (w : World) (x b : Nat) (hx : Blk w x #[.pointer none, pt b] 86) :
    Calls Tryd.prog 35 #[pt x] w fun e w' => e = .returned (pt b) ∧ w = w' := by
  have x0 : w.cell? ⟨x, 0, none⟩ = some (.pointer none) := hx.cellAt 0 _ rfl
  have x1 : w.cell? ⟨x, 1, none⟩ = some (pt b) := hx.cellAt 1 _ rfl
  have hlt := hx.lt
  go_enter Tryd.func35, Tryd.ntmps35
  go_wp2_with fail
  go_ret
  exact ⟨rfl, rfl⟩

theorem Handle_of (w : World) (x b : Nat) (f : Value) (hx : Blk w x #[.pointer none, pt b] 86) {R : Ending → World → Prop} (h : Calls Tryd.prog 36 #[pt b, f] w R) (hr : ∀ e w', R e w' → ∃ v, e = .returned v) :
    Calls Tryd.prog 25 #[pt x, f] w R := by
  go_enter Tryd.func25, Tryd.ntmps25
  go_wp2_with (first | (go_at_call 35; refine (base_plain w x b hx).mono ?_; rintro e w' ⟨rfl, rfl⟩) | (go_at_call 36; refine h.mono ?_; intro e w' hR; obtain ⟨v, rfl⟩ := hr e w' hR))
  exact hR
theorem Data_of (w : World) (x b : Nat) (hx : Blk w x #[.pointer none, pt b] 86) {R : Ending → World → Prop} (h : Calls Tryd.prog 37 #[pt b] w R) (hr : ∀ e w', R e w' → ∃ v, e = .returned v) :
    Calls Tryd.prog 26 #[pt x] w R := by
  go_enter Tryd.func26, Tryd.ntmps26
  go_wp2_with (first | (go_at_call 35; refine (base_plain w x b hx).mono ?_; rintro e w' ⟨rfl, rfl⟩) | (go_at_call 37; refine h.mono ?_; intro e w' hR; obtain ⟨v, rfl⟩ := hr e w' hR))
  exact hR
theorem Finish_of (w : World) (x b : Nat) (hx : Blk w x #[.pointer none, pt b] 86) {R : Ending → World → Prop} (h : Calls Tryd.prog 38 #[pt b] w R) (hr : ∀ e w', R e w' → ∃ v, e = .returned v) :
    Calls Tryd.prog 27 #[pt x] w R := by
  go_enter Tryd.func27, Tryd.ntmps27
  go_wp2_with (first | (go_at_call 35; refine (base_plain w x b hx).mono ?_; rintro e w' ⟨rfl, rfl⟩) | (go_at_call 38; refine h.mono ?_; intro e w' hR; obtain ⟨v, rfl⟩ := hr e w' hR))
  exact hR

theorem good_new (b : Nat) : Good 0 [⟨b, 0, 4611686018427387903⟩] (fun _ => none) where
  ap := ⟨fun k d h => (by cases h), fun k d k' d' h => (by cases h)⟩
  ge := fun k d h => by cases h
  gaps := ⟨by simp, by simp, by simp, ⟨⟨b, 0, 4611686018427387903⟩, rfl, rfl, Nat.zero_le _⟩⟩
  cov := fun x _ hx => by
    refine ⟨?_, fun h => ?_⟩
    · rintro ⟨k, d, h, _⟩; cases h
    · exact (h ⟨_, List.mem_singleton.2 rfl, Nat.zero_le _, by show x < 4611686018427387903; omega⟩).elim

set_option maxHeartbeats 1000000 in
theorem newStream (w : World) :
    Calls Tryd.prog 34 #[] w fun e w' => Grow w w' ∧ ∃ b r bL g : Nat, e = .returned (pt b) ∧ w.heap.size ≤ b ∧ w.heap.size ≤ r ∧ w.heap.size ≤ bL ∧ w.heap.size ≤ g ∧ CryAt w' b r bL 0 0 false 0 (.slice none 0 0) [⟨g, 0, 4611686018427387903⟩] (fun _ => none) := by
  go_enter Tryd.func34, Tryd.ntmps34
  go_wp2_with (go_at_call 46; refine (newSorter_any w).mono ?_; rintro e w1 ⟨hg, bS, r, bL, g, rfl, h1, h2, h3, h4, hB, hL, hq⟩; have b0 : w1.cell? ⟨bS, 0, none⟩ = some (.map (some r)) := hB.cellAt 0 _ rfl; have b1 : w1.cell? ⟨bS, 1, none⟩ = some (.int .i64 0) := hB.cellAt 1 _ rfl; have b2 : w1.cell? ⟨bS, 2, none⟩ = some (pt bL) := hB.cellAt 2 _ rfl; have hlt := hB.lt)
  go_ret
  refine ⟨hg.alloc _, w1.heap.size, r, bL, g, rfl, by have := hg.size; omega, h2, h3, h4, ⟨?_, ?_, hq.alloc _⟩⟩
  · exact Blk.new w1 _ _
  · exact hL.same (Below.heap_alloc _ _ _ hL.root.lt) (fun q hq => by
      obtain ⟨k, hk⟩ := List.mem_iff_getElem?.1 hq
      exact Below.heap_alloc _ _ _ (hL.node k q hk).lt)

/-- A PLAIN CRYPTO STREAM, made. -/
theorem new_plain (w : World) :
    Calls Tryd.prog 24 #[.bool false, .bool false] w fun e w' => Grow w w' ∧ ∃ x b r bL g : Nat, e = .returned (pt x) ∧ w.heap.size ≤ x ∧ w.heap.size ≤ b ∧ w.heap.size ≤ r ∧ w.heap.size ≤ bL ∧ w.heap.size ≤ g ∧ Blk w' x #[.pointer none, pt b] 86 ∧ CryAt w' b r bL 0 0 false 0 (.slice none 0 0) [⟨g, 0, 4611686018427387903⟩] (fun _ => none) := by
  go_enter Tryd.func24, Tryd.ntmps24
  go_wp2_with (go_at_call 34; refine (newStream w).mono ?_; rintro e w1 ⟨hg, b, r, bL, g, rfl, h1, h2, h3, h4, hC⟩)
  go_ret
  refine ⟨hg.alloc _, w1.heap.size, b, r, bL, g, rfl, hg.size, h1, h2, h3, h4, Blk.new w1 _ _, ⟨hC.blk.alloc _, ?_, hC.Q.alloc _⟩⟩
  exact hC.L.same (Below.heap_alloc _ _ _ hC.L.root.lt) (fun q hq => by
      obtain ⟨k, hk⟩ := List.mem_iff_getElem?.1 hq
      exact Below.heap_alloc _ _ _ (hC.L.node k q hk).lt)
end Go.Proofs.YtdhhccpeikhilaaDoor
