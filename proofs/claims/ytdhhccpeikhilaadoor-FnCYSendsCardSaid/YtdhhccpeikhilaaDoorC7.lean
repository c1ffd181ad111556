/- The plain CRYPTO stream's sending side behind its door. -/
import Derived.Test.YtdhhccpeikhilaaDoorC6
namespace Go.Proofs.YtdhhccpeikhilaaDoor
open Go.RowKit

theorem neq82 (w : World) : (binOp .neq 82 (.pointer none) (.pointer none)).run Tryd.prog w = .ok (.bool false) w := by kernel_rfl

theorem Has_of (w : World) (x b : Nat) (hx : Blk w x #[.pointer none, pt b] 86) {R : Ending → World → Prop} (h : Calls Tryd.prog 44 #[pt b] w R) (hr : ∀ e w', R e w' → ∃ v, e = .returned v) :
    Calls Tryd.prog 30 #[pt x] w R := by
  have x0 : w.cell? ⟨x, 0, none⟩ = some (.pointer none) := hx.cellAt 0 _ rfl
  have x1 : w.cell? ⟨x, 1, none⟩ = some (pt b) := hx.cellAt 1 _ rfl
  have hlt := hx.lt
  have hn := neq82
  go_enter Tryd.func30, Tryd.ntmps30
  go_wp2_with (go_at_call 44; refine h.mono ?_; intro e w' hR; obtain ⟨v, rfl⟩ := hr e w' hR)
  exact hR
theorem Pop_of (w : World) (x b : Nat) (m : Value) (hx : Blk w x #[.pointer none, pt b] 86) {R : Ending → World → Prop} (h : Calls Tryd.prog 42 #[pt b, m] w R) (hr : ∀ e w', R e w' → ∃ v, e = .returned v) :
    Calls Tryd.prog 29 #[pt x, m] w R := by
  have x0 : w.cell? ⟨x, 0, none⟩ = some (.pointer none) := hx.cellAt 0 _ rfl
  have x1 : w.cell? ⟨x, 1, none⟩ = some (pt b) := hx.cellAt 1 _ rfl
  have hlt := hx.lt
  have hn := neq82
  go_enter Tryd.func29, Tryd.ntmps29
  go_wp2_with (go_at_call 42; refine h.mono ?_; intro e w' hR; obtain ⟨v, rfl⟩ := hr e w' hR)
  exact hR
theorem Write_of (w : World) (x b : Nat) (d : Value) (hx : Blk w x #[.pointer none, pt b] 86) {R : World → Prop} (h : Calls Tryd.prog 40 #[pt b, d] w fun e w' => (∃ n : Int, e = .returned (.tuple #[.int .i64 n, .nilIface])) ∧ R w') :
    Calls Tryd.prog 28 #[pt x, d] w fun e w' => e = .returned .nilIface ∧ R w' := by
  have x0 : w.cell? ⟨x, 0, none⟩ = some (.pointer none) := hx.cellAt 0 _ rfl
  have x1 : w.cell? ⟨x, 1, none⟩ = some (pt b) := hx.cellAt 1 _ rfl
  have hlt := hx.lt
  have hn := neq82
  go_enter Tryd.func28, Tryd.ntmps28
  go_wp2_with (go_at_call 40; refine h.mono ?_; rintro e w' ⟨⟨n, rfl⟩, hR⟩)
  go_ret
  exact ⟨rfl, hR⟩
end Go.Proofs.YtdhhccpeikhilaaDoor
