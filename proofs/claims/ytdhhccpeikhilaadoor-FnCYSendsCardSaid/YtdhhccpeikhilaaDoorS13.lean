/- The frame sorter's Push: what push says, but that a frame without anything new is no error. -/
import Derived.Test.YtdhhccpeikhilaaDoorS12
namespace Go.Proofs.YtdhhccpeikhilaaDoor
open Go.RowKit
theorem eql_dup (w : World) : (binOp .eql 64 dupV dupV).run Tryd.prog w = .ok (.bool true) w := by kernel_rfl
theorem eql_nil (w : World) : (binOp .eql 64 .nilIface dupV).run Tryd.prog w = .ok (.bool false) w := by kernel_rfl

set_option maxRecDepth 100000 in
theorem Push_dup (w : World) (s d o : Value) (R : World → Prop) (h : Calls Tryd.prog 56 #[s, d, o, .nilFunc] w fun e w' => e = .returned dupV ∧ R w') :
    Calls Tryd.prog 47 #[s, d, o, .nilFunc] w fun e w' => e = .returned .nilIface ∧ R w' := by
  have he := eql_dup
  have hnf := neq_nilFunc
  go_enter Tryd.func47, Tryd.ntmps47
  go_wp2_with fail
  refine h.mono ?_
  rintro e w' ⟨rfl, hR⟩
  go_wp2_with fail
  go_ret
  exact ⟨rfl, hR⟩
set_option maxRecDepth 100000 in
theorem Push_nil (w : World) (s d o : Value) (R : World → Prop) (h : Calls Tryd.prog 56 #[s, d, o, .nilFunc] w fun e w' => e = .returned .nilIface ∧ R w') :
    Calls Tryd.prog 47 #[s, d, o, .nilFunc] w fun e w' => e = .returned .nilIface ∧ R w' := by
  have he := eql_nil
  go_enter Tryd.func47, Tryd.ntmps47
  go_wp2_with fail
  refine h.mono ?_
  rintro e w' ⟨rfl, hR⟩
  go_wp2_with fail
  go_ret
  exact ⟨rfl, hR⟩
end Go.Proofs.YtdhhccpeikhilaaDoor
