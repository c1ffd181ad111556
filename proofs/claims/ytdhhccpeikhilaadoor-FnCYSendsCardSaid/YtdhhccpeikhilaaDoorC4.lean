/- A CRYPTO stream that sends: lengths, what fits. -/
import Derived.Test.YtdhhccpeikhilaaDoorC3
import Derived.Test.YtdhhccpeikhilaaDoorR2
namespace Go.Proofs.YtdhhccpeikhilaaDoor
open Go.RowKit

/-- How many bytes a number of QUIC has. -/
def vlen (n : Nat) : Nat := if n ≤ 63 then 1 else if n ≤ 16383 then 2 else if n ≤ 1073741823 then 4 else 8

theorem len_any (w : World) (n : Nat) (h : n ≤ 4611686018427387903) :
    Calls Tryd.prog 62 #[.int .u64 (n : Int)] w fun e w' => e = .returned (.int .i64 (vlen n : Int)) ∧ w = w' := by
  go_enter Tryd.func62, Tryd.ntmps62
  go_wp2
  all_goals (go_ret; refine ⟨ret_int ?_, rfl⟩; unfold vlen; repeat (first | rw [if_pos (by omega)] | rw [if_neg (by omega)]))
  all_goals rfl

theorem len_int (w : World) (z : Int) (n : Nat) (hz : z = (n : Int)) (h : n ≤ 4611686018427387903) :
    Calls Tryd.prog 62 #[.int .u64 z] w fun e w' => e = .returned (.int .i64 (vlen n : Int)) ∧ w = w' := by
  subst hz; exact len_any w n h

/-- How many bytes of data a CRYPTO frame at offset o has room for, in m bytes. -/
def room (o m : Nat) : Nat := if m < 2 + vlen o then 0 else if m - (2 + vlen o) ≤ 63 then m - (2 + vlen o) else m - (2 + vlen o) - 1

set_option maxRecDepth 100000 in
set_option maxHeartbeats 1000000 in
theorem maxDataLen_any (w : World) (bf o m : Nat) (d : Value) (hf : Blk w bf #[.int .i64 (o : Int), d] 69) (ho : o ≤ 1000000000) (hm : m ≤ 1000000) :
    Calls Tryd.prog 53 #[pt bf, .int .i64 (m : Int)] w fun e w' => e = .returned (.int .i64 (room o m : Int)) ∧ w = w' := by
  have f0 : w.cell? ⟨bf, 0, none⟩ = some (.int .i64 (o : Int)) := hf.cellAt 0 _ rfl
  have hlt := hf.lt
  have hl1 := len_any w o (by omega)
  have hv : vlen o ≤ 8 := by unfold vlen; repeat' split
                             all_goals omega
  by_cases hc : m < 2 + vlen o
  · have hr : room o m = 0 := by unfold room; rw [if_pos hc]
    rw [hr]
    clear hr
    generalize vlen o = vo at *
    go_enter Tryd.func53, Tryd.ntmps53
    go_wp2_with (go_at_call 62; refine hl1.mono ?_; rintro e w' ⟨rfl, rfl⟩)
    go_ret
    exact ⟨rfl, rfl⟩
  · have hr : room o m = if m - (2 + vlen o) ≤ 63 then m - (2 + vlen o) else m - (2 + vlen o) - 1 := by unfold room; rw [if_neg hc]
    rw [hr]
    have hxm : m - (2 + vlen o) ≤ 1000000 := by omega
    have hv2 : (m - (2 + vlen o) ≤ 63 ∧ vlen (m - (2 + vlen o)) = 1) ∨ (¬ (m - (2 + vlen o) ≤ 63) ∧ (vlen (m - (2 + vlen o)) = 2 ∨ vlen (m - (2 + vlen o)) = 4)) := by
      clear hr
      generalize m - (2 + vlen o) = x at hxm
      unfold vlen; repeat' split
      all_goals omega
    clear hr
    generalize hvo : vlen o = vo at *
    clear hvo
    obtain ⟨x, hx⟩ : ∃ x, m = 2 + vo + x := ⟨m - (2 + vo), by omega⟩
    subst hx
    rw [Nat.add_sub_cancel_left] at *
    rcases hv2 with ⟨h1, h2⟩ | ⟨h1, h2⟩
    · rw [if_pos h1]
      go_enter Tryd.func53, Tryd.ntmps53
      go_wp2_with fail
      refine hl1.mono ?_
      rintro e w' ⟨rfl, rfl⟩
      go_wp2_with fail
      refine (len_int w _ x (by omega) (by omega)).mono ?_
      rw [h2]
      rintro e w' ⟨rfl, rfl⟩
      go_wp2_with fail
      go_ret
      exact ⟨ret_int (by omega), rfl⟩
    · rw [if_neg h1]
      have h3 : ((vlen x : Nat) : Int) ≠ 1 := by omega
      go_enter Tryd.func53, Tryd.ntmps53
      go_wp2_with fail
      refine hl1.mono ?_
      rintro e w' ⟨rfl, rfl⟩
      go_wp2_with fail
      refine (len_int w _ x (by omega) (by omega)).mono ?_
      rintro e w' ⟨rfl, rfl⟩
      go_wp2_with fail
      go_ret
      exact ⟨ret_int (by omega), rfl⟩
end Go.Proofs.YtdhhccpeikhilaaDoor
