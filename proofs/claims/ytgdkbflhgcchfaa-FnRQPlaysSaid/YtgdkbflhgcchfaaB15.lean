/- RQState.Step for every act. -/
import Derived.Test.YtgdkbflhgcchfaaB10
import Derived.Test.YtgdkbflhgcchfaaB11
import Derived.Test.YtgdkbflhgcchfaaB12
namespace Go.Proofs.Ytgdkbflhgcchfaa
open Go.RowKit

theorem has_lens (st : St) (n : Nat) : decide (0 < (lvD st n).1.length + (lvD st n).2.length) = st.has n := by
  unfold St.has lvD
  cases st.lv n with
  | none => simp
  | some L => obtain ⟨c, o⟩ := L; cases c <;> cases o <;> simp <;> omega
theorem lvD_ok {N : Nat} {st : St} (h : SOk3 N st) (n : Nat) (hn : n ≤ 2) : LOk N (lvD st n) := by
  unfold lvD
  cases e : st.lv n with
  | none => exact ⟨(fun _ h => nomatch h), (fun _ h => nomatch h), Nat.zero_le _, Nat.zero_le _⟩
  | some L => exact h n L hn e
theorem step_ref {w : World} {s : Nat} {cv ov : Nat → Value} {st : St} (h : RefE w s cv ov st) {N : Nat} (hO : SOk3 N st) (hN : N ≤ 1000) (x : Sp) (hx : x.Ok) (d : Value) (hd : Rd w d x.data) :
    Calls Try.prog 12 #[pt s, stA x d] w fun e w' => (∃ d', e = .returned (.agg #[.bool (st.step x).1.is, .bool (st.step x).1.has, d']) ∧ Rd w' d' (st.step x).1.frame) ∧ ROut w w' s cv ov (st.step x).2 := by
  cases x with
  | lost n c =>
    obtain ⟨hn, ha, hb, hl⟩ := hx
    cases e : st.lv n with
    | none =>
      obtain ⟨p, cd, rfl, _⟩ := id hd
      have e1 : (st.step (.lost n c)).2 = st := by simp [St.step, St.lost, e]
      rw [e1]
      exact step_dropped w s n c.ty c.a c.b c.c c.data.length cd p cv ov st h e (by omega)
    | some L =>
      have hL := hO n L hn e
      by_cases ht : c.ty = 6
      · cases c
        case crypto a m => exact step_lostC w s n a m d cv ov st L h e (by omega) hd (by have : m.length ≤ 301 := hl; omega) ha (Nat.le_trans hL.2.2.1 hN)
        all_goals cases ht
      · exact step_lostO w s n c d cv ov st L h e (by omega) hd ⟨by omega, by omega, by omega⟩ ht (Nat.le_trans hL.2.2.2 hN)
  | get n M =>
    obtain ⟨hn, hM⟩ := hx
    obtain ⟨p, cd, rfl, _⟩ := id hd
    exact step_get w s n _ cd M p cv ov st h (by omega) (by omega) (lvD_ok hO n hn).1
  | has n =>
    have hn : n ≤ 2 := hx
    obtain ⟨p, cd, rfl, _⟩ := id hd
    have hk := lvD_ok hO n hn
    have := step_has w s n (Sp.has n).data.length cd p cv ov st h (by omega) _ _ rfl rfl ⟨Nat.le_trans hk.2.2.1 hN, Nat.le_trans hk.2.2.2 hN⟩
    rw [has_lens] at this
    exact this
  | drop n =>
    have hn : n ≤ 1 := hx
    obtain ⟨p, cd, rfl, _⟩ := id hd
    exact step_drop w s n _ cd p cv ov st h hn
end Go.Proofs.Ytgdkbflhgcchfaa
