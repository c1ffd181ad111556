/- The reference's receiving side: CYCame. -/
import Derived.Test.YtdhhccpeikhilaaDoorD3
namespace Go.Proofs.YtdhhccpeikhilaaDoor
open Go.RowKit

theorem came_far (w : World) (b a n : Nat) (ha : a ≤ 1000000) (hn : n ≤ 1000000) (hfar : 16384 < a + n) :
    Calls Tryd.prog 9 #[pt b, .int .i64 (a : Int), .int .i64 (n : Int)] w fun e w' => e = .returned (.int .i64 13) ∧ w = w' := by
  go_enter Tryd.func9, Tryd.ntmps9
  go_wp2_with fail
  go_ret
  exact ⟨rfl, rfl⟩

theorem came_late (w : World) (b r rd hi st a n : Nat) (wr : Value) (hb : Blk w b (cyC r rd hi true wr st) 35) (hz : a + n ≤ 16384) (hfar : hi < a + n) :
    Calls Tryd.prog 9 #[pt b, .int .i64 (a : Int), .int .i64 (n : Int)] w fun e w' => e = .returned (.int .i64 10) ∧ w = w' := by
  have c2 : w.cell? ⟨b, 2, none⟩ = some (.int .i64 (hi : Int)) := hb.cellAt 2 _ rfl
  have c3 : w.cell? ⟨b, 3, none⟩ = some (.bool true) := hb.cellAt 3 _ rfl
  have hlt := hb.lt
  go_enter Tryd.func9, Tryd.ntmps9
  go_wp2_with fail
  go_ret
  exact ⟨rfl, rfl⟩

theorem came_old (w : World) (b r rd hi st a n : Nat) (wr : Value) (hb : Blk w b (cyC r rd hi true wr st) 35) (hz : a + n ≤ 16384) (hfar : a + n ≤ hi) :
    Calls Tryd.prog 9 #[pt b, .int .i64 (a : Int), .int .i64 (n : Int)] w fun e w' => e = .returned (.int .i64 0) ∧ w = w' := by
  have c2 : w.cell? ⟨b, 2, none⟩ = some (.int .i64 (hi : Int)) := hb.cellAt 2 _ rfl
  have c3 : w.cell? ⟨b, 3, none⟩ = some (.bool true) := hb.cellAt 3 _ rfl
  have hlt := hb.lt
  go_enter Tryd.func9, Tryd.ntmps9
  go_wp2_with fail
  go_ret
  exact ⟨rfl, rfl⟩

set_option maxRecDepth 100000 in
theorem came_new (w : World) (b r rd hi st a n : Nat) (wv : Value) (H : Nat → Bool) (hb : Blk w b (cyC r rd hi false wv st) 35) (hH : HaveAt w r H) (hz : a + n ≤ 16384) (hrd : rd ≤ 16384) :
    Calls Tryd.prog 9 #[pt b, .int .i64 (a : Int), .int .i64 (n : Int)] w fun e w' => e = .returned (.int .i64 0) ∧ Blk w' b (cyC r rd (max hi (a + n)) false wv st) 35 ∧ (∃ H', HaveAt w' r H' ∧ ∀ k, H' k = (H k || (decide (rd ≤ k) && decide (a ≤ k) && decide (k < a + n)))) ∧ Fr (fun k => k = b ∨ k = r) w w' := by
  have c2 : w.cell? ⟨b, 2, none⟩ = some (.int .i64 (hi : Int)) := hb.cellAt 2 _ rfl
  have c3 : w.cell? ⟨b, 3, none⟩ = some (.bool false) := hb.cellAt 3 _ rfl
  have hlt := hb.lt
  have hfr := hb.free
  have HH := Lib.hid hH
  have HB := Lib.hid hb
  clear hH hb
  go_enter Tryd.func9, Tryd.ntmps9
  go_upto_region 9 with fail
  have hmax : (if (hi : Int) < (a : Int) + (n : Int) then (a : Int) + (n : Int) else (hi : Int)) = ((max hi (a + n) : Nat) : Int) := by split <;> omega
  rw [hmax]
  clear hmax
  have hB1 := HB.out.set 2 (.int .i64 ((max hi (a + n) : Nat) : Int))
  have hF1 : Fr (fun k => k = b) w (w.setCell ⟨b, 2, none⟩ (.int .i64 ((max hi (a + n) : Nat) : Int))) := (Fr.refl _ _).setCell _ _ (.inl rfl)
  have hH1 := HH.out.same (Below.heap_setCell w ⟨b, 2, none⟩ (.int .i64 ((max hi (a + n) : Nat) : Int)) _ (HH.out.ne_blk HB.out))
  clear c2 c3 hlt hfr
  generalize (w.setCell ⟨b, 2, none⟩ (.int .i64 ((max hi (a + n) : Nat) : Int))) = w1 at *
  have HB1 : Hid (Blk w1 b (cyC r rd (max hi (a + n)) false wv st) 35) := Lib.hid hB1
  have HF1 := Lib.hid hF1
  have HH1 := Lib.hid hH1
  clear hB1 hF1 hH1
  go_wp2_with fail
  go_loopg [8] n (fun k s8 wx => ∃ x : Nat, k + x = a + n ∧ a ≤ x ∧ s8 = .int .i64 (x : Int) ∧ Hid (Fr (fun k => k = r) w1 wx ∧ ∃ H', HaveAt wx r H' ∧ ∀ k, H' k = (H k || (decide (rd ≤ k) && decide (a ≤ k) && decide (k < x)))))
  case atStart => exact ⟨a, by omega, Nat.le_refl _, rfl, Lib.hid ⟨Fr.refl _ _, H, HH1.out, fun k => by
    have : (decide (rd ≤ k) && decide (a ≤ k) && decide (k < a)) = false := by
      by_cases c : a ≤ k
      · rw [decide_eq_false (show ¬ k < a by omega), Bool.and_false]
      · rw [decide_eq_false c, Bool.and_false, Bool.false_and]
    rw [this]; simp⟩⟩
  case round =>
    obtain ⟨x, hk, hrx, rfl, HI⟩ := hrel
    have hB := HI.out.1.blk HB1.out (fun e => HH1.out.ne_blk HB1.out e.symm)
    have c0 : wr.cell? ⟨b, 0, none⟩ = some (.map (some r)) := hB.cellAt 0 _ rfl
    have c1 : wr.cell? ⟨b, 1, none⟩ = some (.int .i64 (rd : Int)) := hB.cellAt 1 _ rfl
    have hltr := hB.lt
    have HB2 := Lib.hid hB
    clear hB
    by_cases hend : x = a + n
    · subst hend
      go_wp2_with fail
      go_ret
      obtain ⟨H1, hH1, hH1k⟩ := HI.out.2
      exact ⟨rfl, HB2.out, ⟨H1, hH1, hH1k⟩, (HF1.out.mono (fun k _ h => .inl h)).trans (HI.out.1.mono (fun k _ h => .inr h))⟩
    · have hin : x < a + n := by omega
      obtain ⟨H1, hH1, hH1k⟩ := HI.out.2
      have HH2 := Lib.hid hH1
      have HK1 := Lib.hid hH1k
      clear hH1 hH1k
      by_cases hrx2 : rd ≤ x
      · go_wp2_with (at_mapUpdate; refine wpList_putH _ rfl _ _ _ rfl r x H1 HH2.out rfl rfl rfl ?_; intro w2 hh1 hF2)
        go_roundg (gk - 1)
        case measure => omega
        case rel =>
          refine ⟨x + 1, by omega, by omega, by go_num, Lib.hid ⟨HI.out.1.trans hF2, _, hh1, fun k => ?_⟩⟩
          rw [HK1.out k]
          by_cases d2 : k < x
          · rw [decide_eq_true d2, decide_eq_true (show k < x + 1 by omega), decide_eq_false (show ¬ k = x by omega)]; simp
          · by_cases d3 : k = x
            · subst d3; simp [hrx, hrx2]
            · rw [decide_eq_false d2, decide_eq_false d3, decide_eq_false (show ¬ k < x + 1 by omega)]; simp
      · go_wp2_with fail
        go_roundg (gk - 1)
        case measure => omega
        case rel =>
          refine ⟨x + 1, by omega, by omega, by go_num, Lib.hid ⟨HI.out.1, _, HH2.out, fun k => ?_⟩⟩
          rw [HK1.out k]
          by_cases d2 : k < x
          · rw [decide_eq_true d2, decide_eq_true (show k < x + 1 by omega)]
          · by_cases d3 : rd ≤ k
            · rw [decide_eq_false d2, decide_eq_false (show ¬ k < x + 1 by omega)]
            · rw [decide_eq_false d3]; simp
end Go.Proofs.YtdhhccpeikhilaaDoor
