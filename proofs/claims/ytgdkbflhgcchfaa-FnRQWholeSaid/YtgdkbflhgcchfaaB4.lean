/- laws.rqAwake. -/
import Derived.Test.YtgdkbflhgcchfaaB3
import Derived.Lib.SlBytesConst
namespace Go.Proofs.Ytgdkbflhgcchfaa
open Go.RowKit

def awakeX : List Sp := [.lost 0 (.crypto 9 [97, 98, 99, 100, 101, 102]), .get 0 7, .get 0 100, .has 0]
theorem awakeY : sees St0 awakeX = [⟨false, false, []⟩, ⟨true, false, [6, 9, 4, 97, 98, 99, 100]⟩, ⟨true, false, [6, 13, 2, 101, 102]⟩, ⟨false, false, []⟩] := by kernel_rfl
theorem awakeOk : ∀ x ∈ awakeX, x.Ok := by
  intro x hx
  simp only [awakeX, List.mem_cons, List.not_mem_nil, or_false] at hx
  rcases hx with rfl | rfl | rfl | rfl
  · exact ⟨by omega, by decide, by decide, by decide⟩
  · exact ⟨by omega, by omega⟩
  · exact ⟨by omega, by omega⟩
  · show 0 ≤ 2; omega

/-- The four acts as they are made. -/
theorem awake_row (w : World) (g : Nat) (d : Value) (hd : Rd w d [97, 98, 99, 100, 101, 102]) (hB : Blk w g #[.int .i64 0, .int .i64 0, .int .i64 6, .int .u64 9, .int .u64 0, .int .u64 0, d, .int .i64 0,
    .int .i64 1, .int .i64 0, .int .i64 0, .int .u64 0, .int .u64 0, .int .u64 0, .slice none 0 0, .int .i64 7,
    .int .i64 1, .int .i64 0, .int .i64 0, .int .u64 0, .int .u64 0, .int .u64 0, .slice none 0 0, .int .i64 100,
    .int .i64 2, .int .i64 0, .int .i64 0, .int .u64 0, .int .u64 0, .int .u64 0, .slice none 0 0, .int .i64 0] 35) : StepsAt w (.slice (some ⟨g, 0, none⟩) 4 4) awakeX := by
  have hn : Rd w (.slice none 0 0) [] := ⟨none, 0, rfl, Nat.le_refl _, by omega, fun h => (h rfl).elim⟩
  refine ⟨fun k hk => ?_, [d, .slice none 0 0, .slice none 0 0, .slice none 0 0], rfl, ⟨rfl, _, 4, rfl, Nat.le_refl _, by omega, .inr ⟨g, 0, _, rfl, hB, Nat.le_refl _, fun j u hj => ?_⟩⟩, fun i x d' hx hd' => ?_⟩
  · have : g = k := Option.some.inj hk
    subst this; exact ⟨_, _, hB⟩
  · rw [Nat.zero_add, ← Array.getElem?_toList]; exact hj
  · match i, hx, hd' with
    | 0, hx, hd' => cases hx; cases hd'; exact hd
    | 1, hx, hd' => cases hx; cases hd'; exact hn
    | 2, hx, hd' => cases hx; cases hd'; exact hn
    | 3, hx, hd' => cases hx; cases hd'; exact hn
    | i + 4, hx, _ => simp [awakeX] at hx

set_option maxRecDepth 100000 in
set_option maxHeartbeats 4000000 in
theorem awake_any (w : World) : Calls Try.prog 11 #[] w fun e w' => e = .returned (.bool true) ∧ Grow w w' := by
  go_enter Try.func11, Try.ntmps11
  have hcv := Lib.run_convert_bytes_const (P := Try.prog) w 31 5 #[.int .u8 97, .int .u8 98, .int .u8 99, .int .u8 100, .int .u8 101, .int .u8 102] 6 6 Try.underlying31 Try.underlying5
  go_wp2_with fail
  refine (rqPlay_any _ _ awakeX (awake_row _ _ (.slice (some ⟨w.heap.size, 0, none⟩) 6 6) ?_ (Blk.newAt _ _ _ _ (by simp))) (by decide) awakeOk).mono ?_
  · refine ⟨_, _, rfl, by decide, by omega, fun _ => ⟨_, _, rfl, ⟨_, _, (Below.heap_alloc _ _ _ (by simp)).trans (heap_alloc_new w _)⟩, fun i x hx => ?_⟩⟩
    simp only [World.cell?, (Below.heap_alloc (w.alloc (.cells #[.int .u8 97, .int .u8 98, .int .u8 99, .int .u8 100, .int .u8 101, .int .u8 102] 5 (6, 7))) _ w.heap.size (by simp)).trans (heap_alloc_new w _), Nat.zero_add]
    match i, hx with
    | 0, hx => cases hx; rfl
    | 1, hx => cases hx; rfl
    | 2, hx => cases hx; rfl
    | 3, hx => cases hx; rfl
    | 4, hx => cases hx; rfl
    | 5, hx => cases hx; rfl
    | i + 6, hx => simp at hx
  rintro e w1 ⟨hgr, vs, rfl, hS⟩
  have HGR := Lib.hid hgr
  clear hgr
  clear hcv
  rw [awakeY] at hS
  obtain ⟨b, o, c, d1, rfl, hc1, hc2, hd1, k1, cur, hcur⟩ := RowAt.get (cs := snC) (size := 3) (fun _ _ => rfl) hS (i := 1) rfl
  obtain ⟨_, _, _, d2, e2, _, _, hd2, k2, _⟩ := RowAt.get (cs := snC) (size := 3) (fun _ _ => rfl) hS (i := 2) rfl
  obtain ⟨_, _, _, d3, e3, _, _, _, k3, _⟩ := RowAt.get (cs := snC) (size := 3) (fun _ _ => rfl) hS (i := 3) rfl
  injection e2 with f1 f2 f3
  injection f1 with f1
  injection f1 with f1 f4 f5
  subst f1 f4 f3
  injection e3 with f1 f2 f3
  injection f1 with f1
  injection f1 with f1 f4 f5
  subst f1 f4 f3
  have q1 : w1.cell? ⟨b, o + 3 + 2, none⟩ = some d1 := k1 2 _ rfl
  have q2 : w1.cell? ⟨b, o + 6 + 2, none⟩ = some d2 := k2 2 _ rfl
  have q3 : w1.cell? ⟨b, o + 9 + 1, none⟩ = some (.bool false) := k3 1 _ rfl
  have s1 := hd1.string
  have s2 := hd2.string
  have hbl := (Array.getElem?_eq_some_iff.1 hcur).1
  clear k1 k2 k3 hS hd1 hd2 hcur
  go_wp2_with fail
  go_ret
  exact ⟨rfl, Fr.trans (((Fr.refl _ w).alloc _).alloc _) HGR.out⟩
end Go.Proofs.Ytgdkbflhgcchfaa
