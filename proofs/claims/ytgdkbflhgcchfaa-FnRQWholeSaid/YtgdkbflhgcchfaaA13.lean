/- addHandshake. -/
import Derived.Test.YtgdkbflhgcchfaaA11
namespace Go.Proofs.Ytgdkbflhgcchfaa
open Go.RowKit

set_option maxRecDepth 100000 in
set_option maxHeartbeats 4000000 in
theorem addH_c (w : World) (Q b : Nat) (F : Nat → Prop) (cv ov : Value) (cl : List CE) (ol : List OE) (p : Nat) (a : Nat) (d : List UInt8) (v0 c2 o2 : Value) (hQB : Blk w Q #[v0, pt b, c2, o2] 181) (hB : Blk w b #[cv, ov] 179) (hL : LvE w cv ov F cl ol) (hp : ¬ F p) (hc : CrAt w p a d) (hl : cl.length ≤ 100000) :
    Calls Try.prog 106 #[pt Q, .iface 120 (pt p)] w fun e w' => e = .returned (.tuple #[]) ∧ AddOut w w' b 0 #[cv, ov] 179 F cl ol p (.crypto a d) := by
  have hQ := hQB.lt
  have hblt := hB.lt
  have hq : w.cell? ⟨Q, 1, none⟩ = some (pt b) := hQB.cellAt 1 _ rfl
  have c0 : w.cell? ⟨b, 0, none⟩ = some cv := hB.cellAt 0 _ rfl
  have ta := ta_yes (pt p) w
  have hcr : ∀ k, cv.ownBlock = some k → k < w.heap.size := fun k e => by obtain ⟨_, cur, f, h1⟩ := hL.cF k e; exact (Array.getElem?_eq_some_iff.1 h1).1
  have HAp := Lib.hid (append_cell (w := w.drew) (x := pt p) (t := 176) Try.underlying176 info120 rfl (by omega) (hL.crow.keep (w' := w.drew) (fun _ _ => rfl)) rfl hl hcr)
  have HE : Hid (∀ v' w1, (Own w1 v' 120 1 (cl.length + 1) ((cl.map fun x => pt x.p) ++ [pt p]) ∧ Fr (fun k => cv.ownBlock = some k) w.drew w1 ∧ ∀ k, v'.ownBlock = some k → cv.ownBlock = some k ∨ (w.drew.heap.size ≤ k ∧ k < w1.heap.size)) →
      ((w1.cell? ⟨Q, 1, none⟩ = some (pt b) ∧ w1.cell? ⟨b, 0, none⟩ = some cv) ∧ b < w1.heap.size ∧ (∀ i, w1.frozen? ⟨b, i, none⟩ = false) ∧ AddOut w (w1.setCell ⟨b, 0, none⟩ v') b 0 #[cv, ov] 179 F cl ol p (.crypto a d))) := Lib.hid fun v' w1 ⟨g1, g2, g3⟩ => by
    have hBr : ¬ (cv.ownBlock = some b) := fun e => by
      obtain ⟨_, cur, f, h1⟩ := hL.cF b e
      have := Option.some.inj (h1.symm.trans hB)
      injection this with _ x _
      exact absurd x (by decide)
    have hQr : ¬ (cv.ownBlock = some Q) := fun e => by
      obtain ⟨_, cur, f, h1⟩ := hL.cF Q e
      have := Option.some.inj (h1.symm.trans hQB)
      injection this with _ x _
      exact absurd x (by decide)
    have hB1 : Blk w1 b #[cv, ov] 179 := g2.blk hB.drew hBr
    exact ⟨⟨(World.cell?_of_block (g2.block Q hQ hQr)).trans hq, hB1.cellAt 0 _ rfl⟩, hB1.lt, hB1.free, (addC_end (w := w.drew) hB rfl (hL.keep (fun _ _ => rfl) (fun _ _ => rfl)) rfl hp (hc.keep rfl (fun _ _ => rfl)) g1 g2 g3).ofDrew⟩
  clear hB hL hc hcr hQB
  go_enter Try.func106, Try.ntmps106
  go_upto_region 3 with fail
  go_region_law (refine step_append_run (by go_simp) _ _ 176 (by rfl) _ _ (by rfl) (by rfl) (HAp.out _) ?_; rintro v' w1 hR; obtain ⟨_, pv, cap', rfl, _⟩ := id hR.1; obtain ⟨g0, g1, g2, g3⟩ := HE.out _ w1 hR; have H3 := Lib.hid g3; have g5 := g0.1; have g4 := g0.2; clear g0 g3 hR)
  all_goals (
    go_wp2_with fail
    refine bodyPost_ret (v := .tuple #[]) (by simp [results, Try.results106, go_sem]) rfl ?_
    exact ⟨rfl, H3.out⟩)

set_option maxRecDepth 100000 in
set_option maxHeartbeats 4000000 in
theorem addH_o (w : World) (Q b : Nat) (F : Nat → Prop) (cv ov : Value) (cl : List CE) (ol : List OE) (p : Nat) (Ty : TypeId) (c : Ct) (v0 c2 o2 : Value) (hQB : Blk w Q #[v0, pt b, c2, o2] 181) (hB : Blk w b #[cv, ov] 179) (hL : LvE w cv ov F cl ol) (hc : FrC w p c (.iface Ty (pt p))) (hty : c.ty ≠ 6) (hl : ol.length ≤ 100000) :
    Calls Try.prog 106 #[pt Q, .iface Ty (pt p)] w fun e w' => e = .returned (.tuple #[]) ∧ AddOut w w' b 0 #[cv, ov] 179 F cl ol p c := by
  have hQ := hQB.lt
  have hblt := hB.lt
  have hq : w.cell? ⟨Q, 1, none⟩ = some (pt b) := hQB.cellAt 1 _ rfl
  have c0 : w.cell? ⟨b, 1, none⟩ = some ov := hB.cellAt 1 _ rfl
  have ta := (hc.ta hty w).1
  have hcr : ∀ k, ov.ownBlock = some k → k < w.heap.size := fun k e => by obtain ⟨_, cur, f, h1⟩ := hL.oF k e; exact (Array.getElem?_eq_some_iff.1 h1).1
  have HAp := Lib.hid (append_cell (w := w.drew) (x := .iface Ty (pt p)) (t := 177) Try.underlying177 info84 rfl (by omega) (hL.orow.keep (w' := w.drew) (fun _ _ => rfl)) rfl hl hcr)
  have HE : Hid (∀ v' w1, (Own w1 v' 84 1 (ol.length + 1) ((ol.map fun x => x.fv) ++ [.iface Ty (pt p)]) ∧ Fr (fun k => ov.ownBlock = some k) w.drew w1 ∧ ∀ k, v'.ownBlock = some k → ov.ownBlock = some k ∨ (w.drew.heap.size ≤ k ∧ k < w1.heap.size)) →
      ((w1.cell? ⟨Q, 1, none⟩ = some (pt b) ∧ w1.cell? ⟨b, 1, none⟩ = some ov) ∧ b < w1.heap.size ∧ (∀ i, w1.frozen? ⟨b, i, none⟩ = false) ∧ AddOut w (w1.setCell ⟨b, 1, none⟩ v') b 0 #[cv, ov] 179 F cl ol p c)) := Lib.hid fun v' w1 ⟨g1, g2, g3⟩ => by
    have hBr : ¬ (ov.ownBlock = some b) := fun e => by
      obtain ⟨_, cur, f, h1⟩ := hL.oF b e
      have := Option.some.inj (h1.symm.trans hB)
      injection this with _ x _
      exact absurd x (by decide)
    have hQr : ¬ (ov.ownBlock = some Q) := fun e => by
      obtain ⟨_, cur, f, h1⟩ := hL.oF Q e
      have := Option.some.inj (h1.symm.trans hQB)
      injection this with _ x _
      exact absurd x (by decide)
    have hB1 : Blk w1 b #[cv, ov] 179 := g2.blk hB.drew hBr
    exact ⟨⟨(World.cell?_of_block (g2.block Q hQ hQr)).trans hq, hB1.cellAt 1 _ rfl⟩, hB1.lt, hB1.free, (addO_end (w := w.drew) hB rfl (hL.keep (fun _ _ => rfl) (fun _ _ => rfl)) rfl (hc.keep rfl (fun _ _ => rfl)) hty g1 g2 g3).ofDrew⟩
  clear hB hL hc hcr hQB hty
  go_enter Try.func106, Try.ntmps106
  go_upto_region 4 with fail
  go_region_law (refine step_append_run (by go_simp) _ _ 177 (by rfl) _ _ (by rfl) (by rfl) (HAp.out _) ?_; rintro v' w1 hR; obtain ⟨_, pv, cap', rfl, _⟩ := id hR.1; obtain ⟨g0, g1, g2, g3⟩ := HE.out _ w1 hR; have H3 := Lib.hid g3; have g5 := g0.1; have g4 := g0.2; clear g0 g3 hR)
  all_goals (
    go_wp2_with fail
    go_end0
    exact ⟨rfl, H3.out⟩)
end Go.Proofs.Ytgdkbflhgcchfaa
