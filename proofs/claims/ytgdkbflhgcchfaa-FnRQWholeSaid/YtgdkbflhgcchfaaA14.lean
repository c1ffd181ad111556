/- addAppData. -/
import Derived.Test.YtgdkbflhgcchfaaA11
namespace Go.Proofs.Ytgdkbflhgcchfaa
open Go.RowKit

set_option maxRecDepth 100000 in
set_option maxHeartbeats 4000000 in
theorem addA_c (w : World) (Q : Nat) (F : Nat → Prop) (cv ov : Value) (cl : List CE) (ol : List OE) (p : Nat) (a : Nat) (d : List UInt8) (v0 v1 : Value) (hQB : Blk w Q #[v0, v1, cv, ov] 181) (hL : LvE w cv ov F cl ol) (hp : ¬ F p) (hc : CrAt w p a d) (hl : cl.length ≤ 100000) :
    Calls Try.prog 109 #[pt Q, .iface 120 (pt p)] w fun e w' => e = .returned (.tuple #[]) ∧ AddOut w w' Q 2 #[v0, v1, cv, ov] 181 F cl ol p (.crypto a d) := by
  have hB := hQB
  have hQ := hQB.lt
  have c0 : w.cell? ⟨Q, 2, none⟩ = some cv := hB.cellAt 2 _ rfl
  have ta := ta_yes (pt p) w
  have tb := ta_yes2 (pt p) w
  have hcr : ∀ k, cv.ownBlock = some k → k < w.heap.size := fun k e => by obtain ⟨_, cur, f, h1⟩ := hL.cF k e; exact (Array.getElem?_eq_some_iff.1 h1).1
  have HAp := Lib.hid (append_cell (w := w) (x := pt p) (t := 176) Try.underlying176 info120 rfl (by omega) (hL.crow.keep (w' := w) (fun _ _ => rfl)) rfl hl hcr)
  have HE : Hid (∀ v' w1, (Own w1 v' 120 1 (cl.length + 1) ((cl.map fun x => pt x.p) ++ [pt p]) ∧ Fr (fun k => cv.ownBlock = some k) w w1 ∧ ∀ k, v'.ownBlock = some k → cv.ownBlock = some k ∨ (w.heap.size ≤ k ∧ k < w1.heap.size)) →
      ((w1.cell? ⟨Q, 2, none⟩ = some cv) ∧ Q < w1.heap.size ∧ (∀ i, w1.frozen? ⟨Q, i, none⟩ = false) ∧ AddOut w (w1.setCell ⟨Q, 2, none⟩ v') Q 2 #[v0, v1, cv, ov] 181 F cl ol p (.crypto a d))) := Lib.hid fun v' w1 ⟨g1, g2, g3⟩ => by
    have hBr : ¬ (cv.ownBlock = some Q) := fun e => by
      obtain ⟨_, cur, f, h1⟩ := hL.cF Q e
      have := Option.some.inj (h1.symm.trans hB)
      injection this with _ x _
      exact absurd x (by decide)
    have hB1 : Blk w1 Q #[v0, v1, cv, ov] 181 := g2.blk hB hBr
    exact ⟨hB1.cellAt 2 _ rfl, hB1.lt, hB1.free, addC_end (w := w) hB rfl (hL.keep (fun _ _ => rfl) (fun _ _ => rfl)) rfl hp (hc.keep rfl (fun _ _ => rfl)) g1 g2 g3⟩
  clear hB hL hc hcr
  go_enter Try.func109, Try.ntmps109
  go_wp2_with (at_builtin; refine wpList_append_run _ rfl _ _ 176 rfl _ _ rfl rfl (HAp.out _) ?_; rintro v' w1 hR; obtain ⟨_, pv, cap', rfl, _⟩ := id hR.1; obtain ⟨g0, g1, g2, g3⟩ := HE.out _ w1 hR; have H3 := Lib.hid g3; have g4 := g0; clear g0 g3 hR)
  go_end0
  exact ⟨rfl, H3.out⟩

set_option maxRecDepth 100000 in
set_option maxHeartbeats 4000000 in
theorem addA_o (w : World) (Q : Nat) (F : Nat → Prop) (cv ov : Value) (cl : List CE) (ol : List OE) (p : Nat) (Ty : TypeId) (c : Ct) (v0 v1 : Value) (hQB : Blk w Q #[v0, v1, cv, ov] 181) (hL : LvE w cv ov F cl ol) (hc : FrC w p c (.iface Ty (pt p))) (hty : c.ty ≠ 6) (hl : ol.length ≤ 100000) :
    Calls Try.prog 109 #[pt Q, .iface Ty (pt p)] w fun e w' => e = .returned (.tuple #[]) ∧ AddOut w w' Q 2 #[v0, v1, cv, ov] 181 F cl ol p c := by
  have hB := hQB
  have hQ := hQB.lt
  have c0 : w.cell? ⟨Q, 3, none⟩ = some ov := hB.cellAt 3 _ rfl
  have ta := (hc.ta hty w).1
  have tb := (hc.ta hty w).2
  have hcr : ∀ k, ov.ownBlock = some k → k < w.heap.size := fun k e => by obtain ⟨_, cur, f, h1⟩ := hL.oF k e; exact (Array.getElem?_eq_some_iff.1 h1).1
  have HAp := Lib.hid (append_cell (w := w) (x := .iface Ty (pt p)) (t := 177) Try.underlying177 info84 rfl (by omega) (hL.orow.keep (w' := w) (fun _ _ => rfl)) rfl hl hcr)
  have HE : Hid (∀ v' w1, (Own w1 v' 84 1 (ol.length + 1) ((ol.map fun x => x.fv) ++ [.iface Ty (pt p)]) ∧ Fr (fun k => ov.ownBlock = some k) w w1 ∧ ∀ k, v'.ownBlock = some k → ov.ownBlock = some k ∨ (w.heap.size ≤ k ∧ k < w1.heap.size)) →
      ((w1.cell? ⟨Q, 3, none⟩ = some ov) ∧ Q < w1.heap.size ∧ (∀ i, w1.frozen? ⟨Q, i, none⟩ = false) ∧ AddOut w (w1.setCell ⟨Q, 3, none⟩ v') Q 2 #[v0, v1, cv, ov] 181 F cl ol p c)) := Lib.hid fun v' w1 ⟨g1, g2, g3⟩ => by
    have hBr : ¬ (ov.ownBlock = some Q) := fun e => by
      obtain ⟨_, cur, f, h1⟩ := hL.oF Q e
      have := Option.some.inj (h1.symm.trans hB)
      injection this with _ x _
      exact absurd x (by decide)
    have hB1 : Blk w1 Q #[v0, v1, cv, ov] 181 := g2.blk hB hBr
    exact ⟨hB1.cellAt 3 _ rfl, hB1.lt, hB1.free, addO_end (w := w) hB rfl (hL.keep (fun _ _ => rfl) (fun _ _ => rfl)) rfl (hc.keep rfl (fun _ _ => rfl)) hty g1 g2 g3⟩
  clear hB hL hc hcr hty
  go_enter Try.func109, Try.ntmps109
  go_wp2_with (at_builtin; refine wpList_append_run _ rfl _ _ 177 rfl _ _ rfl rfl (HAp.out _) ?_; rintro v' w1 hR; obtain ⟨_, pv, cap', rfl, _⟩ := id hR.1; obtain ⟨g0, g1, g2, g3⟩ := HE.out _ w1 hR; have H3 := Lib.hid g3; have g4 := g0; clear g0 g3 hR)
  go_end0
  exact ⟨rfl, H3.out⟩
end Go.Proofs.Ytgdkbflhgcchfaa
