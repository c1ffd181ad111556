/- The law's argument, in memory; zzFits. -/
import Derived.Test.YtdhhccpeikhilaaDoorD4
namespace Go.Proofs.YtdhhccpeikhilaaDoor
open Go.RowKit

/-- An act of the law's argument. -/
structure COp where
  kind : Nat
  many : Nat
  off : Nat
  data : List UInt8

/-- Bytes where they lie, of whatever block. -/
def RdC (w : World) (v : Value) (l : List UInt8) : Prop := ∃ p c, v = .slice p l.length c ∧ l.length ≤ c ∧ c ≤ 9223372036854775807 ∧ (l ≠ [] → ∃ b o, p = some ⟨b, o, none⟩ ∧ b < w.heap.size ∧ ∀ (i : Nat) (x : UInt8), l[i]? = some x → w.cell? ⟨b, o + i, none⟩ = some (u8 x))

def OpsAt (w : World) (v : Value) (ops : List COp) : Prop :=
  ∃ p c, v = .slice p ops.length c ∧ ops.length ≤ c ∧ c ≤ 9223372036854775807 ∧ ∀ (i : Nat) (x : COp), ops[i]? = some x → x.kind < 256 ∧ x.many < 256 ∧ x.off < 65536 ∧ ∃ b o d, p = some ⟨b, o, none⟩ ∧ b < w.heap.size ∧ RdC w d x.data ∧
    w.cell? ⟨b, o + i * 4, none⟩ = some (.int .u8 (x.kind : Int)) ∧ w.cell? ⟨b, o + i * 4 + 1, none⟩ = some (.int .u8 (x.many : Int)) ∧ w.cell? ⟨b, o + i * 4 + 2, none⟩ = some (.int .u16 (x.off : Int)) ∧ w.cell? ⟨b, o + i * 4 + 3, none⟩ = some d

theorem RdC.grow {w w' : World} {v : Value} {l : List UInt8} (h : RdC w v l) (hg : Grow w w') : RdC w' v l := by
  obtain ⟨p, c, rfl, h1, h2, h3⟩ := h
  refine ⟨p, c, rfl, h1, h2, fun hne => ?_⟩
  obtain ⟨b, o, rfl, hb, h4⟩ := h3 hne
  exact ⟨b, o, rfl, Nat.lt_of_lt_of_le hb hg.size, fun i x hx => (World.cell?_of_block (w := w) (a := ⟨b, o + i, none⟩) (hg.block b hb (fun e => e))).trans (h4 i x hx)⟩
theorem OpsAt.grow {w w' : World} {v : Value} {ops : List COp} (h : OpsAt w v ops) (hg : Grow w w') : OpsAt w' v ops := by
  obtain ⟨p, c, rfl, h1, h2, h3⟩ := h
  refine ⟨p, c, rfl, h1, h2, fun i x hx => ?_⟩
  obtain ⟨k1, k2, k3, b, o, d, rfl, hb, hd, e0, e1, e2, e3⟩ := h3 i x hx
  have hs := hg.block b hb (fun e => e)
  exact ⟨k1, k2, k3, b, o, d, rfl, Nat.lt_of_lt_of_le hb hg.size, hd.grow hg, (World.cell?_of_block (w := w) (a := ⟨b, _, none⟩) hs).trans e0, (World.cell?_of_block (w := w) (a := ⟨b, _, none⟩) hs).trans e1, (World.cell?_of_block (w := w) (a := ⟨b, _, none⟩) hs).trans e2, (World.cell?_of_block (w := w) (a := ⟨b, _, none⟩) hs).trans e3⟩

theorem fits6 (w : World) (k m o : Int) (p : Option Addr) (n c : Nat) (_hn : n ≤ 9223372036854775807) :
    Calls Tryd.prog 20 #[.agg #[.int .u8 k, .int .u8 m, .int .u16 o, .slice p n c]] w fun e w' => (∃ bb, e = .returned (.bool bb)) ∧ Grow w w' := by
  go_enter Tryd.func20, Tryd.ntmps20
  go_wp2
  all_goals go_ret
  all_goals exact ⟨⟨_, rfl⟩, (Fr.refl _ _).alloc _⟩

set_option maxRecDepth 100000 in
theorem fits5 (w : World) (v : Value) (ops : List COp) (h : OpsAt w v ops) : Calls Tryd.prog 6 #[v] w fun e w' => (∃ bb, e = .returned (.bool bb)) ∧ Grow w w' := by
  obtain ⟨p, c, rfl, h1, h2, h3⟩ := id h
  have HO := Lib.hid h
  clear h h3
  go_enter Tryd.func6, Tryd.ntmps6
  by_cases hbig : ops.length ≤ 2147483647
  · go_wp2_with fail
    go_loopg [10] ops.length (fun k s10 wr => ∃ i : Nat, k + i = ops.length ∧ s10 = .int .i64 (i : Int) ∧ Hid (Grow w wr))
    case atStart => exact ⟨0, by simp, rfl, Lib.hid (Fr.refl _ _)⟩
    case round =>
      obtain ⟨i, hk, rfl, HG⟩ := hrel
      by_cases hend : i = ops.length
      · have hne : ¬ (i < ops.length) := by omega
        go_wp2_with fail
        go_ret
        exact ⟨⟨_, rfl⟩, HG.out⟩
      · have hin : i < ops.length := by omega
        have hx : ops[i]? = some (ops[i]'hin) := List.getElem?_eq_getElem hin
        generalize ops[i]'hin = X at hx
        obtain ⟨p', c', e', _, _, hall⟩ := HO.out.grow HG.out
        injection e' with q1 q2 q3
        subst q1
        subst q3
        obtain ⟨k1, k2, k3, b, o, d, rfl, hb, hd, e0, e1, e2, e3⟩ := hall i X hx
        obtain ⟨pd, cd, rfl, d1, d2, _⟩ := id hd
        have hl : X.data.length ≤ 9223372036854775807 := by omega
        clear hall hx hd q2
        go_wp2_with (go_at_call 20; refine (fits6 _ _ _ _ _ _ _ hl).mono ?_; rintro e w2 ⟨⟨bb, rfl⟩, hg2⟩; cases bb)
        · go_ret
          exact ⟨⟨_, rfl⟩, HG.out.trans (((Fr.refl _ _).alloc _).trans hg2)⟩
        · go_roundg (gk - 1)
          case measure => omega
          case rel => exact ⟨i + 1, by omega, by go_num, Lib.hid (HG.out.trans (((Fr.refl _ _).alloc _).trans hg2))⟩
  · have hbig2 : 2147483647 < ops.length := by omega
    go_wp2_with fail
    go_ret
    exact ⟨⟨_, rfl⟩, Fr.refl _ _⟩
end Go.Proofs.YtdhhccpeikhilaaDoor
