/- The law's argument, in memory; zzFits. -/
import Derived.Test.YtgdkbflhgcchfaaB3
namespace Go.Proofs.Ytgdkbflhgcchfaa
open Go.RowKit

/-- An act of the law's argument. -/
structure ROp where
  kind : Nat
  lev : Nat
  ty : Nat
  a : Nat
  b : Nat
  most : Nat
  data : List UInt8

/-- Bytes where they lie, of whatever block. -/
def RdC (w : World) (v : Value) (l : List UInt8) : Prop := ∃ p c, v = .slice p l.length c ∧ l.length ≤ c ∧ c ≤ 9223372036854775807 ∧ (l ≠ [] → ∃ b o, p = some ⟨b, o, none⟩ ∧ b < w.heap.size ∧ ∀ (i : Nat) (x : UInt8), l[i]? = some x → w.cell? ⟨b, o + i, none⟩ = some (u8 x))

def OpsAt (w : World) (v : Value) (ops : List ROp) : Prop :=
  ∃ p c, v = .slice p ops.length c ∧ ops.length ≤ c ∧ c ≤ 9223372036854775807 ∧ ∀ (i : Nat) (x : ROp), ops[i]? = some x → x.kind < 256 ∧ x.lev < 256 ∧ x.ty < 256 ∧ x.a < 4294967296 ∧ x.b < 4294967296 ∧ x.most < 65536 ∧ ∃ b o d, p = some ⟨b, o, none⟩ ∧ b < w.heap.size ∧ RdC w d x.data ∧
    w.cell? ⟨b, o + i * 7, none⟩ = some (.int .u8 (x.kind : Int)) ∧ w.cell? ⟨b, o + i * 7 + 1, none⟩ = some (.int .u8 (x.lev : Int)) ∧ w.cell? ⟨b, o + i * 7 + 2, none⟩ = some (.int .u8 (x.ty : Int)) ∧ w.cell? ⟨b, o + i * 7 + 3, none⟩ = some (.int .u32 (x.a : Int)) ∧ w.cell? ⟨b, o + i * 7 + 4, none⟩ = some (.int .u32 (x.b : Int)) ∧ w.cell? ⟨b, o + i * 7 + 5, none⟩ = some (.int .u16 (x.most : Int)) ∧ w.cell? ⟨b, o + i * 7 + 6, none⟩ = some d

theorem RdC.grow {w w' : World} {v : Value} {l : List UInt8} (h : RdC w v l) (hg : Grow w w') : RdC w' v l := by
  obtain ⟨p, c, rfl, h1, h2, h3⟩ := h
  refine ⟨p, c, rfl, h1, h2, fun hne => ?_⟩
  obtain ⟨b, o, rfl, hb, h4⟩ := h3 hne
  exact ⟨b, o, rfl, Nat.lt_of_lt_of_le hb hg.size, fun i x hx => (World.cell?_of_block (w := w) (a := ⟨b, o + i, none⟩) (hg.block b hb (fun e => e))).trans (h4 i x hx)⟩
theorem OpsAt.grow {w w' : World} {v : Value} {ops : List ROp} (h : OpsAt w v ops) (hg : Grow w w') : OpsAt w' v ops := by
  obtain ⟨p, c, rfl, h1, h2, h3⟩ := h
  refine ⟨p, c, rfl, h1, h2, fun i x hx => ?_⟩
  obtain ⟨k1, k2, k3, k4, k5, k6, b, o, d, rfl, hb, hd, e0, e1, e2, e3, e4, e5, e6⟩ := h3 i x hx
  have hs := hg.block b hb (fun e => e)
  have hc : ∀ j, w'.cell? ⟨b, j, none⟩ = w.cell? ⟨b, j, none⟩ := fun j => World.cell?_of_block (w := w) (a := ⟨b, j, none⟩) hs
  exact ⟨k1, k2, k3, k4, k5, k6, b, o, d, rfl, Nat.lt_of_lt_of_le hb hg.size, hd.grow hg, (hc _).trans e0, (hc _).trans e1, (hc _).trans e2, (hc _).trans e3, (hc _).trans e4, (hc _).trans e5, (hc _).trans e6⟩
theorem RdC.rd {w : World} {v : Value} {l : List UInt8} (h : RdC w v l) (hb : ∀ b o n c, v = .slice (some ⟨b, o, none⟩) n c → BytesBlk w b) : Rd w v l := by
  obtain ⟨p, c, rfl, h1, h2, h3⟩ := h
  refine ⟨p, c, rfl, h1, h2, fun hne => ?_⟩
  obtain ⟨b, o, rfl, hl, h4⟩ := h3 hne
  exact ⟨b, o, rfl, hb b o _ _ rfl, h4⟩

theorem fits4 (w : World) (k l t a b o : Int) (p : Option Addr) (n c : Nat) (_hn : n ≤ 9223372036854775807) :
    Calls Try.prog 14 #[.agg #[.int .u8 k, .int .u8 l, .int .u8 t, .int .u32 a, .int .u32 b, .int .u16 o, .slice p n c]] w fun e w' => (∃ bb, e = .returned (.bool bb)) ∧ Grow w w' := by
  go_enter Try.func14, Try.ntmps14
  go_wp2
  all_goals go_ret
  all_goals exact ⟨⟨_, rfl⟩, (Fr.refl _ _).alloc _⟩

set_option maxRecDepth 100000 in
theorem fits3 (w : World) (v : Value) (ops : List ROp) (h : OpsAt w v ops) : Calls Try.prog 5 #[v] w fun e w' => (∃ bb, e = .returned (.bool bb)) ∧ Grow w w' := by
  obtain ⟨p, c, rfl, h1, h2, h3⟩ := id h
  have HO := Lib.hid h
  clear h h3
  go_enter Try.func5, Try.ntmps5
  by_cases hbig : ops.length ≤ 2147483647
  · go_wp2_with fail
    go_loopg [10] ops.length (fun k s10 wr => ∃ i : Nat, k + i = ops.length ∧ s10 = .int .i64 (i : Int) ∧ Hid (Grow w wr))
    case atStart => exact ⟨0, by simp, rfl, Lib.hid (Fr.refl _ _)⟩
    case round =>
      obtain ⟨i, hk, rfl, HG⟩ := hrel
      by_cases hend : i = ops.length
      · have hne : ¬ (i < ops.length) := by omega
        go_wp2_with fail
        go_ret
        exact ⟨⟨_, rfl⟩, HG.out⟩
      · have hin : i < ops.length := by omega
        have hx : ops[i]? = some (ops[i]'hin) := List.getElem?_eq_getElem hin
        generalize ops[i]'hin = X at hx
        obtain ⟨p', c', e', _, _, hall⟩ := HO.out.grow HG.out
        injection e' with q1 q2 q3
        subst q1
        subst q3
        obtain ⟨k1, k2, k3, k4, k5, k6, b, o, d, rfl, hb, hd, e0, e1, e2, e3, e4, e5, e6⟩ := hall i X hx
        obtain ⟨pd, cd, rfl, d1, d2, _⟩ := id hd
        have hl : X.data.length ≤ 9223372036854775807 := by omega
        clear hall hx hd q2
        go_wp2_with (go_at_call 14; refine (fits4 _ _ _ _ _ _ _ _ _ _ hl).mono ?_; rintro e w2 ⟨⟨bb, rfl⟩, hg2⟩; cases bb)
        · go_ret
          exact ⟨⟨_, rfl⟩, HG.out.trans (((Fr.refl _ _).alloc _).trans hg2)⟩
        · go_roundg (gk - 1)
          case measure => omega
          case rel => exact ⟨i + 1, by omega, by go_num, Lib.hid (HG.out.trans (((Fr.refl _ _).alloc _).trans hg2))⟩
  · have hbig2 : 2147483647 < ops.length := by omega
    go_wp2_with fail
    go_ret
    exact ⟨⟨_, rfl⟩, Fr.refl _ _⟩
end Go.Proofs.Ytgdkbflhgcchfaa
