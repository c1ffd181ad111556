/- The reference's receiving side: CYCame. The law's argument, in memory; zzFits. The law's argument, opened. -/
import Derived.Test.YtdhhccpeikhilaaDoorD3
import Derived.Lib.SmallJoins
import Derived.ProofKit
import Derived.OpenShut
import Derived.Deep.Slices
import Derived.ReadAgain
namespace Go.Proofs.YtdhhccpeikhilaaDoor
open Go.RowKit

theorem came_far (w : World) (b a n : Nat) (ha : a ≤ 1000000) (hn : n ≤ 1000000) (hfar : 16384 < a + n) :
    Calls Tryd.prog 9 #[pt b, .int .i64 (a : Int), .int .i64 (n : Int)] w fun e w' => e = .returned (.int .i64 13) ∧ w = w' := by
  go_enter Tryd.func9, Tryd.ntmps9
  go_wp2_with fail
  go_ret
  exact ⟨rfl, rfl⟩

theorem came_late (w : World) (b r rd hi st a n : Nat) (wr : Value) (hb : Blk w b (cyC r rd hi true wr st) 35) (hz : a + n ≤ 16384) (hfar : hi < a + n) :
    Calls Tryd.prog 9 #[pt b, .int .i64 (a : Int), .int .i64 (n : Int)] w fun e w' => e = .returned (.int .i64 10) ∧ w = w' := by
  have c2 : w.cell? ⟨b, 2, none⟩ = some (.int .i64 (hi : Int)) := hb.cellAt 2 _ rfl
  have c3 : w.cell? ⟨b, 3, none⟩ = some (.bool true) := hb.cellAt 3 _ rfl
  have hlt := hb.lt
  go_enter Tryd.func9, Tryd.ntmps9
  go_wp2_with fail
  go_ret
  exact ⟨rfl, rfl⟩

theorem came_old (w : World) (b r rd hi st a n : Nat) (wr : Value) (hb : Blk w b (cyC r rd hi true wr st) 35) (hz : a + n ≤ 16384) (hfar : a + n ≤ hi) :
    Calls Tryd.prog 9 #[pt b, .int .i64 (a : Int), .int .i64 (n : Int)] w fun e w' => e = .returned (.int .i64 0) ∧ w = w' := by
  have c2 : w.cell? ⟨b, 2, none⟩ = some (.int .i64 (hi : Int)) := hb.cellAt 2 _ rfl
  have c3 : w.cell? ⟨b, 3, none⟩ = some (.bool true) := hb.cellAt 3 _ rfl
  have hlt := hb.lt
  go_enter Tryd.func9, Tryd.ntmps9
  go_wp2_with fail
  go_ret
  exact ⟨rfl, rfl⟩

set_option maxRecDepth 100000 in
theorem came_new (w : World) (b r rd hi st a n : Nat) (wv : Value) (H : Nat → Bool) (hb : Blk w b (cyC r rd hi false wv st) 35) (hH : HaveAt w r H) (hz : a + n ≤ 16384) (hrd : rd ≤ 16384) :
    Calls Tryd.prog 9 #[pt b, .int .i64 (a : Int), .int .i64 (n : Int)] w fun e w' => e = .returned (.int .i64 0) ∧ Blk w' b (cyC r rd (max hi (a + n)) false wv st) 35 ∧ (∃ H', HaveAt w' r H' ∧ ∀ k, H' k = (H k || (decide (rd ≤ k) && decide (a ≤ k) && decide (k < a + n)))) ∧ Fr (fun k => k = b ∨ k = r) w w' := by
  have c2 : w.cell? ⟨b, 2, none⟩ = some (.int .i64 (hi : Int)) := hb.cellAt 2 _ rfl
  have c3 : w.cell? ⟨b, 3, none⟩ = some (.bool false) := hb.cellAt 3 _ rfl
  have hlt := hb.lt
  have hfr := hb.free
  have HH := Lib.hid hH
  have HB := Lib.hid hb
  clear hH hb
  go_enter Tryd.func9, Tryd.ntmps9
  go_upto_region 9 with fail
  have hmax : (if (hi : Int) < (a : Int) + (n : Int) then (a : Int) + (n : Int) else (hi : Int)) = ((max hi (a + n) : Nat) : Int) := by split <;> omega
  rw [hmax]
  clear hmax
  have hB1 := HB.out.set 2 (.int .i64 ((max hi (a + n) : Nat) : Int))
  have hF1 : Fr (fun k => k = b) w (w.setCell ⟨b, 2, none⟩ (.int .i64 ((max hi (a + n) : Nat) : Int))) := (Fr.refl _ _).setCell _ _ (.inl rfl)
  have hH1 := HH.out.same (Below.heap_setCell w ⟨b, 2, none⟩ (.int .i64 ((max hi (a + n) : Nat) : Int)) _ (HH.out.ne_blk HB.out))
  clear c2 c3 hlt hfr
  generalize (w.setCell ⟨b, 2, none⟩ (.int .i64 ((max hi (a + n) : Nat) : Int))) = w1 at *
  have HB1 : Hid (Blk w1 b (cyC r rd (max hi (a + n)) false wv st) 35) := Lib.hid hB1
  have HF1 := Lib.hid hF1
  have HH1 := Lib.hid hH1
  clear hB1 hF1 hH1
  go_wp2_with fail
  go_loopg [8] n (fun k s8 wx => ∃ x : Nat, k + x = a + n ∧ a ≤ x ∧ s8 = .int .i64 (x : Int) ∧ Hid (Fr (fun k => k = r) w1 wx ∧ ∃ H', HaveAt wx r H' ∧ ∀ k, H' k = (H k || (decide (rd ≤ k) && decide (a ≤ k) && decide (k < x)))))
  case atStart => exact ⟨a, by omega, Nat.le_refl _, rfl, Lib.hid ⟨Fr.refl _ _, H, HH1.out, fun k => by
    have : (decide (rd ≤ k) && decide (a ≤ k) && decide (k < a)) = false := by
      by_cases c : a ≤ k
      · rw [decide_eq_false (show ¬ k < a by omega), Bool.and_false]
      · rw [decide_eq_false c, Bool.and_false, Bool.false_and]
    rw [this]; simp⟩⟩
  case round =>
    obtain ⟨x, hk, hrx, rfl, HI⟩ := hrel
    have hB := HI.out.1.blk HB1.out (fun e => HH1.out.ne_blk HB1.out e.symm)
    have c0 : wr.cell? ⟨b, 0, none⟩ = some (.map (some r)) := hB.cellAt 0 _ rfl
    have c1 : wr.cell? ⟨b, 1, none⟩ = some (.int .i64 (rd : Int)) := hB.cellAt 1 _ rfl
    have hltr := hB.lt
    have HB2 := Lib.hid hB
    clear hB
    by_cases hend : x = a + n
    · subst hend
      go_wp2_with fail
      go_ret
      obtain ⟨H1, hH1, hH1k⟩ := HI.out.2
      exact ⟨rfl, HB2.out, ⟨H1, hH1, hH1k⟩, (HF1.out.mono (fun k _ h => .inl h)).trans (HI.out.1.mono (fun k _ h => .inr h))⟩
    · have hin : x < a + n := by omega
      obtain ⟨H1, hH1, hH1k⟩ := HI.out.2
      have HH2 := Lib.hid hH1
      have HK1 := Lib.hid hH1k
      clear hH1 hH1k
      by_cases hrx2 : rd ≤ x
      · go_wp2_with (at_mapUpdate; refine wpList_putH _ rfl _ _ _ rfl r x H1 HH2.out rfl rfl rfl ?_; intro w2 hh1 hF2)
        go_roundg (gk - 1)
        case measure => omega
        case rel =>
          refine ⟨x + 1, by omega, by omega, by go_num, Lib.hid ⟨HI.out.1.trans hF2, _, hh1, fun k => ?_⟩⟩
          rw [HK1.out k]
          by_cases d2 : k < x
          · rw [decide_eq_true d2, decide_eq_true (show k < x + 1 by omega), decide_eq_false (show ¬ k = x by omega)]; simp
          · by_cases d3 : k = x
            · subst d3; simp [hrx, hrx2]
            · rw [decide_eq_false d2, decide_eq_false d3, decide_eq_false (show ¬ k < x + 1 by omega)]; simp
      · go_wp2_with fail
        go_roundg (gk - 1)
        case measure => omega
        case rel =>
          refine ⟨x + 1, by omega, by omega, by go_num, Lib.hid ⟨HI.out.1, _, HH2.out, fun k => ?_⟩⟩
          rw [HK1.out k]
          by_cases d2 : k < x
          · rw [decide_eq_true d2, decide_eq_true (show k < x + 1 by omega)]
          · by_cases d3 : rd ≤ k
            · rw [decide_eq_false d2, decide_eq_false (show ¬ k < x + 1 by omega)]
            · rw [decide_eq_false d3]; simp
end Go.Proofs.YtdhhccpeikhilaaDoor
namespace Go.Proofs.YtdhhccpeikhilaaDoor
open Go.RowKit

/-- An act of the law's argument. -/
structure COp where
  kind : Nat
  many : Nat
  off : Nat
  data : List UInt8

/-- Bytes where they lie, of whatever block. -/
def RdC (w : World) (v : Value) (l : List UInt8) : Prop := ∃ p c, v = .slice p l.length c ∧ l.length ≤ c ∧ c ≤ 9223372036854775807 ∧ (l ≠ [] → ∃ b o, p = some ⟨b, o, none⟩ ∧ b < w.heap.size ∧ ∀ (i : Nat) (x : UInt8), l[i]? = some x → w.cell? ⟨b, o + i, none⟩ = some (u8 x))

def OpsAt (w : World) (v : Value) (ops : List COp) : Prop :=
  ∃ p c, v = .slice p ops.length c ∧ ops.length ≤ c ∧ c ≤ 9223372036854775807 ∧ ∀ (i : Nat) (x : COp), ops[i]? = some x → x.kind < 256 ∧ x.many < 256 ∧ x.off < 65536 ∧ ∃ b o d, p = some ⟨b, o, none⟩ ∧ b < w.heap.size ∧ RdC w d x.data ∧
    w.cell? ⟨b, o + i * 4, none⟩ = some (.int .u8 (x.kind : Int)) ∧ w.cell? ⟨b, o + i * 4 + 1, none⟩ = some (.int .u8 (x.many : Int)) ∧ w.cell? ⟨b, o + i * 4 + 2, none⟩ = some (.int .u16 (x.off : Int)) ∧ w.cell? ⟨b, o + i * 4 + 3, none⟩ = some d

theorem RdC.grow {w w' : World} {v : Value} {l : List UInt8} (h : RdC w v l) (hg : Grow w w') : RdC w' v l := by
  obtain ⟨p, c, rfl, h1, h2, h3⟩ := h
  refine ⟨p, c, rfl, h1, h2, fun hne => ?_⟩
  obtain ⟨b, o, rfl, hb, h4⟩ := h3 hne
  exact ⟨b, o, rfl, Nat.lt_of_lt_of_le hb hg.size, fun i x hx => (World.cell?_of_block (w := w) (a := ⟨b, o + i, none⟩) (hg.block b hb (fun e => e))).trans (h4 i x hx)⟩
theorem OpsAt.grow {w w' : World} {v : Value} {ops : List COp} (h : OpsAt w v ops) (hg : Grow w w') : OpsAt w' v ops := by
  obtain ⟨p, c, rfl, h1, h2, h3⟩ := h
  refine ⟨p, c, rfl, h1, h2, fun i x hx => ?_⟩
  obtain ⟨k1, k2, k3, b, o, d, rfl, hb, hd, e0, e1, e2, e3⟩ := h3 i x hx
  have hs := hg.block b hb (fun e => e)
  exact ⟨k1, k2, k3, b, o, d, rfl, Nat.lt_of_lt_of_le hb hg.size, hd.grow hg, (World.cell?_of_block (w := w) (a := ⟨b, _, none⟩) hs).trans e0, (World.cell?_of_block (w := w) (a := ⟨b, _, none⟩) hs).trans e1, (World.cell?_of_block (w := w) (a := ⟨b, _, none⟩) hs).trans e2, (World.cell?_of_block (w := w) (a := ⟨b, _, none⟩) hs).trans e3⟩

theorem fits6 (w : World) (k m o : Int) (p : Option Addr) (n c : Nat) (_hn : n ≤ 9223372036854775807) :
    Calls Tryd.prog 20 #[.agg #[.int .u8 k, .int .u8 m, .int .u16 o, .slice p n c]] w fun e w' => (∃ bb, e = .returned (.bool bb)) ∧ Grow w w' := by
  go_enter Tryd.func20, Tryd.ntmps20
  go_wp2
  all_goals go_ret
  all_goals exact ⟨⟨_, rfl⟩, (Fr.refl _ _).alloc _⟩

set_option maxRecDepth 100000 in
theorem fits5 (w : World) (v : Value) (ops : List COp) (h : OpsAt w v ops) : Calls Tryd.prog 6 #[v] w fun e w' => (∃ bb, e = .returned (.bool bb)) ∧ Grow w w' := by
  obtain ⟨p, c, rfl, h1, h2, h3⟩ := id h
  have HO := Lib.hid h
  clear h h3
  go_enter Tryd.func6, Tryd.ntmps6
  by_cases hbig : ops.length ≤ 2147483647
  · go_wp2_with fail
    go_loopg [10] ops.length (fun k s10 wr => ∃ i : Nat, k + i = ops.length ∧ s10 = .int .i64 (i : Int) ∧ Hid (Grow w wr))
    case atStart => exact ⟨0, by simp, rfl, Lib.hid (Fr.refl _ _)⟩
    case round =>
      obtain ⟨i, hk, rfl, HG⟩ := hrel
      by_cases hend : i = ops.length
      · have hne : ¬ (i < ops.length) := by omega
        go_wp2_with fail
        go_ret
        exact ⟨⟨_, rfl⟩, HG.out⟩
      · have hin : i < ops.length := by omega
        have hx : ops[i]? = some (ops[i]'hin) := List.getElem?_eq_getElem hin
        generalize ops[i]'hin = X at hx
        obtain ⟨p', c', e', _, _, hall⟩ := HO.out.grow HG.out
        injection e' with q1 q2 q3
        subst q1
        subst q3
        obtain ⟨k1, k2, k3, b, o, d, rfl, hb, hd, e0, e1, e2, e3⟩ := hall i X hx
        obtain ⟨pd, cd, rfl, d1, d2, _⟩ := id hd
        have hl : X.data.length ≤ 9223372036854775807 := by omega
        clear hall hx hd q2
        go_wp2_with (go_at_call 20; refine (fits6 _ _ _ _ _ _ _ hl).mono ?_; rintro e w2 ⟨⟨bb, rfl⟩, hg2⟩; cases bb)
        · go_ret
          exact ⟨⟨_, rfl⟩, HG.out.trans (((Fr.refl _ _).alloc _).trans hg2)⟩
        · go_roundg (gk - 1)
          case measure => omega
          case rel => exact ⟨i + 1, by omega, by go_num, Lib.hid (HG.out.trans (((Fr.refl _ _).alloc _).trans hg2))⟩
  · have hbig2 : 2147483647 < ops.length := by omega
    go_wp2_with fail
    go_ret
    exact ⟨⟨_, rfl⟩, Fr.refl _ _⟩
end Go.Proofs.YtdhhccpeikhilaaDoor
namespace Go.Proofs.YtdhhccpeikhilaaDoor
open Go.ChangeShapes Go.WideShapes Go.ChangeAt Go.RowKit Go.Deep

theorem cells28 : Tryd.prog.cellsOf 28 = 4 := by kernel_rfl
theorem cells5 : Tryd.prog.cellsOf 5 = 1 := by kernel_rfl
theorem cells25 : Tryd.prog.cellsOf 25 = 1 := by kernel_rfl
theorem cells26 : Tryd.prog.cellsOf 26 = 1 := by kernel_rfl

theorem wf_u8 {n : Int} (h : (Lit.int .u8 n).wf = true) : 0 ≤ n ∧ n < 256 := by
  simp only [Lit.wf, Bool.and_eq_true, decide_eq_true_eq] at h
  have h1 : IntKind.u8.min = 0 := rfl
  have h2 : IntKind.u8.max = 255 := rfl
  omega
theorem wf_u16 {n : Int} (h : (Lit.int .u16 n).wf = true) : 0 ≤ n ∧ n < 65536 := by
  simp only [Lit.wf, Bool.and_eq_true, decide_eq_true_eq] at h
  have h1 : IntKind.u16.min = 0 := rfl
  have h2 : IntKind.u16.max = 65535 := rfl
  omega

section
variable {H : Type} {enc : TypeId × Value → H} {W : World}

theorem open_bytes {n : Nat} {v : Value} {x : DataW H × List MemPlace} (h : DataW.trod enc Tryd.prog W 0 (fun _ => true) true n 26 [v] = some x) : ∃ l, RdC W v l := by
  rcases open_slice Tryd.underlying26 h with ⟨hc, _⟩ | ⟨a, len, cap, m, k, D, Pl, hc, _, hl, hm, hmm, _, hall⟩
  · simp only [List.cons.injEq, and_true] at hc
    subst hc
    exact ⟨[], none, 0, rfl, Nat.le_refl _, by omega, fun h => (h rfl).elim⟩
  · simp only [List.cons.injEq, and_true] at hc
    subst hc
    have hml : len ≤ m := by rw [hmm]; simp only [if_true]; exact hl
    have one : ∀ i, i < len → ∃ c : UInt8, W.cell? (a.add i) = some (u8 c) := fun i hi => by
      obtain ⟨cs', h1, h2⟩ := hall i (by omega)
      rw [cells5, Nat.mul_one] at h1
      obtain ⟨z, rfl, _, hz⟩ := DataW.trod_int Tryd.underlying5 h2
      have hb := wf_u8 hz
      refine ⟨UInt8.ofNat z.toNat, ?_⟩
      rw [cell_of_cells?_one h1]
      unfold u8
      rw [UInt8.toNat_ofNat']
      congr 2
      omega
    obtain ⟨f, hf⟩ := choose_lt one
    refine ⟨(List.range len).map f, some a, cap, by simp, by simpa using hl, by unfold maxLen at hm; omega, fun hne => ?_⟩
    have hpos : 0 < len := by
      rcases Nat.eq_zero_or_pos len with e | e
      · subst e; exact (hne rfl).elim
      · exact e
    obtain ⟨ab, ao, asp⟩ := a
    have hsp : asp = none := by simpa [Addr.add] using World.cell?_spot (hf 0 hpos)
    subst hsp
    refine ⟨ab, ao, rfl, by simpa [Addr.add_lit] using World.block_lt_of_cell? _ _ (hf 0 hpos), fun i x hx => ?_⟩
    have hi := (List.getElem?_eq_some_iff.1 hx).1
    rw [List.length_map, List.length_range] at hi
    rw [List.getElem?_map, List.getElem?_range hi] at hx
    have := hf i hi
    rw [Option.some.inj hx] at this
    simpa [Addr.add_lit] using this

theorem open_ops {n : Nat} {v : Value} {x : DataW H × List MemPlace} (h : DataW.trod enc Tryd.prog W 0 (fun _ => true) true n 22 [v] = some x) : ∃ ops, OpsAt W v ops := by
  rcases open_slice Tryd.underlying22 h with ⟨hc, _⟩ | ⟨a, len, cap, m, k, D, Pl, hc, _, hl, hm, hmm, _, hall⟩
  · simp only [List.cons.injEq, and_true] at hc
    subst hc
    exact ⟨[], none, 0, rfl, Nat.le_refl _, by omega, fun i x h => by simp at h⟩
  · simp only [List.cons.injEq, and_true] at hc
    subst hc
    have hml : len ≤ m := by rw [hmm]; simp only [if_true]; exact hl
    have one : ∀ i, i < len → ∃ X : COp, X.kind < 256 ∧ X.many < 256 ∧ X.off < 65536 ∧ ∃ d, RdC W d X.data ∧ W.cell? (a.add (i * 4)) = some (.int .u8 (X.kind : Int)) ∧ W.cell? (a.add (i * 4 + 1)) = some (.int .u8 (X.many : Int)) ∧ W.cell? (a.add (i * 4 + 2)) = some (.int .u16 (X.off : Int)) ∧ W.cell? (a.add (i * 4 + 3)) = some d := fun i hi => by
      obtain ⟨cs', h1, h2⟩ := hall i (by omega)
      rw [cells28] at h1
      obtain ⟨_, hlen, hcell⟩ := World.cells?_some h1
      obtain ⟨c0, c1, c2, c3, rfl⟩ : ∃ c0 c1 c2 c3, cs' = [c0, c1, c2, c3] := by
        match cs', hlen with
        | [c0, c1, c2, c3], _ => exact ⟨c0, c1, c2, c3, rfl⟩
      obtain ⟨y0, y1, y2, y3, n', _, _, g0, g1, g2, g3⟩ := Go.Joins.trod_struct4 Tryd.underlying28 h2
      rw [cells5] at g0 g1
      rw [cells25] at g2
      rw [cells26] at g3
      obtain ⟨z0, e0, _, w0⟩ := DataW.trod_int Tryd.underlying5 g0
      obtain ⟨z1, e1, _, w1⟩ := DataW.trod_int Tryd.underlying5 g1
      obtain ⟨z2, e2, _, w2⟩ := DataW.trod_int Tryd.underlying25 g2
      obtain ⟨l, hl3⟩ := open_bytes g3
      simp only [List.drop_zero, List.take_succ_cons, List.take_zero, List.drop_succ_cons, List.cons.injEq, and_true] at e0 e1 e2
      have b0 := wf_u8 w0
      have b1 := wf_u8 w1
      have b2 := wf_u16 w2
      have q := fun j hj => hcell j hj
      refine ⟨⟨z0.toNat, z1.toNat, z2.toNat, l⟩, by show z0.toNat < 256; omega, by show z1.toNat < 256; omega, by show z2.toNat < 65536; omega, c3, hl3, ?_, ?_, ?_, ?_⟩
      · have := hcell 0 (by omega); rw [add_add] at this; rw [show ((z0.toNat : Nat) : Int) = z0 by omega, ← e0]; simpa using this
      · have := hcell 1 (by omega); rw [add_add] at this; rw [show ((z1.toNat : Nat) : Int) = z1 by omega, ← e1]; simpa using this
      · have := hcell 2 (by omega); rw [add_add] at this; rw [show ((z2.toNat : Nat) : Int) = z2 by omega, ← e2]; simpa using this
      · have := hcell 3 (by omega); rw [add_add] at this; simpa using this
    have : Inhabited COp := ⟨⟨0, 0, 0, []⟩⟩
    obtain ⟨f, hf⟩ := choose_lt one
    refine ⟨(List.range len).map f, some a, cap, by simp, by simpa using hl, by unfold maxLen at hm; omega, fun i X hX => ?_⟩
    have hi := (List.getElem?_eq_some_iff.1 hX).1
    rw [List.length_map, List.length_range] at hi
    rw [List.getElem?_map, List.getElem?_range hi] at hX
    obtain ⟨k1, k2, k3, d, hd, e0, e1, e2, e3⟩ := hf i hi
    rw [Option.some.inj hX] at k1 k2 k3 hd e0 e1 e2
    obtain ⟨ab, ao, asp⟩ := a
    have hsp : asp = none := by
      obtain ⟨_, _, _, _, _, e, _⟩ := hf 0 (by omega)
      simpa [Addr.add] using World.cell?_spot e
    subst hsp
    exact ⟨k1, k2, k3, ab, ao, d, rfl, by simpa [Addr.add_lit] using World.block_lt_of_cell? _ _ e0, hd, by simpa [Addr.add_lit] using e0, by simpa [Addr.add_lit, Nat.add_assoc] using e1, by simpa [Addr.add_lit, Nat.add_assoc] using e2, by simpa [Addr.add_lit, Nat.add_assoc] using e3⟩
end
end Go.Proofs.YtdhhccpeikhilaaDoor
