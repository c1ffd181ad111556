/- The law's argument, opened. -/
import Derived.Test.YtgdkbflhgcchfaaB13
import Derived.Lib.SmallJoins
import Derived.ProofKit
import Derived.OpenShut
import Derived.Deep.Slices
import Derived.ReadAgain
namespace Go.Proofs.Ytgdkbflhgcchfaa
open Go.ChangeShapes Go.WideShapes Go.ChangeAt Go.RowKit Go.Deep

theorem cells57 : Try.prog.cellsOf 57 = 1 := by kernel_rfl
theorem cells60 : Try.prog.cellsOf 60 = 7 := by kernel_rfl
theorem cells5 : Try.prog.cellsOf 5 = 1 := by kernel_rfl
theorem cells58 : Try.prog.cellsOf 58 = 1 := by kernel_rfl
theorem cells31 : Try.prog.cellsOf 31 = 1 := by kernel_rfl

theorem wf_u8 {n : Int} (h : (Lit.int .u8 n).wf = true) : 0 ≤ n ∧ n < 256 := by
  simp only [Lit.wf, Bool.and_eq_true, decide_eq_true_eq] at h
  have h1 : IntKind.u8.min = 0 := rfl
  have h2 : IntKind.u8.max = 255 := rfl
  omega
theorem wf_u32 {n : Int} (h : (Lit.int .u32 n).wf = true) : 0 ≤ n ∧ n < 4294967296 := by
  simp only [Lit.wf, Bool.and_eq_true, decide_eq_true_eq] at h
  have h1 : IntKind.u32.min = 0 := rfl
  have h2 : IntKind.u32.max = 4294967295 := rfl
  omega
theorem wf_u16 {n : Int} (h : (Lit.int .u16 n).wf = true) : 0 ≤ n ∧ n < 65536 := by
  simp only [Lit.wf, Bool.and_eq_true, decide_eq_true_eq] at h
  have h1 : IntKind.u16.min = 0 := rfl
  have h2 : IntKind.u16.max = 65535 := rfl
  omega

section
variable {H : Type} {enc : TypeId × Value → H} {W : World}

theorem open_bytes {n : Nat} {v : Value} {x : DataW H × List MemPlace} (h : DataW.trod enc Try.prog W 0 (fun _ => true) true n 31 [v] = some x) : ∃ l, RdC W v l := by
  rcases open_slice Try.underlying31 h with ⟨hc, _⟩ | ⟨a, len, cap, m, k, D, Pl, hc, _, hl, hm, hmm, _, hall⟩
  · simp only [List.cons.injEq, and_true] at hc
    subst hc
    exact ⟨[], none, 0, rfl, Nat.le_refl _, by omega, fun h => (h rfl).elim⟩
  · simp only [List.cons.injEq, and_true] at hc
    subst hc
    have hml : len ≤ m := by rw [hmm]; simp only [if_true]; exact hl
    have one : ∀ i, i < len → ∃ c : UInt8, W.cell? (a.add i) = some (u8 c) := fun i hi => by
      obtain ⟨cs', h1, h2⟩ := hall i (by omega)
      rw [cells5, Nat.mul_one] at h1
      obtain ⟨z, rfl, _, hz⟩ := DataW.trod_int Try.underlying5 h2
      have hb := wf_u8 hz
      refine ⟨UInt8.ofNat z.toNat, ?_⟩
      rw [cell_of_cells?_one h1]
      unfold u8
      rw [UInt8.toNat_ofNat']
      congr 2
      omega
    obtain ⟨f, hf⟩ := choose_lt one
    refine ⟨(List.range len).map f, some a, cap, by simp, by simpa using hl, by unfold maxLen at hm; omega, fun hne => ?_⟩
    have hpos : 0 < len := by
      rcases Nat.eq_zero_or_pos len with e | e
      · subst e; exact (hne rfl).elim
      · exact e
    obtain ⟨ab, ao, asp⟩ := a
    have hsp : asp = none := by simpa [Addr.add] using World.cell?_spot (hf 0 hpos)
    subst hsp
    refine ⟨ab, ao, rfl, by simpa [Addr.add_lit] using World.block_lt_of_cell? _ _ (hf 0 hpos), fun i x hx => ?_⟩
    have hi := (List.getElem?_eq_some_iff.1 hx).1
    rw [List.length_map, List.length_range] at hi
    rw [List.getElem?_map, List.getElem?_range hi] at hx
    have := hf i hi
    rw [Option.some.inj hx] at this
    simpa [Addr.add_lit] using this

theorem open_ops {n : Nat} {v : Value} {x : DataW H × List MemPlace} (h : DataW.trod enc Try.prog W 0 (fun _ => true) true n 22 [v] = some x) : ∃ ops, OpsAt W v ops := by
  rcases open_slice Try.underlying22 h with ⟨hc, _⟩ | ⟨a, len, cap, m, k, D, Pl, hc, _, hl, hm, hmm, _, hall⟩
  · simp only [List.cons.injEq, and_true] at hc
    subst hc
    exact ⟨[], none, 0, rfl, Nat.le_refl _, by omega, fun i x h => by simp at h⟩
  · simp only [List.cons.injEq, and_true] at hc
    subst hc
    have hml : len ≤ m := by rw [hmm]; simp only [if_true]; exact hl
    have one : ∀ i, i < len → ∃ X : ROp, X.kind < 256 ∧ X.lev < 256 ∧ X.ty < 256 ∧ X.a < 4294967296 ∧ X.b < 4294967296 ∧ X.most < 65536 ∧ ∃ d, RdC W d X.data ∧ W.cell? (a.add (i * 7)) = some (.int .u8 (X.kind : Int)) ∧ W.cell? (a.add (i * 7 + 1)) = some (.int .u8 (X.lev : Int)) ∧ W.cell? (a.add (i * 7 + 2)) = some (.int .u8 (X.ty : Int)) ∧ W.cell? (a.add (i * 7 + 3)) = some (.int .u32 (X.a : Int)) ∧ W.cell? (a.add (i * 7 + 4)) = some (.int .u32 (X.b : Int)) ∧ W.cell? (a.add (i * 7 + 5)) = some (.int .u16 (X.most : Int)) ∧ W.cell? (a.add (i * 7 + 6)) = some d := fun i hi => by
      obtain ⟨cs', h1, h2⟩ := hall i (by omega)
      rw [cells60] at h1
      obtain ⟨_, hlen, hcell⟩ := World.cells?_some h1
      obtain ⟨c0, c1, c2, c3, c4, c5, c6, rfl⟩ : ∃ c0 c1 c2 c3 c4 c5 c6, cs' = [c0, c1, c2, c3, c4, c5, c6] := by
        match cs', hlen with
        | [c0, c1, c2, c3, c4, c5, c6], _ => exact ⟨c0, c1, c2, c3, c4, c5, c6, rfl⟩
      obtain ⟨xs, n', _, _, _, hxl, hf⟩ := DataW.trod_struct Try.underlying60 h2
      match xs, hxl with
      | [y0, y1, y2, y3, y4, y5, y6], _ =>
        have g0 : DataW.trod enc Try.prog W 0 (fun _ => true) true n' 5 [c0] = some y0 := by
          have h : DataW.trod enc Try.prog W 0 (fun _ => true) true n' 5 ((List.drop 0 [c0, c1, c2, c3, c4, c5, c6]).take (Try.prog.cellsOf 5)) = some y0 := hf 0 _ rfl
          rw [cells5] at h
          exact h
        have g1 : DataW.trod enc Try.prog W 0 (fun _ => true) true n' 5 [c1] = some y1 := by
          have h : DataW.trod enc Try.prog W 0 (fun _ => true) true n' 5 ((List.drop 1 [c0, c1, c2, c3, c4, c5, c6]).take (Try.prog.cellsOf 5)) = some y1 := hf 1 _ rfl
          rw [cells5] at h
          exact h
        have g2 : DataW.trod enc Try.prog W 0 (fun _ => true) true n' 5 [c2] = some y2 := by
          have h : DataW.trod enc Try.prog W 0 (fun _ => true) true n' 5 ((List.drop 2 [c0, c1, c2, c3, c4, c5, c6]).take (Try.prog.cellsOf 5)) = some y2 := hf 2 _ rfl
          rw [cells5] at h
          exact h
        have g3 : DataW.trod enc Try.prog W 0 (fun _ => true) true n' 57 [c3] = some y3 := by
          have h : DataW.trod enc Try.prog W 0 (fun _ => true) true n' 57 ((List.drop 3 [c0, c1, c2, c3, c4, c5, c6]).take (Try.prog.cellsOf 57)) = some y3 := hf 3 _ rfl
          rw [cells57] at h
          exact h
        have g4 : DataW.trod enc Try.prog W 0 (fun _ => true) true n' 57 [c4] = some y4 := by
          have h : DataW.trod enc Try.prog W 0 (fun _ => true) true n' 57 ((List.drop 4 [c0, c1, c2, c3, c4, c5, c6]).take (Try.prog.cellsOf 57)) = some y4 := hf 4 _ rfl
          rw [cells57] at h
          exact h
        have g5 : DataW.trod enc Try.prog W 0 (fun _ => true) true n' 58 [c5] = some y5 := by
          have h : DataW.trod enc Try.prog W 0 (fun _ => true) true n' 58 ((List.drop 5 [c0, c1, c2, c3, c4, c5, c6]).take (Try.prog.cellsOf 58)) = some y5 := hf 5 _ rfl
          rw [cells58] at h
          exact h
        have g6 : DataW.trod enc Try.prog W 0 (fun _ => true) true n' 31 [c6] = some y6 := by
          have h : DataW.trod enc Try.prog W 0 (fun _ => true) true n' 31 ((List.drop 6 [c0, c1, c2, c3, c4, c5, c6]).take (Try.prog.cellsOf 31)) = some y6 := hf 6 _ rfl
          rw [cells31] at h
          exact h
        obtain ⟨z0, e0, _, w0⟩ := DataW.trod_int Try.underlying5 g0
        obtain ⟨z1, e1, _, w1⟩ := DataW.trod_int Try.underlying5 g1
        obtain ⟨z2, e2, _, w2⟩ := DataW.trod_int Try.underlying5 g2
        obtain ⟨z3, e3, _, w3⟩ := DataW.trod_int Try.underlying57 g3
        obtain ⟨z4, e4, _, w4⟩ := DataW.trod_int Try.underlying57 g4
        obtain ⟨z5, e5, _, w5⟩ := DataW.trod_int Try.underlying58 g5
        obtain ⟨l, hl3⟩ := open_bytes g6
        have e0 : c0 = .int .u8 z0 := List.head_eq_of_cons_eq e0
        have e1 : c1 = .int .u8 z1 := List.head_eq_of_cons_eq e1
        have e2 : c2 = .int .u8 z2 := List.head_eq_of_cons_eq e2
        have e3 : c3 = .int .u32 z3 := List.head_eq_of_cons_eq e3
        have e4 : c4 = .int .u32 z4 := List.head_eq_of_cons_eq e4
        have e5 : c5 = .int .u16 z5 := List.head_eq_of_cons_eq e5
        have b0 := wf_u8 w0
        have b1 := wf_u8 w1
        have b2 := wf_u8 w2
        have b3 := wf_u32 w3
        have b4 := wf_u32 w4
        have b5 := wf_u16 w5
        refine ⟨⟨z0.toNat, z1.toNat, z2.toNat, z3.toNat, z4.toNat, z5.toNat, l⟩, by show z0.toNat < 256; omega, by show z1.toNat < 256; omega, by show z2.toNat < 256; omega, by show z3.toNat < 4294967296; omega, by show z4.toNat < 4294967296; omega, by show z5.toNat < 65536; omega, c6, hl3, ?_, ?_, ?_, ?_, ?_, ?_, ?_⟩
        · have := hcell 0 (by omega); rw [add_add] at this; rw [show ((z0.toNat : Nat) : Int) = z0 by omega, ← e0]; simpa using this
        · have := hcell 1 (by omega); rw [add_add] at this; rw [show ((z1.toNat : Nat) : Int) = z1 by omega, ← e1]; simpa using this
        · have := hcell 2 (by omega); rw [add_add] at this; rw [show ((z2.toNat : Nat) : Int) = z2 by omega, ← e2]; simpa using this
        · have := hcell 3 (by omega); rw [add_add] at this; rw [show ((z3.toNat : Nat) : Int) = z3 by omega, ← e3]; simpa using this
        · have := hcell 4 (by omega); rw [add_add] at this; rw [show ((z4.toNat : Nat) : Int) = z4 by omega, ← e4]; simpa using this
        · have := hcell 5 (by omega); rw [add_add] at this; rw [show ((z5.toNat : Nat) : Int) = z5 by omega, ← e5]; simpa using this
        · have := hcell 6 (by omega); rw [add_add] at this; simpa using this
    have : Inhabited ROp := ⟨⟨0, 0, 0, 0, 0, 0, []⟩⟩
    obtain ⟨f, hf⟩ := choose_lt one
    refine ⟨(List.range len).map f, some a, cap, by simp, by simpa using hl, by unfold maxLen at hm; omega, fun i X hX => ?_⟩
    have hi := (List.getElem?_eq_some_iff.1 hX).1
    rw [List.length_map, List.length_range] at hi
    rw [List.getElem?_map, List.getElem?_range hi] at hX
    obtain ⟨k1, k2, k3, k4, k5, k6, d, hd, e0, e1, e2, e3, e4, e5, e6⟩ := hf i hi
    rw [Option.some.inj hX] at k1 k2 k3 k4 k5 k6 hd e0 e1 e2 e3 e4 e5
    obtain ⟨ab, ao, asp⟩ := a
    have hsp : asp = none := by
      obtain ⟨_, _, _, _, _, _, _, _, e, _⟩ := hf 0 (by omega)
      simpa [Addr.add] using World.cell?_spot e
    subst hsp
    exact ⟨k1, k2, k3, k4, k5, k6, ab, ao, d, rfl, by simpa [Addr.add_lit] using World.block_lt_of_cell? _ _ e0, hd, by simpa [Addr.add_lit] using e0, by simpa [Addr.add_lit, Nat.add_assoc] using e1, by simpa [Addr.add_lit, Nat.add_assoc] using e2, by simpa [Addr.add_lit, Nat.add_assoc] using e3, by simpa [Addr.add_lit, Nat.add_assoc] using e4, by simpa [Addr.add_lit, Nat.add_assoc] using e5, by simpa [Addr.add_lit, Nat.add_assoc] using e6⟩
end
end Go.Proofs.Ytgdkbflhgcchfaa
