/- The law's argument, opened. -/
import Derived.Test.YtdhhccpeikhilaaDoorD5
import Derived.Lib.SmallJoins
import Derived.ProofKit
import Derived.OpenShut
import Derived.Deep.Slices
import Derived.ReadAgain
namespace Go.Proofs.YtdhhccpeikhilaaDoor
open Go.ChangeShapes Go.WideShapes Go.ChangeAt Go.RowKit Go.Deep

theorem cells28 : Tryd.prog.cellsOf 28 = 4 := by kernel_rfl
theorem cells5 : Tryd.prog.cellsOf 5 = 1 := by kernel_rfl
theorem cells25 : Tryd.prog.cellsOf 25 = 1 := by kernel_rfl
theorem cells26 : Tryd.prog.cellsOf 26 = 1 := by kernel_rfl

theorem wf_u8 {n : Int} (h : (Lit.int .u8 n).wf = true) : 0 ≤ n ∧ n < 256 := by
  simp only [Lit.wf, Bool.and_eq_true, decide_eq_true_eq] at h
  have h1 : IntKind.u8.min = 0 := rfl
  have h2 : IntKind.u8.max = 255 := rfl
  omega
theorem wf_u16 {n : Int} (h : (Lit.int .u16 n).wf = true) : 0 ≤ n ∧ n < 65536 := by
  simp only [Lit.wf, Bool.and_eq_true, decide_eq_true_eq] at h
  have h1 : IntKind.u16.min = 0 := rfl
  have h2 : IntKind.u16.max = 65535 := rfl
  omega

section
variable {H : Type} {enc : TypeId × Value → H} {W : World}

theorem open_bytes {n : Nat} {v : Value} {x : DataW H × List MemPlace} (h : DataW.trod enc Tryd.prog W 0 (fun _ => true) true n 26 [v] = some x) : ∃ l, RdC W v l := by
  rcases open_slice Tryd.underlying26 h with ⟨hc, _⟩ | ⟨a, len, cap, m, k, D, Pl, hc, _, hl, hm, hmm, _, hall⟩
  · simp only [List.cons.injEq, and_true] at hc
    subst hc
    exact ⟨[], none, 0, rfl, Nat.le_refl _, by omega, fun h => (h rfl).elim⟩
  · simp only [List.cons.injEq, and_true] at hc
    subst hc
    have hml : len ≤ m := by rw [hmm]; simp only [if_true]; exact hl
    have one : ∀ i, i < len → ∃ c : UInt8, W.cell? (a.add i) = some (u8 c) := fun i hi => by
      obtain ⟨cs', h1, h2⟩ := hall i (by omega)
      rw [cells5, Nat.mul_one] at h1
      obtain ⟨z, rfl, _, hz⟩ := DataW.trod_int Tryd.underlying5 h2
      have hb := wf_u8 hz
      refine ⟨UInt8.ofNat z.toNat, ?_⟩
      rw [cell_of_cells?_one h1]
      unfold u8
      rw [UInt8.toNat_ofNat']
      congr 2
      omega
    obtain ⟨f, hf⟩ := choose_lt one
    refine ⟨(List.range len).map f, some a, cap, by simp, by simpa using hl, by unfold maxLen at hm; omega, fun hne => ?_⟩
    have hpos : 0 < len := by
      rcases Nat.eq_zero_or_pos len with e | e
      · subst e; exact (hne rfl).elim
      · exact e
    obtain ⟨ab, ao, asp⟩ := a
    have hsp : asp = none := by simpa [Addr.add] using World.cell?_spot (hf 0 hpos)
    subst hsp
    refine ⟨ab, ao, rfl, by simpa [Addr.add_lit] using World.block_lt_of_cell? _ _ (hf 0 hpos), fun i x hx => ?_⟩
    have hi := (List.getElem?_eq_some_iff.1 hx).1
    rw [List.length_map, List.length_range] at hi
    rw [List.getElem?_map, List.getElem?_range hi] at hx
    have := hf i hi
    rw [Option.some.inj hx] at this
    simpa [Addr.add_lit] using this

theorem open_ops {n : Nat} {v : Value} {x : DataW H × List MemPlace} (h : DataW.trod enc Tryd.prog W 0 (fun _ => true) true n 22 [v] = some x) : ∃ ops, OpsAt W v ops := by
  rcases open_slice Tryd.underlying22 h with ⟨hc, _⟩ | ⟨a, len, cap, m, k, D, Pl, hc, _, hl, hm, hmm, _, hall⟩
  · simp only [List.cons.injEq, and_true] at hc
    subst hc
    exact ⟨[], none, 0, rfl, Nat.le_refl _, by omega, fun i x h => by simp at h⟩
  · simp only [List.cons.injEq, and_true] at hc
    subst hc
    have hml : len ≤ m := by rw [hmm]; simp only [if_true]; exact hl
    have one : ∀ i, i < len → ∃ X : COp, X.kind < 256 ∧ X.many < 256 ∧ X.off < 65536 ∧ ∃ d, RdC W d X.data ∧ W.cell? (a.add (i * 4)) = some (.int .u8 (X.kind : Int)) ∧ W.cell? (a.add (i * 4 + 1)) = some (.int .u8 (X.many : Int)) ∧ W.cell? (a.add (i * 4 + 2)) = some (.int .u16 (X.off : Int)) ∧ W.cell? (a.add (i * 4 + 3)) = some d := fun i hi => by
      obtain ⟨cs', h1, h2⟩ := hall i (by omega)
      rw [cells28] at h1
      obtain ⟨_, hlen, hcell⟩ := World.cells?_some h1
      obtain ⟨c0, c1, c2, c3, rfl⟩ : ∃ c0 c1 c2 c3, cs' = [c0, c1, c2, c3] := by
        match cs', hlen with
        | [c0, c1, c2, c3], _ => exact ⟨c0, c1, c2, c3, rfl⟩
      obtain ⟨y0, y1, y2, y3, n', _, _, g0, g1, g2, g3⟩ := Go.Joins.trod_struct4 Tryd.underlying28 h2
      rw [cells5] at g0 g1
      rw [cells25] at g2
      rw [cells26] at g3
      obtain ⟨z0, e0, _, w0⟩ := DataW.trod_int Tryd.underlying5 g0
      obtain ⟨z1, e1, _, w1⟩ := DataW.trod_int Tryd.underlying5 g1
      obtain ⟨z2, e2, _, w2⟩ := DataW.trod_int Tryd.underlying25 g2
      obtain ⟨l, hl3⟩ := open_bytes g3
      simp only [List.drop_zero, List.take_succ_cons, List.take_zero, List.drop_succ_cons, List.cons.injEq, and_true] at e0 e1 e2
      have b0 := wf_u8 w0
      have b1 := wf_u8 w1
      have b2 := wf_u16 w2
      have q := fun j hj => hcell j hj
      refine ⟨⟨z0.toNat, z1.toNat, z2.toNat, l⟩, by show z0.toNat < 256; omega, by show z1.toNat < 256; omega, by show z2.toNat < 65536; omega, c3, hl3, ?_, ?_, ?_, ?_⟩
      · have := hcell 0 (by omega); rw [add_add] at this; rw [show ((z0.toNat : Nat) : Int) = z0 by omega, ← e0]; simpa using this
      · have := hcell 1 (by omega); rw [add_add] at this; rw [show ((z1.toNat : Nat) : Int) = z1 by omega, ← e1]; simpa using this
      · have := hcell 2 (by omega); rw [add_add] at this; rw [show ((z2.toNat : Nat) : Int) = z2 by omega, ← e2]; simpa using this
      · have := hcell 3 (by omega); rw [add_add] at this; simpa using this
    have : Inhabited COp := ⟨⟨0, 0, 0, []⟩⟩
    obtain ⟨f, hf⟩ := choose_lt one
    refine ⟨(List.range len).map f, some a, cap, by simp, by simpa using hl, by unfold maxLen at hm; omega, fun i X hX => ?_⟩
    have hi := (List.getElem?_eq_some_iff.1 hX).1
    rw [List.length_map, List.length_range] at hi
    rw [List.getElem?_map, List.getElem?_range hi] at hX
    obtain ⟨k1, k2, k3, d, hd, e0, e1, e2, e3⟩ := hf i hi
    rw [Option.some.inj hX] at k1 k2 k3 hd e0 e1 e2
    obtain ⟨ab, ao, asp⟩ := a
    have hsp : asp = none := by
      obtain ⟨_, _, _, _, _, e, _⟩ := hf 0 (by omega)
      simpa [Addr.add] using World.cell?_spot e
    subst hsp
    exact ⟨k1, k2, k3, ab, ao, d, rfl, by simpa [Addr.add_lit] using World.block_lt_of_cell? _ _ e0, hd, by simpa [Addr.add_lit] using e0, by simpa [Addr.add_lit, Nat.add_assoc] using e1, by simpa [Addr.add_lit, Nat.add_assoc] using e2, by simpa [Addr.add_lit, Nat.add_assoc] using e3⟩
end
end Go.Proofs.YtdhhccpeikhilaaDoor
