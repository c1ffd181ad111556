/- The reader of frames: rows of numbers, counted, numbers. -/
import Derived.Test.YtgdkbflhgcchfaaD1
namespace Go.Proofs.Ytgdkbflhgcchfaa
open Go.RowKit

/-- 'append(v, x)' of one element that lies in a block of its own. -/
theorem run_appendOne {w : World} {v : Value} {t e : TypeId} {size n bytes : Nat} {xs news : List Value} {i : TypeInfo} {z : Value} (hu : Try.prog.underlying t = some (.slice e)) (hi : Try.prog.info? e = some i) (hz : i.zero = some z)
    (hsize : i.size = size) (hby : i.bytes = bytes) (hzs : z.cells.size = size) (hpos : 0 < size) (hbs : bytes ≤ 3000) (h : Own w v e size n xs) (k : Nat) (hB : Blk w k news.toArray e) (hl : news.length = size) (h1 : ∀ u ∈ news, u.oneCell' = true) (hn : n ≤ 1000000) (ty : TypeId) :
    ∃ v' w', (Builtin.append_ #[t, t] ty #[v, .slice (some ⟨k, 0, none⟩) 1 1]).run Try.prog w = .ok v' w' ∧ Own w' v' e size (n + 1) (xs ++ news) ∧ Fr (fun k => v.ownBlock = some k) w w' ∧ (∀ k, v'.ownBlock = some k → v.ownBlock = some k ∨ (w.heap.size ≤ k ∧ k < w'.heap.size)) := by
  have hs : Src Try.prog size t (.slice (some ⟨k, 0, none⟩) 1 1) 1 news w := by
    refine Src.ofSlice w hu _ 1 1 news (by omega) (fun j u hj => ?_) h1
    have := hB.cellAt j u (by simpa using hj)
    simpa [Addr.add_lit] using this
  have hb : (n + 1) * bytes ≤ 140737488355328 := by
    have := Nat.mul_le_mul_left (n + 1) hbs
    omega
  obtain ⟨v', w', hrun, g1, g2, g3⟩ := run_appendOwn h t t ty i z bytes hu hi hz hsize hby hzs _ 1 news hs (by omega) hb hpos
  have hl := run_append_lt (P := Try.prog) h t t ty i z bytes hu hi hz hsize hby _ 1 news hs (by omega) hb v' w' hrun
  exact ⟨v', w', hrun, g1, g2, fun k hk => by
    rcases g3 k hk with e1 | e1
    · exact .inl e1
    · exact (hl k hk).imp id (fun e2 => ⟨e1, e2⟩)⟩
/-- A row of numbers. -/
abbrev u64v (n : Nat) : Value := .int .u64 (n : Int)
abbrev OwnN (w : World) (v : Value) (ns : List Nat) : Prop := Own w v 30 1 ns.length (ns.map u64v)
theorem info30 : (Try.prog.info? 30).map (fun i => (i.zero, i.size, i.bytes)) = some (some (.int .u64 0), 1, 8) := by kernel_rfl
theorem run_appendN {w : World} {v : Value} {ns : List Nat} (h : OwnN w v ns) (k n : Nat) (hB : Blk w k #[u64v n] 30) (hn : ns.length ≤ 1000000) (ty : TypeId) :
    ∃ v' w', (Builtin.append_ #[69, 69] ty #[v, .slice (some ⟨k, 0, none⟩) 1 1]).run Try.prog w = .ok v' w' ∧ OwnN w' v' (ns ++ [n]) ∧ Fr (fun k => v.ownBlock = some k) w w' ∧ (∀ k, v'.ownBlock = some k → v.ownBlock = some k ∨ (w.heap.size ≤ k ∧ k < w'.heap.size)) := by
  obtain ⟨i, hi, hzz⟩ := Option.map_eq_some_iff.1 info30
  simp only [Prod.mk.injEq] at hzz
  obtain ⟨hz, hsz, hb⟩ := hzz
  obtain ⟨v', w', g1, g2, g3⟩ := run_appendOne (news := [u64v n]) Try.underlying69 hi hz hsz hb rfl (by omega) (by omega) h k hB rfl (by simp [Value.oneCell']) hn ty
  refine ⟨v', w', g1, ?_, g3⟩
  simpa [OwnN] using g2

set_option maxRecDepth 100000 in
theorem counted_ok (w : World) (p : Nat) (d l : List UInt8) (h : PkAt w p (V d.length ++ (d ++ l))) (hd : d.length ≤ 10000) (hl : l.length ≤ 10000) :
    Calls Try.prog 41 #[pt p] w fun e w' => (∃ v', e = .returned v' ∧ OwnB w' v' d ∧ ∀ k, v'.ownBlock = some k → w.heap.size ≤ k ∧ k < w'.heap.size) ∧ PkOut w w' p l := by
  have HN := Lib.hid (number_ok w p d.length (d ++ l) h (by omega) (by simp; omega))
  clear h
  go_enter Try.func41, Try.ntmps41
  go_wp2_with fail
  refine HN.out.mono ?_
  rintro e w2 ⟨rfl, hO⟩
  obtain ⟨dv, hr, hB⟩ := hO.at'
  obtain ⟨pd, c, rfl, hlc, hc, _⟩ := id hr
  have b0 : w2.cell? ⟨p, 0, none⟩ = some (.slice pd (d ++ l).length c) := hB.cellAt 0 _ rfl
  have hlt := hB.lt
  have HT := Lib.hid (take_ok w2 p (d ++ l) d.length hO.at' (by simp) (by simp; omega))
  have HF := Lib.hid hO.fr
  have hge : ¬ ((d ++ l).length < d.length) := by simp
  have hll : (d ++ l).length ≤ 100000 := by simp; omega
  generalize (d ++ l).length = N at *
  clear hO hr hB
  go_wp2_with fail
  refine HT.out.mono ?_
  rintro e w3 ⟨⟨v', rfl, ho, hf⟩, hO⟩
  rw [List.take_left] at ho
  rw [List.drop_left] at hO
  have HE : Hid ((OwnB w3 v' d ∧ ∀ k, v'.ownBlock = some k → w.heap.size ≤ k ∧ k < w3.heap.size) ∧ PkOut w w3 p l) := Lib.hid ⟨⟨ho, fun k hk => ⟨Nat.le_trans HF.out.size (hf k hk).1, (hf k hk).2⟩⟩, hO.at', HF.out.trans hO.fr⟩
  clear ho hf hO
  go_wp2_with fail
  refine bodyPost_ret (v := v') (by simp [results, Try.results41, go_sem]) rfl ?_
  exact ⟨⟨v', rfl, HE.out.1⟩, HE.out.2⟩

theorem OwnN.noBytes {w : World} {v : Value} {ns : List Nat} (h : OwnN w v ns) (h0 : ns = [] → v = .slice none 0 0) {k : Nat} (hk : v.ownBlock = some k) : ¬ BytesBlk w k := by
  cases ns with
  | nil => rw [h0 rfl] at hk; cases hk
  | cons n ns =>
    obtain ⟨b, off, cur, h1, h2, _⟩ := Own.block h (by simp)
    rw [h1] at hk
    have hk := Option.some.inj hk
    subst hk
    rintro ⟨c, f, hb⟩
    have := Option.some.inj (h2.symm.trans hb)
    injection this with _ x _
    cases x
/-- Numbers one behind the other. -/
def Vs (ns : List Nat) : List UInt8 := (ns.map V).flatten
set_option maxRecDepth 100000 in
theorem numbers_ok (w : World) (p : Nat) (ns : List Nat) (l : List UInt8) (h : PkAt w p (Vs ns ++ l)) (hn : ∀ n ∈ ns, n ≤ 4611686018427387903) (hk : ns.length ≤ 5) (hl : l.length ≤ 10000) :
    Calls Try.prog 40 #[pt p, .int .i64 (ns.length : Int)] w fun e w' => (∃ v', e = .returned v' ∧ OwnN w' v' ns ∧ ∀ k, v'.ownBlock = some k → w.heap.size ≤ k ∧ k < w'.heap.size) ∧ PkOut w w' p l := by
  have hp : p < w.heap.size := by obtain ⟨d, _, hB⟩ := h; exact hB.lt
  have HI0 : Hid (PkOut w w p (Vs ns ++ l)) := Lib.hid ⟨h, Fr.refl _ _⟩
  clear h
  go_enter Try.func40, Try.ntmps40
  go_wp2_with fail
  go_loopg [5, 6] ns.length (fun k s5 s6 wr => ∃ i : Nat, k + i = ns.length ∧ s6 = .int .i64 (i : Int) ∧ Hid (PkOut w wr p (Vs (ns.drop i) ++ l) ∧ OwnN wr s5 (ns.take i) ∧ (ns.take i = [] → s5 = .slice none 0 0) ∧ ∀ k, s5.ownBlock = some k → w.heap.size ≤ k ∧ k < wr.heap.size))
  case atStart => exact ⟨0, by simp, rfl, Lib.hid ⟨HI0.out, Own.nil w 30 1, (fun _ => rfl), New.nil w w⟩⟩
  case round =>
    obtain ⟨i, hki, rfl, HI⟩ := hrel
    by_cases hend : i = ns.length
    · have hne : ¬ (i < ns.length) := by omega
      have hE := HI.out
      rw [List.drop_of_length_le (by omega), List.take_of_length_le (by omega)] at hE
      have HE := Lib.hid hE
      clear hE
      go_wp2_with fail
      refine bodyPost_ret (v := u5) (by simp [results, Try.results40, go_sem]) rfl ?_
      exact ⟨⟨u5, rfl, HE.out.2.1, HE.out.2.2.2⟩, HE.out.1⟩
    · have hi : i < ns.length := by omega
      have hd1 : ns.drop i = ns[i]'hi :: ns.drop (i + 1) := List.drop_eq_getElem_cons hi
      have ht1 : ns.take (i + 1) = ns.take i ++ [ns[i]'hi] := by rw [List.take_add_one, List.getElem?_eq_getElem hi]; rfl
      have hm : ns[i]'hi ∈ ns := List.getElem_mem hi
      generalize ns[i]'hi = n at hd1 ht1 hm
      have hI := HI.out
      rw [hd1] at hI
      obtain ⟨hI1, hI2, hI4, hI3⟩ := hI
      have hV : Vs (n :: ns.drop (i + 1)) ++ l = V n ++ (Vs (ns.drop (i + 1)) ++ l) := by simp [Vs]
      rw [hV] at hI1
      have hvl : (Vs (ns.drop (i + 1)) ++ l).length ≤ 90000 := by
        have h1 : ∀ xs : List Nat, (Vs xs).length ≤ 8 * xs.length := fun xs => by
          induction xs with
          | nil => simp [Vs]
          | cons x xs ih =>
            have : Vs (x :: xs) = V x ++ Vs xs := by simp [Vs]
            rw [this, List.length_append, V_length, List.length_cons]
            have := vlen_le x
            omega
        have := h1 (ns.drop (i + 1))
        rw [List.length_drop] at this
        rw [List.length_append]
        omega
      have HN := Lib.hid (number_ok wr p n (Vs (ns.drop (i + 1)) ++ l) hI1.at' (hn n hm) hvl)
      have HJ := Lib.hid (And.intro hI1.fr (And.intro hI2 (And.intro hI3 hI4)))
      clear hI1 hI2 hI3 hI4 hV hvl
      have hil : (ns.take i).length ≤ 1000000 := by rw [List.length_take]; omega
      have HK : Hid (∀ w2, PkOut wr w2 p (Vs (ns.drop (i + 1)) ++ l) → OwnN (w2.alloc (.cells #[u64v n] 30)) u5 (ns.take i)) := Lib.hid fun w2 hO =>
        Own.keep (Own.keep HJ.out.2.1 (fun b hb => hO.fr.block b (HJ.out.2.2.1 b hb).2 (fun e => by have := (HJ.out.2.2.1 b hb).1; omega))) (fun b hb => Below.heap_alloc _ _ _ (Nat.lt_of_lt_of_le (HJ.out.2.2.1 b hb).2 hO.fr.size))
      have HE : Hid (∀ (w2 w3 : World) (v3 : Value), PkOut wr w2 p (Vs (ns.drop (i + 1)) ++ l) → OwnN w3 v3 (ns.take i ++ [n]) → Fr (fun k => u5.ownBlock = some k) (w2.alloc (.cells #[u64v n] 30)) w3 → (∀ k, v3.ownBlock = some k → u5.ownBlock = some k ∨ ((w2.alloc (.cells #[u64v n] 30)).heap.size ≤ k ∧ k < w3.heap.size)) →
          Hid (PkOut w w3 p (Vs (ns.drop (i + 1)) ++ l) ∧ OwnN w3 v3 (ns.take (i + 1)) ∧ (ns.take (i + 1) = [] → v3 = .slice none 0 0) ∧ ∀ k, v3.ownBlock = some k → w.heap.size ≤ k ∧ k < w3.heap.size)) := Lib.hid fun w2 w3 v3 hO h1 h2 h3 => by
        obtain ⟨d, hd, hB⟩ := hO.at'
        have hu : ∀ k, u5.ownBlock = some k → w.heap.size ≤ k ∧ k < wr.heap.size := HJ.out.2.2.1
        have hsz : wr.heap.size ≤ w2.heap.size := hO.fr.size
        have h2s := h2.size
        rw [size_alloc] at h2s
        have hFa : Fr (fun k => u5.ownBlock = some k) w2 w3 := ((Fr.refl _ w2).alloc _).trans h2
        have hu2 : OwnN w2 u5 (ns.take i) := Own.keep HJ.out.2.1 (fun b hb => hO.fr.block b (hu b hb).2 (fun e => by have := (hu b hb).1; omega))
        have hkb : KeepB w2 w3 := hFa.bytes (fun k hk => hu2.noBytes HJ.out.2.2.2 hk)
        refine Lib.hid ⟨⟨⟨d, hd.keep hkb, hFa.blk hB (fun e => by have := (hu p e).1; omega)⟩, ?_⟩, by rw [ht1]; exact h1, fun e => by (rw [ht1] at e; simp at e), fun k hk => ?_⟩
        · have h0 := HJ.out.1.trans hO.fr
          exact ⟨hFa.os.trans h0.os, hFa.tape.trans h0.tape, hFa.output.trans h0.output, Nat.le_trans h0.size hFa.size, fun k hk hp2 => (hFa.block k (Nat.lt_of_lt_of_le hk h0.size) (fun e => by have := (hu k e).1; omega)).trans (h0.block k hk hp2)⟩
        · rcases h3 k hk with e | ⟨e1, e2⟩
          · exact ⟨(hu k e).1, by have := (hu k e).2; omega⟩
          · rw [size_alloc] at e1
            have := HJ.out.1.size
            exact ⟨by omega, e2⟩
      go_wp2_with (first
        | (go_at_call 39; refine HN.out.mono ?_; rintro e w2 ⟨rfl, hO⟩; have HO := Lib.hid hO; clear hO)
        | (at_builtin; refine wpList_append_run _ rfl _ _ 69 rfl _ _ rfl rfl (run_appendN (HK.out _ HO.out) w2.heap.size n (Blk.new w2 _ _) hil _) ?_; rintro v3 w3 ⟨g1, g2, g3⟩; have HG := HE.out _ _ _ HO.out g1 g2 g3; clear g1 g2 g3))
      go_roundg (gk - 1)
      case measure => omega
      case rel => exact ⟨i + 1, by omega, by go_num, HG⟩
end Go.Proofs.Ytgdkbflhgcchfaa
