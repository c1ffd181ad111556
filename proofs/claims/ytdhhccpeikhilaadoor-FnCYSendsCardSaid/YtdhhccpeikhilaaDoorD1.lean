/- The reference's bytes; bytes.Equal, bytes.Clone. -/
import Derived.Test.YtdhhccpeikhilaaDoorC10
import Derived.Deep.LoopGhost
import Derived.Laws.IdiomStrings
namespace Go.Proofs.YtdhhccpeikhilaaDoor
open Go.RowKit

theorem Rd.string {w : World} {v : Value} {l : List UInt8} (h : Rd w v l) : (convert 26 9 v).run Tryd.prog w = .ok (.string ⟨l.toArray⟩) w := by
  obtain ⟨p, c, rfl, h1, h2, h3⟩ := h
  have back : ∀ (a : Addr) (l : List UInt8) (c : Nat), (∀ j (hj : j < l.length), w.cell? (a.add j) = some (.int .u8 (l[j].toNat : Int))) → (convert 26 9 (.slice (some a) l.length c)).run Tryd.prog w = .ok (.string ⟨l.toArray⟩) w := fun a l c hc => run_convert_bytes_back w 26 9 5 a c l Tryd.underlying26 Tryd.underlying5 Tryd.underlying9 hc
  cases l with
  | nil =>
    cases p with
    | none => simp [convert, run_underlying Tryd.underlying26, run_underlying Tryd.underlying9, run_underlying Tryd.underlying5, Conv.bytesToString]; rfl
    | some a => exact back a [] c (fun j hj => by simp at hj)
  | cons x r =>
    obtain ⟨b, o, rfl, hb⟩ := h3 (by simp)
    refine back _ _ c (fun j hj => ?_)
    have := hb.2 j _ (List.getElem?_eq_getElem hj)
    simpa [Addr.add_lit] using this

/-- bytes.Equal, where the bytes are the same. -/
theorem equal_same (w : World) (v1 v2 : Value) (l : List UInt8) (h1 : Rd w v1 l) (h2 : Rd w v2 l) :
    Calls Tryd.prog 11 #[v1, v2] w fun e w' => e = .returned (.bool true) ∧ w = w' := by
  have s1 := h1.string
  have s2 := h2.string
  have L1 := Lib.hid h1
  have L2 := Lib.hid h2
  clear h1 h2
  go_enter Tryd.func11, Tryd.ntmps11
  go_wp2_with fail
  go_ret
  exact ⟨ret_bool (by simp), rfl⟩

theorem eqNone (w : World) (n c : Nat) : (binOp .eql 26 (.slice none n c) (.slice none 0 0)).run Tryd.prog w = .ok (.bool true) w := by kernel_rfl
theorem eqSome (w : World) (a : Addr) (n c : Nat) : (binOp .eql 26 (.slice (some a) n c) (.slice none 0 0)).run Tryd.prog w = .ok (.bool false) w := by kernel_rfl

set_option maxRecDepth 100000 in
/-- bytes.Clone. -/
theorem clone_any (w : World) (v : Value) (l : List UInt8) (h : Rd w v l) (hl : l.length ≤ 1000000) :
    Calls Tryd.prog 16 #[v] w fun e w' => ∃ v', e = .returned v' ∧ OwnB w' v' l ∧ Grow w w' ∧ ∀ k, v'.ownBlock = some k → w.heap.size ≤ k := by
  obtain ⟨p, c, rfl, h1, h2, h3⟩ := id h
  have H := Lib.hid h
  have H3 := Lib.hid h3
  clear h h3
  go_enter Tryd.func16, Tryd.ntmps16
  cases p with
  | none =>
    have hl0 : l = [] := by
      cases l with
      | nil => rfl
      | cons x r => obtain ⟨b, o, e, _⟩ := H3.out (by simp); cases e
    subst hl0
    have hq := eqNone w 0 c
    go_wp2_with fail
    go_ret
    exact ⟨_, rfl, Own.nil _ 5 1, Fr.refl _ _, fun k h => nomatch h⟩
  | some a =>
    have hq := eqSome w a l.length c
    go_wp2_with (at_builtin; refine wpList_appendB _ rfl _ _ rfl (.slice (some ⟨w.heap.size, 0, none⟩) 0 0) _ [] l ⟨rfl, _, 0, rfl, Nat.le_refl _, by omega, .inl rfl⟩ (H.out.keep (Grow.bytes ((Fr.refl _ _).alloc _))) (by simp; omega) rfl rfl ?_; intro dv wb hOb hFb hfrb; obtain ⟨_, pb, cb, rfl, _⟩ := id hOb)
    go_ret
    refine ⟨_, rfl, hOb, Grow.trans' ((Fr.refl _ w).alloc _) hFb (fun k hk => Nat.le_of_eq (Option.some.inj hk)), fun k hk => ?_⟩
    rcases hfrb k hk with e | e
    · exact Nat.le_of_eq (Option.some.inj e)
    · exact Nat.le_trans ((Fr.refl (fun _ => False) w).alloc _).size e

/-- The byte at a place; bytes from a place on. -/
def FB (x : Nat) : UInt8 := UInt8.ofNat (x * 7 + x / 251)
def fB (o n : Nat) : List UInt8 := (List.range n).map (fun i => FB (o + i))
theorem fB_length (o n : Nat) : (fB o n).length = n := by unfold fB; simp
theorem fB_succ (o n : Nat) : fB o (n + 1) = fB o n ++ [FB (o + n)] := by unfold fB; rw [List.range_succ, List.map_append]; rfl
theorem fB_get {o n i : Nat} {x : UInt8} (h : (fB o n)[i]? = some x) : i < n ∧ x = FB (o + i) := by
  have hl := (List.getElem?_eq_some_iff.1 h).1
  rw [fB_length] at hl
  refine ⟨hl, ?_⟩
  unfold fB at h
  rw [List.getElem?_map, List.getElem?_range hl] at h
  exact (Option.some.inj h).symm

theorem byte_any (w : World) (x : Nat) (hx : x ≤ 10000000) :
    Calls Tryd.prog 21 #[.int .i64 (x : Int)] w fun e w' => e = .returned (u8 (FB x)) ∧ w = w' := by
  go_enter Tryd.func21, Tryd.ntmps21
  go_wp2
  go_ret
  refine ⟨?_, rfl⟩
  unfold u8 FB
  simp only [UInt8.toNat_ofNat']
  refine ret_int ?_
  show ((x : Int) * 7 + (x : Int) / 251) % 256 = _
  omega

theorem Rd.one (w : World) (x : UInt8) : Rd (w.alloc (.cells #[u8 x] 5)) (.slice (some ⟨w.heap.size, 0, none⟩) 1 1) [x] := by
  refine ⟨_, 1, rfl, Nat.le_refl _, by omega, fun _ => ⟨_, 0, rfl, ⟨_, _, heap_alloc_new w _⟩, fun i y hy => ?_⟩⟩
  cases i with
  | zero =>
    rw [List.getElem?_cons_zero] at hy
    injection hy with hy; subst hy
    exact (Blk.new w #[u8 x] 5).cellAt 0 _ rfl
  | succ i => simp at hy
theorem Own.grow {w w' : World} {v : Value} {e : TypeId} {size n : Nat} {xs : List Value} (h : Own w v e size n xs) (hg : Grow w w') (hn : 0 < n ∨ v.ownBlock = none) : Own w' v e size n xs := by
  rcases hn with hn | hn
  · obtain ⟨b, off, cur, h1, h2, _⟩ := h.block hn
    exact h.keep (fun k hk => by
      have : b = k := Option.some.inj (h1.symm.trans hk)
      subst this; exact hg.block b (Array.getElem?_eq_some_iff.1 h2).1 (fun e => e))
  · exact h.keep (fun k hk => by rw [hn] at hk; cases hk)

set_option maxRecDepth 100000 in
theorem bytes_any (w : World) (o n : Nat) (ho : o ≤ 1000000) (hn : n ≤ 1000000) :
    Calls Tryd.prog 7 #[.int .i64 (o : Int), .int .i64 (n : Int)] w fun e w' => ∃ v, e = .returned v ∧ OwnB w' v (fB o n) ∧ Grow w w' ∧ ∀ k, v.ownBlock = some k → w.heap.size ≤ k := by
  go_enter Tryd.func7, Tryd.ntmps7
  go_wp2_with fail
  go_loopg [5, 6] n (fun k s5 s6 wr => ∃ i : Nat, k + i = n ∧ s6 = .int .i64 (((o + i : Nat)) : Int) ∧ OwnB wr s5 (fB o i) ∧ Grow w wr ∧ ∀ k, s5.ownBlock = some k → w.heap.size ≤ k ∧ k < wr.heap.size)
  case atStart => exact ⟨0, by simp, by go_num, Own.nil _ 5 1, Fr.refl _ _, fun k h => nomatch h⟩
  case round =>
    obtain ⟨i, hk, rfl, hO, hG, hfr⟩ := hrel
    by_cases hend : i = n
    · subst hend
      go_wp2_with fail
      go_ret
      exact ⟨_, rfl, hO, hG, fun k hk => (hfr k hk).1⟩
    · have hlt : i < n := by omega
      obtain ⟨_, p0, c0, rfl, _⟩ := id hO
      have HO := Lib.hid hO
      have hb := byte_any wr (o + i) (by omega)
      have HA : Hid (OwnB (wr.alloc (.cells #[YtdhhccpeikhilaaDoor.u8 (FB (o + i))] 5)) (.slice p0 (fB o i).length c0) (fB o i)) := Lib.hid (hO.keep (fun k hk => Below.heap_alloc _ _ _ (hfr k hk).2))
      clear hO
      have hlen : (fB o i).length + [FB (o + i)].length ≤ 1000000 := by rw [fB_length]; simp; omega
      have hlen2 := Lib.hid hlen
      clear hlen
      go_wp2_with (first | (go_at_call 21; refine hb.mono ?_; rintro e w2 ⟨rfl, rfl⟩) | (at_builtin; refine wpList_appendB _ rfl _ _ rfl (.slice p0 (fB o i).length c0) _ (fB o i) [FB (o + i)] HA.out (Rd.one _ _) hlen2.out rfl rfl ?_; intro dv w2 hO2 hF2 hfr2; obtain ⟨_, p2, c2, rfl, _⟩ := id hO2))
      go_roundg (gk - 1)
      case measure => omega
      case rel =>
        have e2 : fB o (i + 1) = fB o i ++ [FB (o + i)] := fB_succ o i
        refine ⟨i + 1, by omega, by go_num, by rw [e2]; simpa using hO2, Grow.trans' (hG.alloc _) hF2 (fun k hk => (hfr k (by simpa using hk)).1), fun k hk => ?_⟩
        have hsz : wr.heap.size < (wr.alloc (.cells #[YtdhhccpeikhilaaDoor.u8 (FB (o + i))] 5)).heap.size := by simp
        refine ⟨?_, ?_⟩
        · rcases hfr2 k (by simpa using hk) with e | e
          · exact (hfr k (by simpa using e)).1
          · have := hG.size; omega
        · obtain ⟨b, off, cur, h1, h2, _⟩ := hO2.block (by simp)
          have : b = k := Option.some.inj (h1.symm.trans (by simpa using hk))
          subst this
          exact (Array.getElem?_eq_some_iff.1 h2).1
end Go.Proofs.YtdhhccpeikhilaaDoor
