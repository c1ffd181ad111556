/- The reference's receiving side: CYCame, CYReady, CYTake, CYFinish. -/
import Derived.Test.YtdhhccpeikhilaaDoorD2
namespace Go.Proofs.YtdhhccpeikhilaaDoor
open Go.RowKit

/-- A set of numbers as a map to true. -/
def HaveAt (w : World) (r : Nat) (H : Nat → Bool) : Prop := MapAt w r (fun k => if H k = true then some (.bool true) else none)

theorem HaveAt.lt {w : World} {r : Nat} {H : Nat → Bool} (h : HaveAt w r H) : r < w.heap.size := MapAt.lt h
theorem HaveAt.same {w w' : World} {r : Nat} {H : Nat → Bool} (h : HaveAt w r H) (e : w'.heap[r]? = w.heap[r]?) : HaveAt w' r H := MapAt.same h e
theorem HaveAt.ext {w : World} {r : Nat} {H H' : Nat → Bool} (h : HaveAt w r H) (e : ∀ k, H k = H' k) : HaveAt w r H' := by
  have : H = H' := funext e
  subst this; exact h
theorem HaveAt.of {w : World} {r : Nat} {H : Nat → Bool} {q : Nat → Option Value} (h : MapAt w r q) (e : ∀ k, q k = if H k = true then some (.bool true) else none) : HaveAt w r H := by
  have : q = fun k => if H k = true then some (.bool true) else none := funext e
  subst this; exact h
theorem HaveAt.ne_blk {w : World} {r : Nat} {H : Nat → Bool} (h : HaveAt w r H) {b : Nat} {c : Array Value} {T : TypeId} (hb : Blk w b c T) : r ≠ b := MapAt.ne_blk h hb

theorem HaveAt.look {w : World} {r : Nat} {H : Nat → Bool} (h : HaveAt w r H) (k : Nat) : (Instr.lookup 33 (.map (some r)) (.int .i64 (k : Int)) false).run Tryd.prog w = .ok (.bool (H k)) w := by
  obtain ⟨es, clock, hb, hl, hd, hq⟩ := h
  have hq : (if H k = true then some (Value.bool true) else none) = getL es.toList k := hq k
  rcases run_findKey_int (P := Tryd.prog) (w := w) Tryd.underlying2 k hl with ⟨h1, _, h2⟩ | ⟨j, e, h1, h2, h3, h4⟩
  · rw [h1] at hq
    have : H k = false := by cases hk : H k with
      | false => rfl
      | true => rw [hk] at hq; simp at hq
    rw [this]
    simp [Instr.lookup, run_underlying Tryd.underlying33, getObj, Sem.run, hb, run_checkKey_int Tryd.underlying2, h2]
  · rw [h3] at hq
    have h5 : H k = true ∧ e.val = .bool true := by cases hk : H k with
      | false => rw [hk] at hq; simp at hq
      | true => rw [hk] at hq; simp at hq; exact ⟨rfl, hq.symm⟩
    rw [h5.1]
    simp [Instr.lookup, run_underlying Tryd.underlying33, getObj, Sem.run, hb, run_checkKey_int Tryd.underlying2, h4, h5.2]

theorem wpList_putH (w : World) {ops : Array Oper} {rest : List Oper} {o : Oper} {a : Act} {Q : Exit → Act → World → Prop} (hgd : o.guard = none) (m x v : Operand)
    (ho : o.op = .mapUpdate 33 m x v) (r k : Nat) (H : Nat → Bool) (hq : HaveAt w r H)
    (hm : a.eval m = .map (some r)) (hx : a.eval x = .int .i64 (k : Int)) (hv : a.eval v = .bool true)
    (h : ∀ w', HaveAt w' r (fun j => H j || decide (j = k)) → Fr (fun i => i = r) w w' → wpList Tryd.prog ops Q rest (a.put o.dst undef) w') : wpList Tryd.prog ops Q (o :: rest) a w := by
  refine wpList_plain hgd fun K hK => ?_
  obtain ⟨w', hr, hm', hg⟩ := MapAt.put (P := Tryd.prog) hq Tryd.underlying33 Tryd.underlying2 k (.bool true)
  unfold Oper.wp
  simp [execOp, ho, hm, hx, hv, hr, Result.andThen]
  refine hK _ _ (h w' (HaveAt.of hm' (fun j => ?_)) (Fr.one hg))
  by_cases c : j = k
  · simp [c]
  · simp [c]

theorem wpList_delH (w : World) {ops : Array Oper} {rest : List Oper} {o : Oper} {a : Act} {Q : Exit → Act → World → Prop} (hgd : o.guard = none) (m x : Operand)
    (ho : o.op = .call { callee := .builtin .delete, args := #[m, x], argTypes := #[33, 2] }) (r k : Nat) (H : Nat → Bool) (hq : HaveAt w r H)
    (hm : a.eval m = .map (some r)) (hx : a.eval x = .int .i64 (k : Int))
    (h : ∀ w', HaveAt w' r (fun j => H j && !decide (j = k)) → Fr (fun i => i = r) w w' → wpList Tryd.prog ops Q rest (a.put o.dst (.tuple #[])) w') : wpList Tryd.prog ops Q (o :: rest) a w := by
  refine wpList_plain hgd fun K hK => ?_
  obtain ⟨w', hr, hm', hg⟩ := MapAt.del (P := Tryd.prog) (ty := o.type) hq Tryd.underlying33 Tryd.underlying2 k #[33, 2] rfl
  unfold Oper.wp execOp
  simp only [ho, resolve, invoke, builtin, Sem.run_bind, Sem.run_pure, Result.andThen_ok, List.map_toArray, List.map_cons, List.map_nil, hm, hx, hr]
  refine hK _ _ (h w' (HaveAt.of hm' (fun j => ?_)) (Fr.one hg))
  by_cases c : j = k
  · simp [c]
  · simp [c]

/-- The reference's state at block b. -/
abbrev cyC (r rd hi : Nat) (dn : Bool) (wr : Value) (st : Nat) : Array Value := #[.map (some r), .int .i64 (rd : Int), .int .i64 (hi : Int), .bool dn, wr, .int .i64 (st : Int)]

set_option maxRecDepth 100000 in
theorem ready_any (w : World) (b r rd hi st : Nat) (dn : Bool) (wr : Value) (H : Nat → Bool) (hb : Blk w b (cyC r rd hi dn wr st) 35) (hH : HaveAt w r H) (hrd : rd ≤ 16384) (hmx : ∀ k, 16384 ≤ k → H k = false) :
    Calls Tryd.prog 10 #[pt b] w fun e w' => w = w' ∧ ∃ n : Nat, e = .returned (.int .i64 (n : Int)) ∧ (∀ k, rd ≤ k → k < rd + n → H k = true) ∧ H (rd + n) = false ∧ n ≤ 16384 := by
  have c0 : w.cell? ⟨b, 0, none⟩ = some (.map (some r)) := hb.cellAt 0 _ rfl
  have c1 : w.cell? ⟨b, 1, none⟩ = some (.int .i64 (rd : Int)) := hb.cellAt 1 _ rfl
  have hlt := hb.lt
  have HH := Lib.hid hH
  have HM := Lib.hid hmx
  clear hH hmx
  go_enter Tryd.func10, Tryd.ntmps10
  go_wp2_with fail
  go_loopg [3] 16385 (fun k s3 wr => w = wr ∧ ∃ x : Nat, k + x = 16385 + rd ∧ rd ≤ x ∧ s3 = .int .i64 (x : Int) ∧ ∀ k, rd ≤ k → k < x → H k = true)
  case atStart => exact ⟨rfl, rd, rfl, Nat.le_refl _, rfl, fun k h1 h2 => by omega⟩
  case round =>
    obtain ⟨rfl, x, hk, hrx, rfl, hn⟩ := hrel
    have HN := Lib.hid hn
    have hnn : x ≤ 16384 := by
      rcases Nat.lt_or_ge 16384 x with c | c
      · have h1 := hn 16384 (by omega) (by omega)
        have h2 := HM.out 16384 (Nat.le_refl _)
        rw [h1] at h2; cases h2
      · exact c
    have hl := HH.out.look x
    clear hn
    cases hv : H x with
    | true =>
      rw [hv] at hl
      have hv2 := Lib.hid hv
      clear hv
      go_wp2_with fail
      go_roundg (gk - 1)
      case measure => omega
      case rel =>
        refine ⟨rfl, x + 1, by omega, by omega, by go_num, fun k h1 h2 => ?_⟩
        rcases Nat.lt_or_ge k x with c | c
        · exact HN.out k h1 c
        · have e : k = x := by omega
          subst e; exact hv2.out
    | false =>
      rw [hv] at hl
      have hv2 := Lib.hid hv
      clear hv
      go_wp2_with fail
      go_ret
      exact ⟨rfl, x - rd, ret_int (by omega), fun k h1 h2 => HN.out k h1 (by omega), by rw [show rd + (x - rd) = x by omega]; exact hv2.out, by omega⟩

set_option maxRecDepth 100000 in
theorem take_any (w : World) (b r rd hi st n : Nat) (dn : Bool) (wr : Value) (H : Nat → Bool) (hb : Blk w b (cyC r rd hi dn wr st) 35) (hH : HaveAt w r H) (hrd : rd ≤ 1000000) (hn : n ≤ 1000000) :
    Calls Tryd.prog 12 #[pt b, .int .i64 (n : Int)] w fun e w' => e = .returned (.tuple #[]) ∧ Blk w' b (cyC r (rd + n) hi dn wr st) 35 ∧ (∃ H', HaveAt w' r H' ∧ ∀ k, H' k = (H k && !(decide (rd ≤ k) && decide (k < rd + n)))) ∧ Fr (fun k => k = b ∨ k = r) w w' := by
  have c1 : w.cell? ⟨b, 1, none⟩ = some (.int .i64 (rd : Int)) := hb.cellAt 1 _ rfl
  have hlt := hb.lt
  have HH := Lib.hid hH
  have HB := Lib.hid hb
  clear hH hb
  go_enter Tryd.func12, Tryd.ntmps12
  go_wp2_with fail
  go_loopg [4] n (fun k s4 wr' => ∃ x : Nat, k + x = n + rd ∧ rd ≤ x ∧ s4 = .int .i64 (x : Int) ∧ Hid (Fr (fun k => k = r) w wr' ∧ ∃ H', HaveAt wr' r H' ∧ ∀ k, H' k = (H k && !(decide (rd ≤ k) && decide (k < x)))))
  case atStart => exact ⟨rd, rfl, Nat.le_refl _, rfl, Lib.hid ⟨Fr.refl _ _, H, HH.out, fun k => by
    have : (decide (rd ≤ k) && decide (k < rd)) = false := by
      by_cases c : rd ≤ k
      · rw [decide_eq_false (show ¬ k < rd by omega), Bool.and_false]
      · rw [decide_eq_false c, Bool.false_and]
    rw [this]; simp⟩⟩
  case round =>
    obtain ⟨x, hk, hrx, rfl, HI⟩ := hrel
    have hB := HI.out.1.blk HB.out (fun e => HH.out.ne_blk HB.out e.symm)
    have c0 : wr.cell? ⟨b, 0, none⟩ = some (.map (some r)) := hB.cellAt 0 _ rfl
    have c1 : wr.cell? ⟨b, 1, none⟩ = some (.int .i64 (rd : Int)) := hB.cellAt 1 _ rfl
    have hltr := hB.lt
    have hfr := hB.free
    have HB1 := Lib.hid hB
    clear hB
    by_cases hend : x = rd + n
    · subst hend
      go_wp2_with fail
      go_end0
      have hB2 := HB1.out.set 1 (.int .i64 ((rd + n : Nat) : Int))
      obtain ⟨H1, hH1, hH1k⟩ := HI.out.2
      exact ⟨rfl, hB2, ⟨H1, hH1.same (Below.heap_setCell _ _ _ _ (hH1.ne_blk HB1.out)), hH1k⟩, (HI.out.1.mono (fun k _ h => .inr h)).setCell _ _ (.inl (.inl rfl))⟩
    · have hin : x < rd + n := by omega
      obtain ⟨H1, hH1, hH1k⟩ := HI.out.2
      have HH1 := Lib.hid hH1
      have HK1 := Lib.hid hH1k
      clear hH1 hH1k
      go_wp2_with (at_delete; refine wpList_delH _ rfl _ _ rfl r x H1 HH1.out rfl rfl ?_; intro w1 hh1 hF1)
      go_roundg (gk - 1)
      case measure => omega
      case rel =>
        refine ⟨x + 1, by omega, by omega, by go_num, Lib.hid ⟨HI.out.1.trans hF1, _, hh1, fun k => ?_⟩⟩
        rw [HK1.out k]
        by_cases d1 : rd ≤ k
        · by_cases d2 : k < x
          · rw [decide_eq_true d1, decide_eq_true d2, decide_eq_true (show k < x + 1 by omega)]; simp
          · by_cases d3 : k = x
            · subst d3; simp [d1]
            · rw [decide_eq_false d2, decide_eq_false d3, decide_eq_false (show ¬ k < x + 1 by omega)]; simp
        · rw [decide_eq_false d1, decide_eq_false (show ¬ k = x by omega)]; simp

theorem cyfinish_any (w : World) (b r rd hi st : Nat) (dn : Bool) (wr : Value) (H : Nat → Bool) (hb : Blk w b (cyC r rd hi dn wr st) 35) (hH : HaveAt w r H) :
    Calls Tryd.prog 13 #[pt b] w fun e w' => ((∃ k, H k = true) ∧ e = .returned (.int .i64 10) ∧ w' = w) ∨ ((∀ k, H k = false) ∧ e = .returned (.int .i64 0) ∧ Blk w' b (cyC r rd hi true wr st) 35 ∧ HaveAt w' r H ∧ Fr (fun k => k = b) w w') := by
  have c0 : w.cell? ⟨b, 0, none⟩ = some (.map (some r)) := hb.cellAt 0 _ rfl
  have c3 : w.cell? ⟨b, 3, none⟩ = some (.bool dn) := hb.cellAt 3 _ rfl
  have hlt := hb.lt
  have hfr := hb.free
  obtain ⟨n, hn, hz⟩ := MapAt.len (P := Tryd.prog) (ty := 3) hH Tryd.underlying33 #[33] rfl
  have HZ := Lib.hid hz
  have HZ0 : n = 0 → Hid (∀ k, (if H k = true then some (Value.bool true) else none) = none) := fun e => Lib.hid (hz.1 e)
  have HH := Lib.hid hH
  have HB := Lib.hid hb
  clear hH hz hb
  rcases Nat.eq_zero_or_pos n with hn0 | hn0
  · have HZ1 := HZ0 hn0
    clear HZ HZ0
    subst hn0
    go_enter Tryd.func13, Tryd.ntmps13
    go_wp2_with fail
    go_ret
    refine .inr ⟨fun k => ?_, rfl, HB.out.set 3 _, HH.out.same (Below.heap_setCell _ _ _ _ (HH.out.ne_blk HB.out)), (Fr.refl _ _).setCell _ _ (.inl rfl)⟩
    have := HZ1.out k
    cases hk : H k with
    | false => rfl
    | true => rw [hk] at this; simp at this
  · go_enter Tryd.func13, Tryd.ntmps13
    go_wp2_with fail
    go_ret
    refine .inl ⟨Classical.byContradiction fun hne => ?_, rfl, rfl⟩
    have := HZ.out.2 (fun k => by
      show (if H k = true then some (Value.bool true) else none) = none
      rw [if_neg (fun e => hne ⟨k, e⟩)])
    omega
end Go.Proofs.YtdhhccpeikhilaaDoor
