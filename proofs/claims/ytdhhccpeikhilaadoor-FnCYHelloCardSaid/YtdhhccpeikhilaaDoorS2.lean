/- The frame sorter's state in memory; the laws for its map at the operation; deleteConsecutive. -/
import Derived.Test.YtdhhccpeikhilaaDoorS1
import Derived.Test.YtdhhccpeikhilaaDoorM1
import Derived.Maps.OwnOps
import Derived.Maps.OwnSet
namespace Go.Proofs.YtdhhccpeikhilaaDoor
open Go.RowKit

/-- A byte in a cell. -/
abbrev u8 (c : UInt8) : Value := .int .u8 (c.toNat : Int)

/-- Block b is a row of bytes. -/
def BytesBlk (w : World) (b : Nat) : Prop := ∃ (c : Array Value) (f : Nat × Nat), w.heap[b]? = some (Obj.cells c 5 f)
/-- Rows of bytes are as they were. -/
def KeepB (w w' : World) : Prop := ∀ b : Nat, BytesBlk w b → w'.heap[b]? = w.heap[b]?
theorem BytesBlk.lt {w : World} {b : Nat} (h : BytesBlk w b) : b < w.heap.size := by
  obtain ⟨c, f, h⟩ := h; exact (Array.getElem?_eq_some_iff.1 h).1
theorem BytesBlk.same {w w' : World} {b : Nat} (h : BytesBlk w b) (e : w'.heap[b]? = w.heap[b]?) : BytesBlk w' b := by
  obtain ⟨c, f, h⟩ := h; exact ⟨c, f, e.trans h⟩
theorem KeepB.refl (w : World) : KeepB w w := fun _ _ => rfl
theorem KeepB.trans {w w' w'' : World} (h : KeepB w w') (h' : KeepB w' w'') : KeepB w w'' := fun b hb => (h' b (hb.same (h b hb))).trans (h b hb)

/-- From offset o on block b holds the bytes l. -/
def RdAt (w : World) (b o : Nat) (l : List UInt8) : Prop := BytesBlk w b ∧ ∀ (i : Nat) (x : UInt8), l[i]? = some x → w.cell? ⟨b, o + i, none⟩ = some (u8 x)

/-- A slice value that reads as l. -/
def Rd (w : World) (v : Value) (l : List UInt8) : Prop :=
  ∃ p c, v = .slice p l.length c ∧ l.length ≤ c ∧ c ≤ 9223372036854775807 ∧ (l ≠ [] → ∃ b o, p = some ⟨b, o, none⟩ ∧ RdAt w b o l)

section
variable {w w' : World} {l : List UInt8}
theorem RdAt.same {b o : Nat} (h : RdAt w b o l) (e : w'.heap[b]? = w.heap[b]?) : RdAt w' b o l := by
  obtain ⟨h, h2⟩ := h
  exact ⟨h.same e, fun i x hx => (World.cell?_of_block (w := w) (a := ⟨b, o + i, none⟩) e).trans (h2 i x hx)⟩
/-- A reading stays where blocks of bytes stay. -/
theorem Rd.keep {v : Value} (h : Rd w v l) (hk : KeepB w w') : Rd w' v l := by
  obtain ⟨p, c, rfl, h1, h2, h3⟩ := h
  refine ⟨p, c, rfl, h1, h2, fun hne => ?_⟩
  obtain ⟨b, o, rfl, hr⟩ := h3 hne
  exact ⟨b, o, rfl, hr.same (hk b hr.1)⟩
end

/-- The queue's value at an entry: the bytes, and no callback. -/
def EntIs (w : World) (v : Value) (l : List UInt8) : Prop := ∃ s, v = .agg #[s, .nilFunc] ∧ Rd w s l

/-- The map's values read as q. -/
structure QIs (w : World) (qv : Nat → Option Value) (q : Nat → Option (List UInt8)) : Prop where
  none : ∀ k, q k = none → qv k = none
  some : ∀ k l, q k = some l → ∃ v, qv k = some v ∧ EntIs w v l

def QAt (w : World) (r : Nat) (q : Nat → Option (List UInt8)) : Prop := ∃ qv, MapAt w r qv ∧ QIs w qv q

/-- Old memory but for block r, and whatever is no bytes' block, is as it was. -/
theorem Fr.bytes {S : Nat → Prop} {w w' : World} (h : Fr S w w') (hS : ∀ k, S k → ¬ BytesBlk w k) : KeepB w w' :=
  fun b hb => h.block b hb.lt (fun e => hS b e hb)
theorem Fr.one {w w' : World} {r : Nat} (h : w.grownBy w' (some r)) : Fr (fun i => i = r) w w' :=
  ⟨h.os, h.tape, h.output, h.size, fun k hk hs => h.block k hk (fun e => hs (Option.some.inj e))⟩
theorem MapAt.noBytes {w : World} {r : Nat} {q : Nat → Option Value} (h : MapAt w r q) : ¬ BytesBlk w r := fun hb => by
  obtain ⟨es, cl, h1, _⟩ := h
  obtain ⟨c, f, h2⟩ := hb
  rw [h1] at h2; simp at h2
theorem Blk.noBytes {w : World} {b : Nat} {c : Array Value} {T : TypeId} (h : Blk w b c T) (hT : T ≠ 5) : ¬ BytesBlk w b := fun hb => by
  obtain ⟨c', f, h2⟩ := hb
  have := Option.some.inj (h.symm.trans h2)
  injection this with _ e
  exact hT e

theorem EntIs.keep {w w' : World} {v : Value} {l : List UInt8} (h : EntIs w v l) (hk : KeepB w w') : EntIs w' v l := by
  obtain ⟨s, rfl, hr⟩ := h; exact ⟨s, rfl, hr.keep hk⟩
theorem QIs.keep {w w' : World} {qv : Nat → Option Value} {q : Nat → Option (List UInt8)} (h : QIs w qv q) (hk : KeepB w w') : QIs w' qv q :=
  ⟨h.none, fun k l hl => let ⟨v, h1, h2⟩ := h.some k l hl; ⟨v, h1, h2.keep hk⟩⟩
theorem QAt.keep {w w' : World} {r : Nat} {q : Nat → Option (List UInt8)} (h : QAt w r q) (hr : w'.heap[r]? = w.heap[r]?) (hk : KeepB w w') : QAt w' r q := by
  obtain ⟨qv, h1, h2⟩ := h; exact ⟨qv, h1.same hr, h2.keep hk⟩
theorem QAt.fr {S : Nat → Prop} {w w' : World} {r : Nat} {q : Nat → Option (List UInt8)} (h : QAt w r q) (hf : Fr S w w') (hr : ¬ S r) (hS : ∀ k, S k → ¬ BytesBlk w k) : QAt w' r q := by
  refine h.keep (hf.block r ?_ hr) (hf.bytes hS)
  obtain ⟨qv, h1, _⟩ := h; exact h1.lt
theorem QAt.lt {w : World} {r : Nat} {q : Nat → Option (List UInt8)} (h : QAt w r q) : r < w.heap.size := by obtain ⟨qv, h1, _⟩ := h; exact h1.lt

theorem QAt.alloc {w : World} {r : Nat} {q : Nat → Option (List UInt8)} (h : QAt w r q) (o : Obj) : QAt (w.alloc o) r q :=
  h.keep (Below.heap_alloc _ _ _ h.lt) (fun _ hb => Below.heap_alloc _ _ _ hb.lt)
theorem QAt.drew {w : World} {r : Nat} {q : Nat → Option (List UInt8)} (h : QAt w r q) : QAt w.drew r q := h.keep rfl (fun _ _ => rfl)
theorem QAt.noBytes {w : World} {r : Nat} {q : Nat → Option (List UInt8)} (h : QAt w r q) : ¬ BytesBlk w r := by obtain ⟨qv, h1, _⟩ := h; exact h1.noBytes
theorem QAt.ne_blk {w : World} {r : Nat} {q : Nat → Option (List UInt8)} (h : QAt w r q) {b : Nat} {c : Array Value} {T : TypeId} (hb : Blk w b c T) : r ≠ b := by obtain ⟨qv, h1, _⟩ := h; exact h1.ne_blk hb
theorem QAt.setCell {w : World} {r : Nat} {q : Nat → Option (List UInt8)} (h : QAt w r q) (p : Addr) (v : Value) {c : Array Value} {T : TypeId} (hb : Blk w p.block c T) (hT : T ≠ 5) : QAt (w.setCell p v) r q :=
  h.keep (Below.heap_setCell _ _ _ _ (h.ne_blk hb)) (fun _ hx => Below.heap_setCell _ _ _ _ (fun e => hb.noBytes hT (e ▸ hx)))

theorem neq_nilFunc (w : World) : (binOp .neq 1 .nilFunc .nilFunc).run Tryd.prog w = .ok (.bool false) w := by kernel_rfl

theorem zero125 (w : World) : (zeroValue 125).run Tryd.prog w = .ok (.agg #[.slice none 0 0, .nilFunc]) w := by kernel_rfl

/-- 'v, ok := s.queue[k]'. -/
theorem QAt.look {w : World} {r : Nat} {q : Nat → Option (List UInt8)} (h : QAt w r q) (k : Nat) :
    (q k = none ∧ (Instr.lookup 92 (.map (some r)) (.int .i64 (k : Int)) true).run Tryd.prog w = .ok (.tuple #[.agg #[.slice none 0 0, .nilFunc], .bool false]) w) ∨
    (∃ l s, q k = some l ∧ Rd w s l ∧ (Instr.lookup 92 (.map (some r)) (.int .i64 (k : Int)) true).run Tryd.prog w = .ok (.tuple #[.agg #[s, .nilFunc], .bool true]) w) := by
  obtain ⟨qv, h1, h2⟩ := h
  have hl := h1.look (P := Tryd.prog) (T := 92) Tryd.underlying92 Tryd.underlying67 zero125 k
  cases hq : q k with
  | none => rw [h2.none k hq] at hl; exact .inl ⟨rfl, hl⟩
  | some l =>
    obtain ⟨v, hv, s, rfl, hr⟩ := h2.some k l hq
    rw [hv] at hl
    exact .inr ⟨l, s, rfl, hr, hl⟩

/-- 'delete(s.queue, k)', for the walk. -/
theorem wpList_delQ (w : World) {ops : Array Oper} {rest : List Oper} {o : Oper} {a : Act} {Q : Exit → Act → World → Prop} (hgd : o.guard = none) (m x : Operand)
    (ho : o.op = .call { callee := .builtin .delete, args := #[m, x], argTypes := #[92, 67] }) (r k : Nat) (q : Nat → Option (List UInt8)) (hq : QAt w r q)
    (hm : a.eval m = .map (some r)) (hx : a.eval x = .int .i64 (k : Int))
    (h : ∀ w', QAt w' r (rmQ q k) → Fr (fun i => i = r) w w' → wpList Tryd.prog ops Q rest (a.put o.dst (.tuple #[])) w') : wpList Tryd.prog ops Q (o :: rest) a w := by
  refine wpList_plain hgd fun K hK => ?_
  obtain ⟨qv, h1, h2⟩ := hq
  obtain ⟨w', hr, hm', hg⟩ := h1.del (P := Tryd.prog) (ty := o.type) Tryd.underlying92 Tryd.underlying67 k #[92, 67] rfl
  have hf := Fr.one hg
  have hk : KeepB w w' := hf.bytes (fun i e => by have e : i = r := e; rw [e]; exact h1.noBytes)
  unfold Oper.wp execOp
  simp only [ho, resolve, invoke, builtin, Sem.run_bind, Sem.run_pure, Result.andThen_ok, List.map_toArray, List.map_cons, List.map_nil, hm, hx, hr]
  refine hK _ _ (h w' ⟨_, hm', ⟨fun j hj => ?_, fun j l hj => ?_⟩⟩ hf)
  · unfold rmQ at hj
    by_cases c : j = k
    · simp only [c, if_true]
    · simp only [c, if_false] at hj ⊢; exact h2.none j hj
  · unfold rmQ at hj
    by_cases c : j = k
    · simp only [c, if_true] at hj; cases hj
    · simp only [c, if_false] at hj ⊢
      obtain ⟨v, e1, e2⟩ := h2.some j l hj
      exact ⟨v, e1, e2.keep hk⟩

/-- .. as one step of a region that draws. -/
theorem step_delQ {w : World} {ops : Array Oper} {o : Oper} {a : Act} {K : Act → World → Prop} {Q : Exit → Act → World → Prop} {E : Prop} (hgd : o.guard = none) (m x : Operand)
    (ho : o.op = .call { callee := .builtin .delete, args := #[m, x], argTypes := #[92, 67] }) (r k : Nat) (q : Nat → Option (List UInt8)) (hq : QAt w r q)
    (hm : a.eval m = .map (some r)) (hx : a.eval x = .int .i64 (k : Int))
    (h : ∀ w', QAt w' r (rmQ q k) → Fr (fun i => i = r) w w' → K (a.put o.dst (.tuple #[])) w') :
    if Region.wanted o (yielded ops a.tmps) = true then Oper.wp Tryd.prog o a w K Q else E := by
  have hw : Region.wanted o (yielded ops a.tmps) = true := by simp [Region.wanted, hgd]
  rw [if_pos hw]
  obtain ⟨qv, h1, h2⟩ := hq
  obtain ⟨w', hr, hm', hg⟩ := h1.del (P := Tryd.prog) (ty := o.type) Tryd.underlying92 Tryd.underlying67 k #[92, 67] rfl
  have hf := Fr.one hg
  have hk : KeepB w w' := hf.bytes (fun i e => by have e : i = r := e; rw [e]; exact h1.noBytes)
  unfold Oper.wp execOp
  simp only [ho, resolve, invoke, builtin, Sem.run_bind, Sem.run_pure, Result.andThen_ok, List.map_toArray, List.map_cons, List.map_nil, hm, hx, hr]
  refine h w' ⟨_, hm', ⟨fun j hj => ?_, fun j l hj => ?_⟩⟩ hf
  · unfold rmQ at hj
    by_cases c : j = k
    · simp only [c, if_true]
    · simp only [c, if_false] at hj ⊢; exact h2.none j hj
  · unfold rmQ at hj
    by_cases c : j = k
    · simp only [c, if_true] at hj; cases hj
    · simp only [c, if_false] at hj ⊢
      obtain ⟨v, e1, e2⟩ := h2.some j l hj
      exact ⟨v, e1, e2.keep hk⟩

/-- 's.queue[k] = v', for the walk. -/
theorem wpList_putQ (w : World) {ops : Array Oper} {rest : List Oper} {o : Oper} {a : Act} {Q : Exit → Act → World → Prop} (hgd : o.guard = none) (m x v : Operand)
    (ho : o.op = .mapUpdate 92 m x v) (r k : Nat) (q : Nat → Option (List UInt8)) (hq : QAt w r q) (s : Value) (l : List UInt8) (hs : Rd w s l)
    (hm : a.eval m = .map (some r)) (hx : a.eval x = .int .i64 (k : Int)) (hv : a.eval v = .agg #[s, .nilFunc])
    (h : ∀ w', QAt w' r (putQ q k l) → Fr (fun i => i = r) w w' → wpList Tryd.prog ops Q rest (a.put o.dst undef) w') : wpList Tryd.prog ops Q (o :: rest) a w := by
  refine wpList_plain hgd fun K hK => ?_
  obtain ⟨qv, h1, h2⟩ := hq
  obtain ⟨w', hr, hm', hg⟩ := h1.put (P := Tryd.prog) Tryd.underlying92 Tryd.underlying67 k (.agg #[s, .nilFunc])
  have hf := Fr.one hg
  have hk : KeepB w w' := hf.bytes (fun i e => by have e : i = r := e; rw [e]; exact h1.noBytes)
  unfold Oper.wp
  simp [execOp, ho, hm, hx, hv, hr, Result.andThen]
  refine hK _ _ (h w' ⟨_, hm', ⟨fun j hj => ?_, fun j l' hj => ?_⟩⟩ hf)
  · unfold putQ at hj
    by_cases c : j = k
    · simp only [c, if_true] at hj; cases hj
    · simp only [c, if_false] at hj ⊢; exact h2.none j hj
  · unfold putQ at hj
    by_cases c : j = k
    · simp only [c, if_true] at hj ⊢
      injection hj with hj
      subst hj
      exact ⟨_, rfl, s, rfl, hs.keep hk⟩
    · simp only [c, if_false] at hj ⊢
      obtain ⟨v, e1, e2⟩ := h2.some j l' hj
      exact ⟨v, e1, e2.keep hk⟩
end Go.Proofs.YtdhhccpeikhilaaDoor
