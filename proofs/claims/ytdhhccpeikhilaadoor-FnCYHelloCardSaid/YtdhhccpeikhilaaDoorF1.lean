/- Append told once more: where the new slice lies; rows whose bytes lie apart from a buffer. What a CRYPTO stream that sends does, act by act; the acts' contracts. -/
import Derived.Test.YtdhhccpeikhilaaDoorC10
import Derived.Test.YtdhhccpeikhilaaDoorD7
import Derived.Test.YtdhhccpeikhilaaDoorC8
namespace Go.Proofs.YtdhhccpeikhilaaDoor
open Go.RowKit

theorem run_append_lt {P : Program} {w : World} {v : Value} {e : TypeId} {size n : Nat} {xs : List Value} (h : Own w v e size n xs) (t tx ty : TypeId) (i : TypeInfo) (z : Value) (bytes : Nat) (ht : P.underlying t = some (.slice e)) (hi : P.info? e = some i) (hz : i.zero = some z)
    (hsize : i.size = size) (hby : i.bytes = bytes) (x : Value) (m : Nat) (news : List Value) (hs : Src P size tx x m news w) (h63 : n + m ≤ 1000000000) (hbytes : (n + m) * bytes ≤ 140737488355328)
    (v' : Value) (w' : World) (hr : (Builtin.append_ #[t, tx] ty #[v, x]).run P w = .ok v' w') : ∀ k, v'.ownBlock = some k → v.ownBlock = some k ∨ k < w'.heap.size := by
  subst hsize
  subst hby
  obtain ⟨h1, p, cap, rfl, h2, h3, h4⟩ := h
  rcases Nat.eq_zero_or_pos m with hm | hm
  · subst hm
    have hnews : news = [] := List.eq_nil_of_length_eq_zero (by rw [hs.newsLen, Nat.zero_mul])
    subst hnews
    have hrun := run_append_nothing w t tx ty e i ht hi p n cap h2 x hs
    rw [hrun] at hr
    injection hr with e1 e2
    subst e1
    exact fun k hk => .inl hk
  · rcases Nat.lt_or_ge cap (n + m) with hc | hc
    · have hold : (Builtin.firstCells i.size n (.slice p n cap)).run P w.drew = .ok xs.toArray w.drew := by
        rcases h4 with h4 | ⟨b, off, cur, rfl, h5, h6, h7⟩
        · subst h4
          have : n = 0 := by omega
          subst this
          have : xs = [] := List.eq_nil_of_length_eq_zero (by rw [h1, Nat.zero_mul])
          subst this
          cases p with
          | none => exact run_firstCells_none _ _ _ _ _
          | some a => exact run_firstCells_some _ _ _ a _ _ [] (by simp) (fun j v hj => by simp at hj)
        · refine run_firstCells_some _ _ _ _ _ _ xs h1 (fun j u hj => ?_)
          have : w.cell? ⟨b, off + j, none⟩ = some u := by simp [World.cell?, h5, h7 j u hj]
          simpa [Addr.add_lit] using this
      have hrun := run_append_grow_src w t tx ty e i z ht hi hz p n cap xs hold x m news hs hc (by omega) (growslice_fits hc hbytes)
      rw [hrun] at hr
      injection hr with e1 e2
      subst e1 e2
      exact fun k hk => .inr (by have : w.heap.size = k := Option.some.inj hk; subst this; simp)
    · rcases h4 with h4 | ⟨b, off, cur, rfl, h5, h6, h7⟩
      · omega
      · have hnl : news.length = m * i.size := hs.newsLen
        have hfit : off + n * i.size + news.length ≤ cur.size := by
          have : (n + m) * i.size ≤ cap * i.size := Nat.mul_le_mul_right _ hc
          rw [Nat.add_mul] at this; omega
        have hrun := run_append_room_src w t tx ty e i ht hi b off n cap x m news hs hc (fun j hj => by
            have : off + n * i.size + j < cur.size := by omega
            simp [World.cell?, h5, this]) (fun j hj => by simp [World.frozen?, h5])
        rw [hrun] at hr
        injection hr with e1 e2
        subst e1
        exact fun k hk => .inl hk

theorem appendB2 {w : World} {v x : Value} {l m : List UInt8} (h : OwnB w v l) (hr : Rd w x m) (hlen : l.length + m.length ≤ 1000000) (ty : TypeId) :
    ∃ v' w', (Builtin.append_ #[26, 26] ty #[v, x]).run Tryd.prog w = .ok v' w' ∧ OwnB w' v' (l ++ m) ∧ Fr (fun k => v.ownBlock = some k) w w' ∧ (∀ k, v'.ownBlock = some k → v.ownBlock = some k ∨ (w.heap.size ≤ k ∧ k < w'.heap.size)) := by
  obtain ⟨v', w', h1, h2, h3, h4⟩ := appendB h hr hlen ty
  obtain ⟨i, hi, hzz⟩ := Option.map_eq_some_iff.1 info5
  simp only [Prod.mk.injEq] at hzz
  obtain ⟨hz, hs, hb⟩ := hzz
  have hlt := run_append_lt (P := Tryd.prog) h 26 26 ty i (.int .u8 0) 1 Tryd.underlying26 hi hz hs hb x m.length (m.map u8) hr.src (by omega) (by omega) v' w' h1
  refine ⟨v', w', h1, h2, h3, fun k hk => ?_⟩
  rcases h4 k hk with e | e
  · exact .inl e
  · exact (hlt k hk).imp id (fun e2 => ⟨e, e2⟩)

theorem wpList_appendB2 (w : World) {ops : Array Oper} {rest : List Oper} {o : Oper} {a : Act} {Q : Exit → Act → World → Prop} (hgd : o.guard = none) (s x : Operand)
    (ho : o.op = .call { callee := .builtin .append, args := #[s, x], argTypes := #[26, 26] }) (sv xv : Value) (l m : List UInt8) (hown : OwnB w sv l) (hr : Rd w xv m) (hlen : l.length + m.length ≤ 1000000)
    (hs : a.eval s = sv) (hx : a.eval x = xv)
    (h : ∀ v' w', OwnB w' v' (l ++ m) → Fr (fun k => sv.ownBlock = some k) w w' → (∀ k, v'.ownBlock = some k → sv.ownBlock = some k ∨ (w.heap.size ≤ k ∧ k < w'.heap.size)) → wpList Tryd.prog ops Q rest (a.put o.dst v') w') : wpList Tryd.prog ops Q (o :: rest) a w := by
  refine wpList_plain hgd fun K hK => ?_
  obtain ⟨v', w', hrun, h1, h2, h3⟩ := appendB2 hown hr hlen o.type
  unfold Oper.wp
  simp [execOp, ho, resolve, invoke, builtin, hs, hx, hrun, Result.andThen]
  exact hK _ _ (h v' w' h1 h2 h3)

/-- .. as one step of a region that draws. -/
theorem step_appendB2 {w : World} {ops : Array Oper} {o : Oper} {a : Act} {K : Act → World → Prop} {Q : Exit → Act → World → Prop} {E : Prop} (hw : Region.wanted o (yielded ops a.tmps) = true) (s x : Operand)
    (ho : o.op = .call { callee := .builtin .append, args := #[s, x], argTypes := #[26, 26] }) (sv xv : Value) (l m : List UInt8) (hown : OwnB w sv l) (hr : Rd w xv m) (hlen : l.length + m.length ≤ 1000000)
    (hs : a.eval s = sv) (hx : a.eval x = xv)
    (h : ∀ v' w', OwnB w' v' (l ++ m) → Fr (fun k => sv.ownBlock = some k) w w' → (∀ k, v'.ownBlock = some k → sv.ownBlock = some k ∨ (w.heap.size ≤ k ∧ k < w'.heap.size)) → K (a.put o.dst v') w') :
    if Region.wanted o (yielded ops a.tmps) = true then Oper.wp Tryd.prog o a w K Q else E := by
  rw [if_pos hw]
  obtain ⟨v', w', hrun, h1, h2, h3⟩ := appendB2 hown hr hlen o.type
  unfold Oper.wp
  simp [execOp, ho, resolve, invoke, builtin, hs, hx, hrun, Result.andThen]
  exact h v' w' h1 h2 h3

/-- A row whose elements' bytes lie where A says. -/
def RowX {α : Type} (A : Value → Prop) (cs : α → Value → List Value) (dat : α → List UInt8) (e size : Nat) (w : World) (v : Value) (xs : List α) : Prop :=
  (∀ k, v.ownBlock = some k → ∃ (cur : Array Value) (f : Nat × Nat), w.heap[k]? = some (Obj.cells cur e f)) ∧ ∃ ds : List Value, ds.length = xs.length ∧ Own w v e size xs.length ((List.zipWith cs xs ds).flatten) ∧ ∀ (i : Nat) (x : α) (d : Value), xs[i]? = some x → ds[i]? = some d → Rd w d (dat x) ∧ A d

/-- The slice's block lies below N and is not the buffer's. -/
def Av (N : Nat) (wb : Value) (d : Value) : Prop := ∀ k, d.ownBlock = some k → k < N ∧ wb.ownBlock ≠ some k
theorem Av.nil (N : Nat) (wb : Value) (n c : Nat) : Av N wb (.slice none n c) := fun _ h => nomatch h

section
variable {α : Type} {A A' : Value → Prop} {cs : α → Value → List Value} {dat : α → List UInt8} {e size : Nat} {w w' : World} {v : Value} {xs : List α}
theorem RowX.row (h : RowX A cs dat e size w v xs) : RowAt cs dat e size w v xs := by
  obtain ⟨h0, ds, h1, h2, h3⟩ := h
  exact ⟨h0, ds, h1, h2, fun i x d hx hd => (h3 i x d hx hd).1⟩
theorem RowX.nil (A : Value → Prop) (w : World) : RowX A cs dat e size w (.slice none 0 0) [] := ⟨fun _ h => (nomatch h), [], rfl, Own.nil w e size, fun _ _ _ h _ => nomatch h⟩
theorem RowX.keep (h : RowX A cs dat e size w v xs) (hv : ∀ b, v.ownBlock = some b → w'.heap[b]? = w.heap[b]?) (hk : ∀ d l, A d → Rd w d l → Rd w' d l ∧ A' d) : RowX A' cs dat e size w' v xs := by
  obtain ⟨h0, ds, h1, h2, h3⟩ := h
  exact ⟨fun k hk2 => by obtain ⟨cur, f, h⟩ := h0 k hk2; exact ⟨cur, f, (hv k hk2).trans h⟩, ds, h1, h2.keep hv, fun i x d hx hd => hk d _ (h3 i x d hx hd).2 (h3 i x d hx hd).1⟩
theorem RowX.grow (h : RowX A cs dat e size w v xs) (hg : Grow w w') : RowX A cs dat e size w' v xs :=
  h.keep (fun b hb => hg.block b (h.row.lt hb) (fun e => e)) (fun _ _ ha hr => ⟨hr.keep hg.bytes, ha⟩)
theorem RowX.mono (h : RowX A cs dat e size w v xs) (hA : ∀ d, A d → A' d) : RowX A' cs dat e size w v xs := h.keep (fun _ _ => rfl) (fun d _ ha hr => ⟨hr, hA d ha⟩)
theorem Rd.avoid {d : Value} {l : List UInt8} (h : Rd w d l) {S : Nat → Prop} (hF : Fr S w w') (hS : ∀ k, S k → BytesBlk w k → d.ownBlock ≠ some k) : Rd w' d l := by
  obtain ⟨p, c, rfl, h1, h2, h3⟩ := h
  refine ⟨p, c, rfl, h1, h2, fun hne => ?_⟩
  obtain ⟨b, o, rfl, hr⟩ := h3 hne
  exact ⟨b, o, rfl, hr.same (hF.block b hr.1.lt (fun hs => hS b hs hr.1 rfl))⟩
end

/-- 'append(s, x)' for such a row. -/
theorem wpList_appendRowX {α : Type} {A : Value → Prop} {cs : α → Value → List Value} {dat : α → List UInt8} {e : TypeId} {size bytes : Nat} {t : TypeId} {i : TypeInfo} {z : Value} (hu : Tryd.prog.underlying t = some (.slice e)) (hi : Tryd.prog.info? e = some i) (hz : i.zero = some z)
    (hsize : i.size = size) (hby : i.bytes = bytes) (hzs : z.cells.size = size) (hpos : 0 < size) (hbs : bytes ≤ 1000) {w : World} {ty : TypeId}
    (sv xv : Value) (xs : List α) (y : α) (d : Value) (hrow : RowX A cs dat e size w sv xs) (hr : Src Tryd.prog size t xv 1 (cs y d) w) (hlen : xs.length ≤ 1000000)
    (hnb : e ≠ 5) (hd : Rd w d (dat y)) (hA : A d) :
    ∃ v' w', (Builtin.append_ #[t, t] ty #[sv, xv]).run Tryd.prog w = .ok v' w' ∧ RowX A cs dat e size w' v' (xs ++ [y]) ∧ Fr (fun k => sv.ownBlock = some k ∧ ¬ BytesBlk w k) w w' ∧ (∀ k, v'.ownBlock = some k → sv.ownBlock = some k ∨ w.heap.size ≤ k) := by
  obtain ⟨h0, ds, h1, h2, h3⟩ := id hrow
  have hb1 : (xs.length + 1) * bytes ≤ 140737488355328 := by
    have := Nat.mul_le_mul_left (xs.length + 1) hbs
    omega
  obtain ⟨v', w', hrun, g1, g2, g3⟩ := run_appendOwn (P := Tryd.prog) h2 t t ty i z bytes hu hi hz hsize hby hzs xv 1 (cs y d) hr (by omega) hb1 hpos
  have hF : Fr (fun k => sv.ownBlock = some k ∧ ¬ BytesBlk w k) w w' := g2.mono (fun k _ hk => ⟨hk, RowAt.noBytes hnb hrow.row hk⟩)
  have hK : KeepB w w' := hF.bytes (fun k hk => hk.2)
  refine ⟨v', w', hrun, ?_, hF, g3⟩
  refine ⟨fun k hk2 => ?_, ds ++ [d], by simp [h1], ?_, fun i y' d' hy hd' => ?_⟩
  · obtain ⟨b, off, cur, e1, e2, _⟩ := g1.block (by omega)
    have e3 : b = k := Option.some.inj (e1.symm.trans hk2)
    subst e3
    exact ⟨cur, _, e2⟩
  · rw [List.length_append, List.length_singleton, List.zipWith_append h1.symm]
    simpa using g1
  · rcases Nat.lt_or_ge i xs.length with c | c
    · rw [List.getElem?_append_left c] at hy
      rw [List.getElem?_append_left (by omega)] at hd'
      exact ⟨(h3 i y' d' hy hd').1.keep hK, (h3 i y' d' hy hd').2⟩
    · rw [List.getElem?_append_right c] at hy
      rw [List.getElem?_append_right (by omega), h1] at hd'
      cases hm : i - xs.length with
      | zero =>
        rw [hm] at hy hd'
        simp only [List.getElem?_cons_zero, Option.some.injEq] at hy hd'
        subst hy; subst hd'; exact ⟨hd.keep hK, hA⟩
      | succ m => rw [hm] at hy; simp at hy

theorem src_seen (w : World) (k : Nat) (y : Sn) (d : Value) (hB : Blk w k #[.bool y.is, .bool y.has, .int .i64 (y.off : Int), d, .int .i64 (y.code : Int)] 41) (hd : Rd w d y.data) : Src Tryd.prog 5 36 (.slice (some ⟨k, 0, none⟩) 1 1) 1 (snC y d) w := by
  obtain ⟨pd, cd, rfl, _⟩ := id hd
  refine Src.ofSlice w Tryd.underlying36 _ 1 1 _ rfl (fun j u hj => ?_) (fun u hu => ?_)
  · have := hB.cellAt j u (by rw [← hj]; simp)
    simpa [Addr.add_lit] using this
  · simp only [snC, List.mem_cons, List.not_mem_nil, or_false] at hu
    rcases hu with rfl | rfl | rfl | rfl | rfl <;> rfl
theorem src_step (w : World) (k : Nat) (y : Stp) (d : Value) (hB : Blk w k #[.int .i64 (y.kind : Int), .int .i64 (y.off : Int), .int .i64 (y.most : Int), d] 30) (hd : Rd w d y.data) : Src Tryd.prog 4 24 (.slice (some ⟨k, 0, none⟩) 1 1) 1 (stC y d) w := by
  obtain ⟨pd, cd, rfl, _⟩ := id hd
  refine Src.ofSlice w Tryd.underlying24 _ 1 1 _ rfl (fun j u hj => ?_) (fun u hu => ?_)
  · have := hB.cellAt j u (by rw [← hj]; simp)
    simpa [Addr.add_lit] using this
  · simp only [stC, List.mem_cons, List.not_mem_nil, or_false] at hu
    rcases hu with rfl | rfl | rfl | rfl <;> rfl

/-- One more is seen; one more act: the operation's run. -/
theorem run_appendSeenX {A : Value → Prop} {w : World} {ty : TypeId} (sv : Value) (ys : List Sn) (y : Sn) (d : Value) (k : Nat) (hrow : RowX A snC Sn.data 41 5 w sv ys) (hB : Blk w k #[.bool y.is, .bool y.has, .int .i64 (y.off : Int), d, .int .i64 (y.code : Int)] 41) (hlen : ys.length ≤ 1000000) (hd : Rd w d y.data) (hA : A d) :
    ∃ v' w', (Builtin.append_ #[36, 36] ty #[sv, .slice (some ⟨k, 0, none⟩) 1 1]).run Tryd.prog w = .ok v' w' ∧ RowX A snC Sn.data 41 5 w' v' (ys ++ [y]) ∧ Fr (fun k => sv.ownBlock = some k ∧ ¬ BytesBlk w k) w w' ∧ (∀ k, v'.ownBlock = some k → sv.ownBlock = some k ∨ w.heap.size ≤ k) := by
  obtain ⟨i, hi, hzz⟩ := Option.map_eq_some_iff.1 info41
  simp only [Prod.mk.injEq] at hzz
  obtain ⟨hz, hsz, hb⟩ := hzz
  exact wpList_appendRowX Tryd.underlying36 hi hz hsz hb rfl (by omega) (by omega) sv _ ys y d hrow (src_seen w k y d hB hd) hlen (by decide) hd hA
theorem run_appendStepX {A : Value → Prop} {w : World} {ty : TypeId} (sv : Value) (ys : List Stp) (y : Stp) (d : Value) (k : Nat) (hrow : RowX A stC Stp.data 30 4 w sv ys) (hB : Blk w k #[.int .i64 (y.kind : Int), .int .i64 (y.off : Int), .int .i64 (y.most : Int), d] 30) (hlen : ys.length ≤ 1000000) (hd : Rd w d y.data) (hA : A d) :
    ∃ v' w', (Builtin.append_ #[24, 24] ty #[sv, .slice (some ⟨k, 0, none⟩) 1 1]).run Tryd.prog w = .ok v' w' ∧ RowX A stC Stp.data 30 4 w' v' (ys ++ [y]) ∧ Fr (fun k => sv.ownBlock = some k ∧ ¬ BytesBlk w k) w w' ∧ (∀ k, v'.ownBlock = some k → sv.ownBlock = some k ∨ w.heap.size ≤ k) := by
  obtain ⟨i, hi, hzz⟩ := Option.map_eq_some_iff.1 info30
  simp only [Prod.mk.injEq] at hzz
  obtain ⟨hz, hsz, hb⟩ := hzz
  exact wpList_appendRowX Tryd.underlying24 hi hz hsz hb rfl (by omega) (by omega) sv _ ys y d hrow (src_step w k y d hB hd) hlen (by decide) hd hA

/-- An append by its run, for the walk. -/
theorem wpList_append_run (w : World) {ops : Array Oper} {rest : List Oper} {o : Oper} {a : Act} {Q : Exit → Act → World → Prop} (hgd : o.guard = none) (s x : Operand) (t : TypeId)
    (ho : o.op = .call { callee := .builtin .append, args := #[s, x], argTypes := #[t, t] }) (sv xv : Value) (hs : a.eval s = sv) (hx : a.eval x = xv) {R : Value → World → Prop}
    (hrun : ∃ v' w', (Builtin.append_ #[t, t] o.type #[sv, xv]).run Tryd.prog w = .ok v' w' ∧ R v' w')
    (h : ∀ v' w', R v' w' → wpList Tryd.prog ops Q rest (a.put o.dst v') w') : wpList Tryd.prog ops Q (o :: rest) a w := by
  refine wpList_plain hgd fun K hK => ?_
  obtain ⟨v', w', hrun, hR⟩ := hrun
  unfold Oper.wp
  simp [execOp, ho, resolve, invoke, builtin, hs, hx, hrun, Result.andThen]
  exact hK _ _ (h v' w' hR)
/-- .. as one step of a region that draws. -/
theorem step_append_run {w : World} {ops : Array Oper} {o : Oper} {a : Act} {K : Act → World → Prop} {Q : Exit → Act → World → Prop} {E : Prop} (hw : Region.wanted o (yielded ops a.tmps) = true) (s x : Operand) (t : TypeId)
    (ho : o.op = .call { callee := .builtin .append, args := #[s, x], argTypes := #[t, t] }) (sv xv : Value) (hs : a.eval s = sv) (hx : a.eval x = xv) {R : Value → World → Prop}
    (hrun : ∃ v' w', (Builtin.append_ #[t, t] o.type #[sv, xv]).run Tryd.prog w = .ok v' w' ∧ R v' w')
    (h : ∀ v' w', R v' w' → K (a.put o.dst v') w') :
    if Region.wanted o (yielded ops a.tmps) = true then Oper.wp Tryd.prog o a w K Q else E := by
  rw [if_pos hw]
  obtain ⟨v', w', hrun, hR⟩ := hrun
  unfold Oper.wp
  simp [execOp, ho, resolve, invoke, builtin, hs, hx, hrun, Result.andThen]
  exact h v' w' hR
end Go.Proofs.YtdhhccpeikhilaaDoor
namespace Go.Proofs.YtdhhccpeikhilaaDoor
open Go.RowKit

/-- How much was sent, what waits. -/
structure SS where
  off : Nat
  buf : List UInt8

def snum (s : SS) (x : Stp) : Nat := min (room s.off x.most) s.buf.length
def snext (s : SS) (x : Stp) : SS := if x.kind = 3 then ⟨s.off, s.buf ++ x.data⟩ else ⟨s.off + snum s x, s.buf.drop (snum s x)⟩
def sseen (s : SS) (x : Stp) : Sn := if x.kind = 3 then ⟨false, decide (0 < (snext s x).buf.length), 0, [], 0⟩ else ⟨true, decide (0 < (snext s x).buf.length), s.off, s.buf.take (snum s x), 0⟩
def SOk (s : SS) (x : Stp) : Prop := x.most ≤ 1000 ∧ x.data.length ≤ 1000 ∧ (x.kind = 3 ∨ (x.kind = 4 ∧ 0 < snum s x))
def sees : SS → List Stp → List Sn
  | _, [] => []
  | s, x :: r => sseen s x :: sees (snext s x) r
def SOks : SS → List Stp → Prop
  | _, [] => True
  | s, x :: r => SOk s x ∧ SOks (snext s x) r

theorem sees_length : ∀ (xs : List Stp) (s : SS), (sees s xs).length = xs.length
  | [], _ => rfl
  | _ :: r, s => by unfold sees; rw [List.length_cons, List.length_cons, sees_length r]
theorem sees_snoc : ∀ (xs : List Stp) (s : SS) (x : Stp), sees s (xs ++ [x]) = sees s xs ++ [sseen (xs.foldl snext s) x]
  | [], _, _ => rfl
  | a :: r, s, x => by
    show sseen s a :: sees (snext s a) (r ++ [x]) = _
    rw [sees_snoc r]; rfl
theorem soks_snoc : ∀ (xs : List Stp) (s : SS) (x : Stp), SOks s xs → SOk (xs.foldl snext s) x → SOks s (xs ++ [x])
  | [], _, _, _, h => ⟨h, trivial⟩
  | _ :: r, _, x, ⟨h1, h2⟩, h => ⟨h1, soks_snoc r _ x h2 h⟩
theorem soks_get : ∀ (xs : List Stp) (s : SS) (i : Nat) (x : Stp), SOks s xs → xs[i]? = some x → SOk ((xs.take i).foldl snext s) x
  | [], _, _, _, _, h => by simp at h
  | _ :: _, _, 0, x, ⟨h1, _⟩, h => by
    rw [List.getElem?_cons_zero] at h
    injection h with h; subst h; exact h1
  | _ :: r, _, i + 1, x, ⟨_, h2⟩, h => by
    rw [List.getElem?_cons_succ] at h
    exact soks_get r _ i x h2 h
theorem soks_bound : ∀ (xs : List Stp) (s : SS), SOks s xs → (xs.foldl snext s).off + (xs.foldl snext s).buf.length ≤ s.off + s.buf.length + 1000 * xs.length
  | [], _, _ => Nat.le_refl _
  | a :: r, s, ⟨h1, h2⟩ => by
    have := soks_bound r (snext s a) h2
    have hs : (snext s a).off + (snext s a).buf.length ≤ s.off + s.buf.length + 1000 := by
      unfold snext
      split
      · have := h1.2.1; simp only [List.length_append]; omega
      · have : snum s a ≤ s.buf.length := Nat.min_le_right _ _
        simp only [List.length_drop]; omega
    rw [List.foldl_cons, List.length_cons]
    omega
theorem soks_take : ∀ (xs : List Stp) (s : SS) (i : Nat), SOks s xs → SOks s (xs.take i)
  | [], _, i, h => by rw [List.take_nil]; exact h
  | _ :: _, _, 0, _ => trivial
  | _ :: r, s, i + 1, ⟨h1, h2⟩ => ⟨h1, soks_take r _ i h2⟩

structure SendIn (w0 w : World) (x b r bL : Nat) (wb : Value) (s : SS) : Prop where
  grow : Grow w0 w
  ok : Blk w w0.heap.size #[.bool false] 4
  door : Blk w x #[.pointer none, pt b] 86
  blk : Blk w b (cryC r bL 0 0 false s.off wb) 99
  own : OwnB w wb s.buf
  nb : w0.heap.size < x ∧ w0.heap.size < b
  wbn : ∀ k, wb.ownBlock = some k → w0.heap.size < k ∧ k < w.heap.size ∧ k ≠ b ∧ k ≠ x
  bnd : s.off + s.buf.length ≤ 100000

theorem SendIn.keepF {w0 w w' : World} {x b r bL : Nat} {wb : Value} {s : SS} (h : SendIn w0 w x b r bL wb s) {S : Nat → Prop} (hF : Fr S w w') (h0 : ∀ k, S k → w0.heap.size < k) (hx : ¬ S x) (hb : ¬ S b) (hw : ∀ k, wb.ownBlock = some k → ¬ S k) : SendIn w0 w' x b r bL wb s :=
  ⟨Grow.trans' h.grow hF (fun k hk => Nat.le_of_lt (h0 k hk)), hF.blk h.ok (fun e => Nat.lt_irrefl _ (h0 _ e)), hF.blk h.door hx, hF.blk h.blk hb, h.own.keep (fun k hk => hF.block k (h.wbn k hk).2.1 (hw k hk)), h.nb,
    fun k hk => ⟨(h.wbn k hk).1, Nat.lt_of_lt_of_le (h.wbn k hk).2.1 hF.size, (h.wbn k hk).2.2⟩, h.bnd⟩
theorem SendIn.keepG {w0 w w' : World} {x b r bL : Nat} {wb : Value} {s : SS} (h : SendIn w0 w x b r bL wb s) (hg : Grow w w') : SendIn w0 w' x b r bL wb s :=
  h.keepF hg (fun _ e => e.elim) (fun e => e) (fun e => e) (fun _ _ e => e)

set_option maxRecDepth 100000 in
theorem write_plain2 (w : World) (b r bL rp hi wo : Nat) (fin : Bool) (wb dv : Value) (l m : List UInt8) (hb : Blk w b (cryC r bL rp hi fin wo wb) 99) (ho : OwnB w wb l) (hd : Rd w dv m) (hlen : l.length + m.length ≤ 1000000) (hne : ∀ k, wb.ownBlock = some k → k ≠ b) :
    Calls Tryd.prog 40 #[pt b, dv] w fun e w' => e = .returned (.tuple #[.int .i64 (m.length : Int), .nilIface]) ∧ ∃ wb', Blk w' b (cryC r bL rp hi fin wo wb') 99 ∧ OwnB w' wb' (l ++ m) ∧ Fr (fun k => k = b ∨ wb.ownBlock = some k) w w' ∧ (∀ k, wb'.ownBlock = some k → wb.ownBlock = some k ∨ (w.heap.size ≤ k ∧ k < w'.heap.size)) := by
  have c6 : w.cell? ⟨b, 6, none⟩ = some wb := hb.cellAt 6 _ rfl
  have hlt := hb.lt
  obtain ⟨pd, cd, rfl, _⟩ := id hd
  go_enter Tryd.func40, Tryd.ntmps40
  go_wp2_with (at_builtin; refine wpList_appendB2 _ rfl _ _ rfl wb _ l m ho hd hlen rfl rfl ?_; intro v' w1 ho1 hF1 hfr1; obtain ⟨_, pv, cv, rfl, _⟩ := id ho1; have hb1 := hF1.blk hb (fun e => hne _ e rfl); have c61 : w1.cell? ⟨b, 6, none⟩ = some wb := hb1.cellAt 6 _ rfl; have hlt1 := hb1.lt; have hf1 := hb1.free)
  go_ret2
  have e : l.length + m.length = (l ++ m).length := List.length_append.symm
  rw [e]
  have hb2 := hb1.set 6 (.slice pv (l ++ m).length cv)
  have hF2 : Fr (fun k => k = b ∨ wb.ownBlock = some k) w (w1.setCell ⟨b, 6, none⟩ (.slice pv (l ++ m).length cv)) := (hF1.mono (fun k _ hk => .inr hk)).setCell _ _ (.inl (.inl rfl))
  refine ⟨rfl, _, hb2, ho1.keep (fun k hk => Below.heap_setCell _ _ _ _ (fun e => ?_)), hF2, fun k hk => ?_⟩
  · have e : k = b := e
    subst e
    rcases hfr1 _ hk with h | h
    · exact hne _ h rfl
    · omega
  · rcases hfr1 _ hk with h | h
    · exact .inl h
    · exact .inr ⟨h.1, by simpa using h.2⟩

theorem send_write (w0 w : World) (x b r bL : Nat) (wb dv : Value) (s : SS) (D : List UInt8) (h : SendIn w0 w x b r bL wb s) (hd : Rd w dv D) (hl : s.off + s.buf.length + D.length ≤ 100000) :
    Calls Tryd.prog 28 #[pt x, dv] w fun e w' => e = .returned .nilIface ∧ ∃ wb', SendIn w0 w' x b r bL wb' ⟨s.off, s.buf ++ D⟩ ∧ Fr (fun k => k = b ∨ wb.ownBlock = some k) w w' ∧ (∀ k, wb'.ownBlock = some k → wb.ownBlock = some k ∨ w.heap.size ≤ k) := by
  refine Write_of w x b dv h.door (R := fun w' => ∃ wb', SendIn w0 w' x b r bL wb' ⟨s.off, s.buf ++ D⟩ ∧ Fr (fun k => k = b ∨ wb.ownBlock = some k) w w' ∧ (∀ k, wb'.ownBlock = some k → wb.ownBlock = some k ∨ w.heap.size ≤ k)) ?_
  refine (write_plain2 w b r bL 0 0 s.off false wb dv s.buf D h.blk h.own hd (by omega) (fun k hk => (h.wbn k hk).2.2.1)).mono ?_
  rintro e w' ⟨rfl, wb', hB, hO, hF, hfr⟩
  have hbx : b ≠ x := h.blk.ne_of_type h.door (by decide)
  refine ⟨⟨_, rfl⟩, wb', ⟨?_, hF.blk h.ok ?_, hF.blk h.door ?_, hB, hO, h.nb, fun k hk => ?_, by show s.off + (s.buf ++ D).length ≤ 100000; rw [List.length_append]; omega⟩, hF, fun k hk => (hfr k hk).imp id (fun e => e.1)⟩
  · exact Grow.trans' h.grow hF (by
      rintro k (rfl | hk)
      · exact Nat.le_of_lt h.nb.2
      · exact Nat.le_of_lt (h.wbn k hk).1)
  · rintro (e | e)
    · have := h.nb.2; omega
    · have := (h.wbn _ e).1; omega
  · rintro (e | e)
    · exact hbx e.symm
    · exact (h.wbn _ e).2.2.2 rfl
  · rcases hfr k hk with e | e
    · have := h.wbn k e; exact ⟨this.1, Nat.lt_of_lt_of_le this.2.1 hF.size, this.2.2⟩
    · have h1 := h.blk.lt
      have h2 := h.door.lt
      have h3 := h.ok.lt
      exact ⟨by omega, e.2, by omega, by omega⟩

theorem send_pop (w0 w : World) (x b r bL : Nat) (wb : Value) (s : SS) (m k : Nat) (h : SendIn w0 w x b r bL wb s) (hm : m ≤ 1000) (hk : min (room s.off m) s.buf.length = k) (hpos : 0 < k) :
    Calls Tryd.prog 29 #[pt x, .int .i64 (m : Int)] w fun e w' => ∃ bf sv wb', e = .returned (pt bf) ∧ w.heap.size ≤ bf ∧ Blk w' bf #[.int .i64 (s.off : Int), sv] 69 ∧ Rd w' sv (s.buf.take k) ∧ SendIn w0 w' x b r bL wb' ⟨s.off + k, s.buf.drop k⟩ ∧ wb'.ownBlock = wb.ownBlock ∧ Fr (fun j => j = b) w w' := by
  have hbd := h.bnd
  refine Pop_of w x b _ h.door (R := fun e w' => ∃ bf sv wb', e = .returned (pt bf) ∧ w.heap.size ≤ bf ∧ Blk w' bf #[.int .i64 (s.off : Int), sv] 69 ∧ Rd w' sv (s.buf.take k) ∧ SendIn w0 w' x b r bL wb' ⟨s.off + k, s.buf.drop k⟩ ∧ wb'.ownBlock = wb.ownBlock ∧ Fr (fun j => j = b) w w') ?_ (fun e w' ⟨bf, _, _, h, _⟩ => ⟨_, h⟩)
  refine (pop_some w b r bL 0 0 s.off m false wb s.buf h.blk h.own (by omega) (by omega) (by omega) k hk hpos).mono ?_
  rintro e w' ⟨bf, sv, wb', rfl, h1, h2, h3, h4, h5, h6, hF⟩
  have hbx : b ≠ x := h.blk.ne_of_type h.door (by decide)
  refine ⟨bf, sv, wb', rfl, h1, h2, h3, ⟨Grow.trans' h.grow hF (by rintro k rfl; exact Nat.le_of_lt h.nb.2), hF.blk h.ok (fun e => by have := h.nb.2; omega), hF.blk h.door (fun e => hbx e.symm), h4, h5, h.nb, fun j hj => ?_, ?_⟩, h6, hF⟩
  · rw [h6] at hj
    have := h.wbn j hj
    exact ⟨this.1, Nat.lt_of_lt_of_le this.2.1 hF.size, this.2.2⟩
  · show s.off + k + (s.buf.drop k).length ≤ 100000
    have : k ≤ s.buf.length := by rw [← hk]; exact Nat.min_le_right _ _
    rw [List.length_drop]; omega

theorem send_has (w0 w : World) (x b r bL : Nat) (wb : Value) (s : SS) (h : SendIn w0 w x b r bL wb s) :
    Calls Tryd.prog 30 #[pt x] w fun e w' => e = .returned (.bool (decide (0 < s.buf.length))) ∧ w = w' := by
  refine Has_of w x b h.door (R := fun e w' => e = .returned (.bool (decide (0 < s.buf.length))) ∧ w = w') ?_ (fun e w' h => ⟨_, h.1⟩)
  exact has_plain w b r bL 0 0 s.off false wb s.buf h.blk h.own
end Go.Proofs.YtdhhccpeikhilaaDoor
