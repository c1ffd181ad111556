/- Rows of bytes of the program's own: append, for the walk. -/
import Derived.Test.YtdhhccpeikhilaaDoorR1
import Derived.Test.YtdhhccpeikhilaaDoorS7
namespace Go.Proofs.YtdhhccpeikhilaaDoor
open Go.RowKit

abbrev OwnB (w : World) (v : Value) (l : List UInt8) : Prop := Own w v 5 1 l.length (l.map u8)

theorem Own.rd {w : World} {v : Value} {l : List UInt8} (h : OwnB w v l) : Rd w v l := by
  obtain ⟨_, p, cap, rfl, h2, h3, h4⟩ := h
  refine ⟨p, cap, rfl, h2, h3, fun hne => ?_⟩
  rcases h4 with h4 | ⟨b, off, cur, rfl, h5, h6, h7⟩
  · exact (hne (List.eq_nil_of_length_eq_zero (by omega))).elim
  · refine ⟨b, off, rfl, ⟨cur, (0, 0), h5⟩, fun i x hx => ?_⟩
    have := h7 i (u8 x) (by rw [List.getElem?_map, hx]; rfl)
    simp [World.cell?, h5, this]

theorem Rd.src {w : World} {v : Value} {l : List UInt8} (h : Rd w v l) : Src Tryd.prog 1 26 v l.length (l.map u8) w := by
  obtain ⟨p, c, rfl, h1, h2, h3⟩ := h
  have one : ∀ u ∈ l.map u8, u.oneCell' = true := fun u hu => by
    obtain ⟨x, _, rfl⟩ := List.mem_map.1 hu; rfl
  cases l with
  | nil =>
    cases p with
    | none => exact Src.ofNil w Tryd.underlying26 c
    | some a => exact Src.ofSlice w Tryd.underlying26 a 0 c [] (by simp) (fun j u hj => by simp at hj) (fun u hu => by cases hu)
  | cons x r =>
    obtain ⟨b, o, rfl, hr⟩ := h3 (by simp)
    refine Src.ofSlice w Tryd.underlying26 _ _ c _ (by simp) (fun j u hj => ?_) one
    rw [List.getElem?_map] at hj
    obtain ⟨y, hy, rfl⟩ := Option.map_eq_some_iff.1 hj
    have := hr.2 j y hy
    simpa [Addr.add_lit] using this

theorem appendB {w : World} {v x : Value} {l m : List UInt8} (h : OwnB w v l) (hr : Rd w x m) (hlen : l.length + m.length ≤ 1000000) (ty : TypeId) :
    ∃ v' w', (Builtin.append_ #[26, 26] ty #[v, x]).run Tryd.prog w = .ok v' w' ∧ OwnB w' v' (l ++ m) ∧ Fr (fun k => v.ownBlock = some k) w w' ∧ (∀ k, v'.ownBlock = some k → v.ownBlock = some k ∨ w.heap.size ≤ k) := by
  obtain ⟨i, hi, hzz⟩ := Option.map_eq_some_iff.1 info5
  simp only [Prod.mk.injEq] at hzz
  obtain ⟨hz, hs, hb⟩ := hzz
  have := run_appendOwn (P := Tryd.prog) h 26 26 ty i (.int .u8 0) 1 Tryd.underlying26 hi hz hs hb rfl x m.length (m.map u8) hr.src (by omega) (by omega) (by omega)
  rw [← List.map_append, ← List.length_append] at this
  exact this

/-- 'append(s, x...)', for the walk. -/
theorem wpList_appendB (w : World) {ops : Array Oper} {rest : List Oper} {o : Oper} {a : Act} {Q : Exit → Act → World → Prop} (hgd : o.guard = none) (s x : Operand)
    (ho : o.op = .call { callee := .builtin .append, args := #[s, x], argTypes := #[26, 26] }) (sv xv : Value) (l m : List UInt8) (hown : OwnB w sv l) (hr : Rd w xv m) (hlen : l.length + m.length ≤ 1000000)
    (hs : a.eval s = sv) (hx : a.eval x = xv)
    (h : ∀ v' w', OwnB w' v' (l ++ m) → Fr (fun k => sv.ownBlock = some k) w w' → (∀ k, v'.ownBlock = some k → sv.ownBlock = some k ∨ w.heap.size ≤ k) → wpList Tryd.prog ops Q rest (a.put o.dst v') w') : wpList Tryd.prog ops Q (o :: rest) a w := by
  refine wpList_plain hgd fun K hK => ?_
  obtain ⟨v', w', hrun, h1, h2, h3⟩ := appendB hown hr hlen o.type
  unfold Oper.wp
  simp [execOp, ho, resolve, invoke, builtin, hs, hx, hrun, Result.andThen]
  exact hK _ _ (h v' w' h1 h2 h3)

/-- .. as one step of a region that draws. -/
theorem step_appendB {w : World} {ops : Array Oper} {o : Oper} {a : Act} {K : Act → World → Prop} {Q : Exit → Act → World → Prop} {E : Prop} (hgd : o.guard = none) (s x : Operand)
    (ho : o.op = .call { callee := .builtin .append, args := #[s, x], argTypes := #[26, 26] }) (sv xv : Value) (l m : List UInt8) (hown : OwnB w sv l) (hr : Rd w xv m) (hlen : l.length + m.length ≤ 1000000)
    (hs : a.eval s = sv) (hx : a.eval x = xv)
    (h : ∀ v' w', OwnB w' v' (l ++ m) → Fr (fun k => sv.ownBlock = some k) w w' → (∀ k, v'.ownBlock = some k → sv.ownBlock = some k ∨ w.heap.size ≤ k) → K (a.put o.dst v') w') :
    if Region.wanted o (yielded ops a.tmps) = true then Oper.wp Tryd.prog o a w K Q else E := by
  have hw : Region.wanted o (yielded ops a.tmps) = true := by simp [Region.wanted, hgd]
  rw [if_pos hw]
  obtain ⟨v', w', hrun, h1, h2, h3⟩ := appendB hown hr hlen o.type
  unfold Oper.wp
  simp [execOp, ho, resolve, invoke, builtin, hs, hx, hrun, Result.andThen]
  exact h v' w' h1 h2 h3
end Go.Proofs.YtdhhccpeikhilaaDoor
