/- Rows of steps: three at once, two more at once. -/
import Derived.Test.YtdhhccpeikhilaaDoorJ4b
import Derived.Laws.MakeOwn
namespace Go.Proofs.YtdhhccpeikhilaaDoor
open Go.RowKit

section
variable {α : Type} {cs : α → Value → List Value} {dat : α → List UInt8} {e : TypeId} {size : Nat} {w w' : World} {v : Value} {xs ys : List α}
/-- Some more elements at the end. -/
theorem row_append {ds es : List Value} (h1 : ds.length = xs.length) (h2 : es.length = ys.length) (hpos : 0 < ys.length) (h3 : ∀ (i : Nat) (x : α) (d : Value), xs[i]? = some x → ds[i]? = some d → Rd w' d (dat x)) (h4 : ∀ (i : Nat) (x : α) (d : Value), ys[i]? = some x → es[i]? = some d → Rd w' d (dat x)) {v' : Value}
    (ho : Own w' v' e size (xs.length + ys.length) ((List.zipWith cs xs ds).flatten ++ (List.zipWith cs ys es).flatten)) : RowAt cs dat e size w' v' (xs ++ ys) := by
  refine ⟨fun k hk2 => ?_, ds ++ es, by simp [h1, h2], ?_, fun i y d' hy hd' => ?_⟩
  · obtain ⟨b, off, cur, e1, e2, _⟩ := ho.block (by omega)
    have e3 : b = k := Option.some.inj (e1.symm.trans hk2)
    subst e3
    exact ⟨cur, _, e2⟩
  · rw [List.length_append, List.zipWith_append h1.symm, List.flatten_append]
    exact ho
  · rcases Nat.lt_or_ge i xs.length with c | c
    · rw [List.getElem?_append_left c] at hy
      rw [List.getElem?_append_left (by omega)] at hd'
      exact h3 i y d' hy hd'
    · rw [List.getElem?_append_right c] at hy
      rw [List.getElem?_append_right (by omega), h1] at hd'
      exact h4 _ y d' hy hd'
end

theorem rd_nil (w : World) : Rd w (.slice none 0 0) [] := ⟨none, 0, rfl, Nat.le_refl _, by omega, fun h => (h rfl).elim⟩

theorem steps_three {w : World} {k : Nat} {y1 y2 y3 : Stp} {d1 d2 d3 : Value} (hB : Blk w k (stC y1 d1 ++ stC y2 d2 ++ stC y3 d3).toArray 30) (h1 : Rd w d1 y1.data) (h2 : Rd w d2 y2.data) (h3 : Rd w d3 y3.data) : StepsAt w (.slice (some ⟨k, 0, none⟩) 3 3) [y1, y2, y3] := by
  show RowAt stC Stp.data 30 4 w _ ([] ++ [y1, y2, y3])
  refine row_append (xs := []) (ys := [y1, y2, y3]) (ds := []) (es := [d1, d2, d3]) rfl rfl (by simp) (fun i x d h => by simp at h) (fun i x d hx hd => ?_) ?_
  · match i, hx, hd with
    | 0, hx, hd => simp only [List.getElem?_cons_zero, Option.some.injEq] at hx hd; subst hx hd; exact h1
    | 1, hx, hd => simp only [List.getElem?_cons_succ, List.getElem?_cons_zero, Option.some.injEq] at hx hd; subst hx hd; exact h2
    | 2, hx, hd => simp only [List.getElem?_cons_succ, List.getElem?_cons_zero, Option.some.injEq] at hx hd; subst hx hd; exact h3
    | i + 3, hx, _ => simp at hx
  · refine ⟨by simp, _, 3, rfl, Nat.le_refl _, by omega, .inr ⟨k, 0, _, rfl, hB, by simp, fun j u hj => ?_⟩⟩
    rw [Nat.zero_add, List.getElem?_toArray]
    simpa using hj

theorem src_two (w : World) (k : Nat) (y1 y2 : Stp) (d1 d2 : Value) (hB : Blk w k (stC y1 d1 ++ stC y2 d2).toArray 30) (h1 : Rd w d1 y1.data) (h2 : Rd w d2 y2.data) : Src Tryd.prog 4 24 (.slice (some ⟨k, 0, none⟩) 2 2) 2 (stC y1 d1 ++ stC y2 d2) w := by
  obtain ⟨p1, c1, rfl, _⟩ := h1
  obtain ⟨p2, c2, rfl, _⟩ := h2
  refine Src.ofSlice w Tryd.underlying24 _ 2 2 _ (by simp) (fun j u hj => ?_) (fun u hu => ?_)
  · have := hB.cell j
    rw [List.getElem?_toArray, hj] at this
    simpa [Addr.add_lit] using this
  · simp at hu
    rcases hu with rfl | rfl | rfl | rfl | rfl | rfl | rfl | rfl <;> rfl

/-- append(steps, x, y). -/
theorem run_appendSteps2 {w : World} {ty : TypeId} (sv : Value) (xs : List Stp) (y1 y2 : Stp) (d1 d2 : Value) (k : Nat) (hrow : StepsAt w sv xs) (hB : Blk w k (stC y1 d1 ++ stC y2 d2).toArray 30) (hlen : xs.length ≤ 1000000) (h1 : Rd w d1 y1.data) (h2 : Rd w d2 y2.data) :
    ∃ v' w', (Builtin.append_ #[24, 24] ty #[sv, .slice (some ⟨k, 0, none⟩) 2 2]).run Tryd.prog w = .ok v' w' ∧ StepsAt w' v' (xs ++ [y1, y2]) ∧ Fr (fun k => sv.ownBlock = some k) w w' ∧ KeepB w w' ∧ (∀ k, v'.ownBlock = some k → sv.ownBlock = some k ∨ (w.heap.size ≤ k ∧ k < w'.heap.size)) := by
  obtain ⟨h0, ds, g1, g2, g3⟩ := id hrow
  obtain ⟨i, hi, hzz⟩ := Option.map_eq_some_iff.1 info30
  simp only [Prod.mk.injEq] at hzz
  obtain ⟨hz, hs, hb⟩ := hzz
  have hsrc := src_two w k y1 y2 d1 d2 hB h1 h2
  obtain ⟨v', w', hrun, f1, f2, f3⟩ := run_appendOwn (P := Tryd.prog) g2 24 24 ty i _ _ Tryd.underlying24 hi hz hs hb rfl _ 2 _ hsrc (by omega) (by omega) (by omega)
  have hlt := run_append_lt (P := Tryd.prog) g2 24 24 ty i _ _ Tryd.underlying24 hi hz hs hb _ 2 _ hsrc (by omega) (by omega) v' w' hrun
  have hF : Fr (fun k => sv.ownBlock = some k ∧ ¬ BytesBlk w k) w w' := f2.mono (fun k _ hk => ⟨hk, RowAt.noBytes (by decide) hrow hk⟩)
  have hK : KeepB w w' := hF.bytes (fun k hk => hk.2)
  refine ⟨v', w', hrun, row_append (ys := [y1, y2]) g1 (es := [d1, d2]) rfl (by simp) (fun i x d hx hd => (g3 i x d hx hd).keep hK) (fun i x d hx hd => ?_) ?_, f2, hK, fun k hk => ?_⟩
  · match i, hx, hd with
    | 0, hx, hd => simp only [List.getElem?_cons_zero, Option.some.injEq] at hx hd; subst hx hd; exact h1.keep hK
    | 1, hx, hd => simp only [List.getElem?_cons_succ, List.getElem?_cons_zero, Option.some.injEq] at hx hd; subst hx hd; exact h2.keep hK
    | i + 2, hx, _ => simp at hx
  · simpa using f1
  · rcases f3 k hk with e | e
    · exact .inl e
    · exact (hlt k hk).imp id (fun e2 => ⟨e, e2⟩)

theorem info4 : (Tryd.prog.info? 4).map (fun i => (i.zero, i.size, i.bytes)) = some (some (.bool false), 1, 1) := by kernel_rfl
theorem made_bools (n : Nat) : madeCells (Value.bool false).cells n = Array.replicate n (.bool false) := by
  apply Array.ext
  · simp [madeCells]
  · intro j h1 h2
    simp [madeCells, Value.cells, Nat.mod_one]
theorem make_bools (n : Nat) (hn : n ≤ 100000) (w : World) : (Instr.makeSlice 51 (.int .i64 (n : Int)) (.int .i64 (n : Int))).run Tryd.prog w = .ok (.slice (some ⟨w.heap.size, 0, none⟩) n n) (w.alloc (.cells (Array.replicate n (.bool false)) 4)) := by
  obtain ⟨i, hi, hzz⟩ := Option.map_eq_some_iff.1 info4
  simp only [Prod.mk.injEq] at hzz
  obtain ⟨hz, hs, hb⟩ := hzz
  have hr := run_makeSlice (P := Tryd.prog) (w := w) 51 4 i (.bool false) Tryd.underlying51 hi hz .i64 .i64 n n (by omega) (by omega) (by rw [hs]; simp; omega) (by rw [hb]; omega) (by omega)
  rw [hr, hs, Int.toNat_natCast, Nat.mul_one, made_bools]
/-- A row of n Booleans. -/
def BoolsAt (w : World) (b n : Nat) (f : Nat → Bool) : Prop := ∃ c : Array Value, Blk w b c 4 ∧ c.size = n ∧ ∀ i, i < n → c[i]? = some (.bool (f i))
theorem BoolsAt.new (w : World) (n : Nat) (f : Nat → Bool) (hf : ∀ i, f i = false) : BoolsAt (w.alloc (.cells (Array.replicate n (.bool false)) 4)) w.heap.size n f :=
  ⟨_, Blk.new w _ _, by simp, fun i hi => by rw [hf]; simp [hi]⟩
theorem BoolsAt.grow {w w' : World} {b n : Nat} {f : Nat → Bool} (h : BoolsAt w b n f) (hg : Grow w w') : BoolsAt w' b n f := by
  obtain ⟨c, h1, h2, h3⟩ := h
  exact ⟨c, hg.blk h1 (fun e => e), h2, h3⟩
theorem BoolsAt.cell {w : World} {b n : Nat} {f : Nat → Bool} (h : BoolsAt w b n f) {i : Nat} (hi : i < n) : w.cell? ⟨b, i, none⟩ = some (.bool (f i)) := by
  obtain ⟨c, h1, _, h3⟩ := h
  exact h1.cellAt i _ (h3 i hi)
theorem BoolsAt.lt {w : World} {b n : Nat} {f : Nat → Bool} (h : BoolsAt w b n f) : b < w.heap.size := by
  obtain ⟨c, h1, _⟩ := h; exact h1.lt
theorem BoolsAt.free {w : World} {b n : Nat} {f : Nat → Bool} (h : BoolsAt w b n f) (i : Nat) : w.frozen? ⟨b, i, none⟩ = false := by
  obtain ⟨c, h1, _⟩ := h; exact h1.free i
theorem BoolsAt.set {w : World} {b n : Nat} {f g : Nat → Bool} (h : BoolsAt w b n f) (i : Nat) (hi : i < n) (hg : ∀ j, g j = (f j || decide (j = i))) : BoolsAt (w.setCell ⟨b, i, none⟩ (.bool true)) b n g := by
  obtain ⟨c, h1, h2, h3⟩ := h
  refine ⟨_, h1.set i _, by simp [h2], fun j hj => ?_⟩
  rw [hg]
  by_cases e : j = i
  · subst e
    rw [Array.getElem?_setIfInBounds_self_of_lt (by omega)]; simp
  · rw [Array.getElem?_setIfInBounds_ne (by omega), h3 j hj]; simp [e]
theorem BoolsAt.ext {w : World} {b n : Nat} {f g : Nat → Bool} (h : BoolsAt w b n f) (e : ∀ j, g j = f j) : BoolsAt w b n g := by
  obtain ⟨c, h1, h2, h3⟩ := h
  exact ⟨c, h1, h2, fun i hi => by rw [e]; exact h3 i hi⟩

theorem pairs_get (mo : Nat → Nat) : ∀ n j, j < n → (pairs mo n)[2 * j + 1]? = some (sPop (mo j))
  | 0, j, h => absurd h (by omega)
  | n + 1, j, h => by
    unfold pairs
    have hl := pairs_length mo n
    rcases Nat.lt_or_ge j n with c | c
    · rw [List.getElem?_append_left (by omega)]
      exact pairs_get mo n j c
    · obtain rfl : j = n := by omega
      rw [List.getElem?_append_right (by omega), hl, show 2 * j + 1 - 2 * j = 1 from by omega]
      rfl
theorem hsteps_get (P : HP) (k : Nat) (mo : Nat → Nat) (n j : Nat) (h : j < n) : (hsteps P k mo n)[4 + 2 * j]? = some (sPop (mo j)) := by
  unfold hsteps
  rw [List.getElem?_append_right (by simp only [List.length_cons, List.length_nil]; omega), show 4 + 2 * j - [(⟨3, 0, 0, P.H.take k⟩ : Stp), sAsk, ⟨3, 0, 0, P.H.drop k⟩].length = 2 * j + 1 from by simp; omega]
  exact pairs_get mo n j h

theorem count_le (P : HP) (hP : P.Ok) (s : HS) (hG : HGood P s) : s.count P ≤ P.N := by
  have hbd := hP.bounds
  cases s with
  | wr l => exact Nat.zero_le _
  | plain off l => exact hG.1
  | seg wo =>
    show (if wo < P.p then wo else wo - (P.q - P.p)) ≤ P.N
    have hG : P.scr = true ∧ (wo < P.p ∨ (P.q ≤ wo ∧ wo < P.N)) := hG
    split <;> omega
  | cut v => exact Nat.sub_le _ _
end Go.Proofs.YtdhhccpeikhilaaDoor
