/- Slices of the program's own, read and appended to, at whatever place of their row. -/
import Derived.Test.YtdhhccpeikhilaaDoorS2
import Derived.Deep.Upon
namespace Go.Proofs.YtdhhccpeikhilaaDoor
open Go.RowKit

/-- A slice of n elements whose cells are xs; behind it its row goes on up to its capacity, and may be written. -/
def Own (w : World) (v : Value) (e : TypeId) (size n : Nat) (xs : List Value) : Prop :=
  xs.length = n * size ∧ ∃ p cap, v = .slice p n cap ∧ n ≤ cap ∧ cap ≤ 9223372036854775807 ∧
    (cap = 0 ∨ ∃ b off cur, p = some ⟨b, off, none⟩ ∧ w.heap[b]? = some (.cells cur e (0, 0)) ∧ off + cap * size ≤ cur.size ∧ ∀ (j : Nat) (u : Value), xs[j]? = some u → cur[off + j]? = some u)

theorem setCells_blk (b : Nat) : ∀ (vs : List Value) (o : Nat) (w : World) (cur : Array Value) (e : TypeId) (f : Nat × Nat), w.heap[b]? = some (.cells cur e f) → o + vs.length ≤ cur.size →
    ∃ cur', (w.setCells b o vs).heap[b]? = some (.cells cur' e f) ∧ cur'.size = cur.size ∧ ∀ k, cur'[k]? = if o ≤ k ∧ k < o + vs.length then vs[k - o]? else cur[k]?
  | [], o, w, cur, e, f, h, _ => ⟨cur, h, rfl, fun k => by rw [if_neg (by simp only [List.length_nil]; omega)]⟩
  | v :: r, o, w, cur, e, f, h, hl => by
    have h1 : (w.setCell ⟨b, o, none⟩ v).heap[b]? = some (.cells (cur.setIfInBounds o v) e f) := by
      simp only [World.setCell, Array.getElem?_modify, if_pos, h]; simp
    simp only [List.length_cons] at hl
    obtain ⟨cur', e1, e2, e3⟩ := setCells_blk b r (o + 1) (w.setCell ⟨b, o, none⟩ v) _ e f h1 (by simp; omega)
    refine ⟨cur', e1, by rw [e2]; simp, fun k => ?_⟩
    rw [e3]
    simp only [List.length_cons]
    by_cases c1 : k = o
    · subst c1
      rw [if_neg (by omega), if_pos (by omega), Nat.sub_self, List.getElem?_cons_zero, Array.getElem?_setIfInBounds_self_of_lt (by omega)]
    · by_cases c2 : o ≤ k ∧ k < o + (r.length + 1)
      · rw [if_pos (by omega), if_pos c2, show k - o = (k - (o + 1)) + 1 from by omega, List.getElem?_cons_succ]
      · rw [if_neg (by omega), if_neg c2, Array.getElem?_setIfInBounds_ne (by omega)]
theorem setCells_fr (b : Nat) : ∀ (vs : List Value) (o : Nat) (w : World), Fr (fun k => k = b) w (w.setCells b o vs)
  | [], _, w => Fr.refl _ w
  | v :: r, o, w => ((Fr.refl (fun k => k = b) w).setCell ⟨b, o, none⟩ v (.inl rfl)).trans (setCells_fr b r (o + 1) _)

theorem Own.keep {w w' : World} {v : Value} {e : TypeId} {size n : Nat} {xs : List Value} (h : Own w v e size n xs) (hk : ∀ b, v.ownBlock = some b → w'.heap[b]? = w.heap[b]?) : Own w' v e size n xs := by
  obtain ⟨h1, p, cap, rfl, h2, h3, h4⟩ := h
  refine ⟨h1, p, cap, rfl, h2, h3, h4.imp id ?_⟩
  rintro ⟨b, off, cur, rfl, h5, h6⟩
  exact ⟨b, off, cur, rfl, (hk b rfl).trans h5, h6⟩

theorem Own.nil (w : World) (e : TypeId) (size : Nat) : Own w (.slice none 0 0) e size 0 [] := ⟨by simp, none, 0, rfl, Nat.le_refl _, by omega, .inl rfl⟩

theorem run_appendOwn {P : Program} {w : World} {v : Value} {e : TypeId} {size n : Nat} {xs : List Value} (h : Own w v e size n xs) (t tx ty : TypeId) (i : TypeInfo) (z : Value) (bytes : Nat) (ht : P.underlying t = some (.slice e)) (hi : P.info? e = some i) (hz : i.zero = some z)
    (hsize : i.size = size) (hby : i.bytes = bytes) (hzs : z.cells.size = size) (x : Value) (m : Nat) (news : List Value) (hs : Src P size tx x m news w) (h63 : n + m ≤ 1000000000) (hbytes : (n + m) * bytes ≤ 140737488355328) (hpos : 0 < size) :
    ∃ v' w', (Builtin.append_ #[t, tx] ty #[v, x]).run P w = .ok v' w' ∧ Own w' v' e size (n + m) (xs ++ news) ∧ Fr (fun k => v.ownBlock = some k) w w' ∧ (∀ k, v'.ownBlock = some k → v.ownBlock = some k ∨ w.heap.size ≤ k) := by
  subst hsize
  subst hby
  obtain ⟨h1, p, cap, rfl, h2, h3, h4⟩ := h
  rcases Nat.eq_zero_or_pos m with hm | hm
  · subst hm
    have hnews : news = [] := List.eq_nil_of_length_eq_zero (by rw [hs.newsLen, Nat.zero_mul])
    subst hnews
    refine ⟨_, w, run_append_nothing w t tx ty e i ht hi p n cap h2 x hs, ?_, Fr.refl _ _, fun k hk => .inl hk⟩
    rw [List.append_nil, Nat.add_zero]
    exact ⟨h1, p, cap, rfl, h2, h3, h4⟩
  · have hlen : (xs ++ news).length = (n + m) * i.size := by rw [List.length_append, h1, hs.newsLen, Nat.add_mul]
    rcases Nat.lt_or_ge cap (n + m) with hr | hr
    · have hold : (Builtin.firstCells i.size n (.slice p n cap)).run P w.drew = .ok xs.toArray w.drew := by
        rcases h4 with h4 | ⟨b, off, cur, rfl, h5, h6, h7⟩
        · subst h4
          have : n = 0 := by omega
          subst this
          have : xs = [] := List.eq_nil_of_length_eq_zero (by rw [h1, Nat.zero_mul])
          subst this
          cases p with
          | none => exact run_firstCells_none _ _ _ _ _
          | some a => exact run_firstCells_some _ _ _ a _ _ [] (by simp) (fun j v hj => by simp at hj)
        · refine run_firstCells_some _ _ _ _ _ _ xs h1 (fun j u hj => ?_)
          have : w.cell? ⟨b, off + j, none⟩ = some u := by simp [World.cell?, h5, h7 j u hj]
          simpa [Addr.add_lit] using this
      have hrun := run_append_grow_src w t tx ty e i z ht hi hz p n cap xs hold x m news hs hr (by omega) (growslice_fits hr hbytes)
      refine ⟨_, _, hrun, ⟨hlen, _, _, rfl, grownCap_ge _ _ _ _, ?_, .inr ⟨w.heap.size, 0, _, rfl, heap_alloc_new w.drew _, ?_, fun j u hj => ?_⟩⟩, ((Fr.refl _ w).drew).alloc _, fun k hk => .inr (Nat.le_of_eq (Option.some.inj hk))⟩
      · exact grownCap_le_maxLen w (n + m) cap e (by unfold maxLen; omega)
      · have := grownCap_ge w (n + m) cap e
        simp only [Array.size_append, List.size_toArray, size_zeroCells, hzs, hlen, Nat.zero_add, ← Nat.add_mul]
        exact Nat.le_of_eq (by congr 1; omega)
      · have hlt := (List.getElem?_eq_some_iff.1 hj).1
        rw [Nat.zero_add, Array.getElem?_append_left (by simpa using hlt)]
        simpa using hj
    · rcases h4 with h4 | ⟨b, off, cur, rfl, h5, h6, h7⟩
      · omega
      · have hnl : news.length = m * i.size := hs.newsLen
        have hfit : off + n * i.size + news.length ≤ cur.size := by
          have : (n + m) * i.size ≤ cap * i.size := Nat.mul_le_mul_right _ hr
          rw [Nat.add_mul] at this; omega
        have hrun := run_append_room_src w t tx ty e i ht hi b off n cap x m news hs hr (fun j hj => by
            have : off + n * i.size + j < cur.size := by omega
            simp [World.cell?, h5, this]) (fun j hj => by simp [World.frozen?, h5])
        obtain ⟨cur', e1, e2, e3⟩ := setCells_blk b news (off + n * i.size) w cur e (0, 0) h5 hfit
        refine ⟨_, _, hrun, ⟨hlen, _, _, rfl, hr, h3, .inr ⟨b, off, cur', rfl, e1, by rw [e2]; exact h6, fun j u hj => ?_⟩⟩, (setCells_fr b news _ w).mono (fun k _ hk => by rw [show k = b from hk]; rfl), fun k hk => .inl hk⟩
        rw [e3]
        rcases Nat.lt_or_ge j xs.length with c | c
        · rw [List.getElem?_append_left c] at hj
          rw [if_neg (by omega)]; exact h7 j u hj
        · rw [List.getElem?_append_right c] at hj
          have := (List.getElem?_eq_some_iff.1 hj).1
          rw [if_pos (by omega), show off + j - (off + n * i.size) = j - xs.length from by omega]; exact hj
end Go.Proofs.YtdhhccpeikhilaaDoor
