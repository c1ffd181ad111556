/- Slices of the program's own, read and appended to, at whatever place of their row. Rows of bytes of the program's own: append, for the walk. A CRYPTO stream that sends: lengths, what fits. A CRYPTO stream that sends: Write, HasData. -/
import Derived.Test.YtdhhccpeikhilaaDoorS2
import Derived.Deep.Upon
import Derived.Test.YtdhhccpeikhilaaDoorS8
import Derived.Test.YtdhhccpeikhilaaDoorC3
namespace Go.Proofs.YtdhhccpeikhilaaDoor
open Go.RowKit

/-- A slice of n elements whose cells are xs; behind it its row goes on up to its capacity, and may be written. -/
def Own (w : World) (v : Value) (e : TypeId) (size n : Nat) (xs : List Value) : Prop :=
  xs.length = n * size ∧ ∃ p cap, v = .slice p n cap ∧ n ≤ cap ∧ cap ≤ 9223372036854775807 ∧
    (cap = 0 ∨ ∃ b off cur, p = some ⟨b, off, none⟩ ∧ w.heap[b]? = some (.cells cur e (0, 0)) ∧ off + cap * size ≤ cur.size ∧ ∀ (j : Nat) (u : Value), xs[j]? = some u → cur[off + j]? = some u)

theorem setCells_blk (b : Nat) : ∀ (vs : List Value) (o : Nat) (w : World) (cur : Array Value) (e : TypeId) (f : Nat × Nat), w.heap[b]? = some (.cells cur e f) → o + vs.length ≤ cur.size →
    ∃ cur', (w.setCells b o vs).heap[b]? = some (.cells cur' e f) ∧ cur'.size = cur.size ∧ ∀ k, cur'[k]? = if o ≤ k ∧ k < o + vs.length then vs[k - o]? else cur[k]?
  | [], o, w, cur, e, f, h, _ => ⟨cur, h, rfl, fun k => by rw [if_neg (by simp only [List.length_nil]; omega)]⟩
  | v :: r, o, w, cur, e, f, h, hl => by
    have h1 : (w.setCell ⟨b, o, none⟩ v).heap[b]? = some (.cells (cur.setIfInBounds o v) e f) := by
      simp only [World.setCell, Array.getElem?_modify, if_pos, h]; simp
    simp only [List.length_cons] at hl
    obtain ⟨cur', e1, e2, e3⟩ := setCells_blk b r (o + 1) (w.setCell ⟨b, o, none⟩ v) _ e f h1 (by simp; omega)
    refine ⟨cur', e1, by rw [e2]; simp, fun k => ?_⟩
    rw [e3]
    simp only [List.length_cons]
    by_cases c1 : k = o
    · subst c1
      rw [if_neg (by omega), if_pos (by omega), Nat.sub_self, List.getElem?_cons_zero, Array.getElem?_setIfInBounds_self_of_lt (by omega)]
    · by_cases c2 : o ≤ k ∧ k < o + (r.length + 1)
      · rw [if_pos (by omega), if_pos c2, show k - o = (k - (o + 1)) + 1 from by omega, List.getElem?_cons_succ]
      · rw [if_neg (by omega), if_neg c2, Array.getElem?_setIfInBounds_ne (by omega)]
theorem setCells_fr (b : Nat) : ∀ (vs : List Value) (o : Nat) (w : World), Fr (fun k => k = b) w (w.setCells b o vs)
  | [], _, w => Fr.refl _ w
  | v :: r, o, w => ((Fr.refl (fun k => k = b) w).setCell ⟨b, o, none⟩ v (.inl rfl)).trans (setCells_fr b r (o + 1) _)

theorem Own.keep {w w' : World} {v : Value} {e : TypeId} {size n : Nat} {xs : List Value} (h : Own w v e size n xs) (hk : ∀ b, v.ownBlock = some b → w'.heap[b]? = w.heap[b]?) : Own w' v e size n xs := by
  obtain ⟨h1, p, cap, rfl, h2, h3, h4⟩ := h
  refine ⟨h1, p, cap, rfl, h2, h3, h4.imp id ?_⟩
  rintro ⟨b, off, cur, rfl, h5, h6⟩
  exact ⟨b, off, cur, rfl, (hk b rfl).trans h5, h6⟩

theorem Own.nil (w : World) (e : TypeId) (size : Nat) : Own w (.slice none 0 0) e size 0 [] := ⟨by simp, none, 0, rfl, Nat.le_refl _, by omega, .inl rfl⟩

theorem run_appendOwn {P : Program} {w : World} {v : Value} {e : TypeId} {size n : Nat} {xs : List Value} (h : Own w v e size n xs) (t tx ty : TypeId) (i : TypeInfo) (z : Value) (bytes : Nat) (ht : P.underlying t = some (.slice e)) (hi : P.info? e = some i) (hz : i.zero = some z)
    (hsize : i.size = size) (hby : i.bytes = bytes) (hzs : z.cells.size = size) (x : Value) (m : Nat) (news : List Value) (hs : Src P size tx x m news w) (h63 : n + m ≤ 1000000000) (hbytes : (n + m) * bytes ≤ 140737488355328) (hpos : 0 < size) :
    ∃ v' w', (Builtin.append_ #[t, tx] ty #[v, x]).run P w = .ok v' w' ∧ Own w' v' e size (n + m) (xs ++ news) ∧ Fr (fun k => v.ownBlock = some k) w w' ∧ (∀ k, v'.ownBlock = some k → v.ownBlock = some k ∨ w.heap.size ≤ k) := by
  subst hsize
  subst hby
  obtain ⟨h1, p, cap, rfl, h2, h3, h4⟩ := h
  rcases Nat.eq_zero_or_pos m with hm | hm
  · subst hm
    have hnews : news = [] := List.eq_nil_of_length_eq_zero (by rw [hs.newsLen, Nat.zero_mul])
    subst hnews
    refine ⟨_, w, run_append_nothing w t tx ty e i ht hi p n cap h2 x hs, ?_, Fr.refl _ _, fun k hk => .inl hk⟩
    rw [List.append_nil, Nat.add_zero]
    exact ⟨h1, p, cap, rfl, h2, h3, h4⟩
  · have hlen : (xs ++ news).length = (n + m) * i.size := by rw [List.length_append, h1, hs.newsLen, Nat.add_mul]
    rcases Nat.lt_or_ge cap (n + m) with hr | hr
    · have hold : (Builtin.firstCells i.size n (.slice p n cap)).run P w.drew = .ok xs.toArray w.drew := by
        rcases h4 with h4 | ⟨b, off, cur, rfl, h5, h6, h7⟩
        · subst h4
          have : n = 0 := by omega
          subst this
          have : xs = [] := List.eq_nil_of_length_eq_zero (by rw [h1, Nat.zero_mul])
          subst this
          cases p with
          | none => exact run_firstCells_none _ _ _ _ _
          | some a => exact run_firstCells_some _ _ _ a _ _ [] (by simp) (fun j v hj => by simp at hj)
        · refine run_firstCells_some _ _ _ _ _ _ xs h1 (fun j u hj => ?_)
          have : w.cell? ⟨b, off + j, none⟩ = some u := by simp [World.cell?, h5, h7 j u hj]
          simpa [Addr.add_lit] using this
      have hrun := run_append_grow_src w t tx ty e i z ht hi hz p n cap xs hold x m news hs hr (by omega) (growslice_fits hr hbytes)
      refine ⟨_, _, hrun, ⟨hlen, _, _, rfl, grownCap_ge _ _ _ _, ?_, .inr ⟨w.heap.size, 0, _, rfl, heap_alloc_new w.drew _, ?_, fun j u hj => ?_⟩⟩, ((Fr.refl _ w).drew).alloc _, fun k hk => .inr (Nat.le_of_eq (Option.some.inj hk))⟩
      · exact grownCap_le_maxLen w (n + m) cap e (by unfold maxLen; omega)
      · have := grownCap_ge w (n + m) cap e
        simp only [Array.size_append, List.size_toArray, size_zeroCells, hzs, hlen, Nat.zero_add, ← Nat.add_mul]
        exact Nat.le_of_eq (by congr 1; omega)
      · have hlt := (List.getElem?_eq_some_iff.1 hj).1
        rw [Nat.zero_add, Array.getElem?_append_left (by simpa using hlt)]
        simpa using hj
    · rcases h4 with h4 | ⟨b, off, cur, rfl, h5, h6, h7⟩
      · omega
      · have hnl : news.length = m * i.size := hs.newsLen
        have hfit : off + n * i.size + news.length ≤ cur.size := by
          have : (n + m) * i.size ≤ cap * i.size := Nat.mul_le_mul_right _ hr
          rw [Nat.add_mul] at this; omega
        have hrun := run_append_room_src w t tx ty e i ht hi b off n cap x m news hs hr (fun j hj => by
            have : off + n * i.size + j < cur.size := by omega
            simp [World.cell?, h5, this]) (fun j hj => by simp [World.frozen?, h5])
        obtain ⟨cur', e1, e2, e3⟩ := setCells_blk b news (off + n * i.size) w cur e (0, 0) h5 hfit
        refine ⟨_, _, hrun, ⟨hlen, _, _, rfl, hr, h3, .inr ⟨b, off, cur', rfl, e1, by rw [e2]; exact h6, fun j u hj => ?_⟩⟩, (setCells_fr b news _ w).mono (fun k _ hk => by rw [show k = b from hk]; rfl), fun k hk => .inl hk⟩
        rw [e3]
        rcases Nat.lt_or_ge j xs.length with c | c
        · rw [List.getElem?_append_left c] at hj
          rw [if_neg (by omega)]; exact h7 j u hj
        · rw [List.getElem?_append_right c] at hj
          have := (List.getElem?_eq_some_iff.1 hj).1
          rw [if_pos (by omega), show off + j - (off + n * i.size) = j - xs.length from by omega]; exact hj
end Go.Proofs.YtdhhccpeikhilaaDoor
namespace Go.Proofs.YtdhhccpeikhilaaDoor
open Go.RowKit

abbrev OwnB (w : World) (v : Value) (l : List UInt8) : Prop := Own w v 5 1 l.length (l.map u8)

theorem Own.rd {w : World} {v : Value} {l : List UInt8} (h : OwnB w v l) : Rd w v l := by
  obtain ⟨_, p, cap, rfl, h2, h3, h4⟩ := h
  refine ⟨p, cap, rfl, h2, h3, fun hne => ?_⟩
  rcases h4 with h4 | ⟨b, off, cur, rfl, h5, h6, h7⟩
  · exact (hne (List.eq_nil_of_length_eq_zero (by omega))).elim
  · refine ⟨b, off, rfl, ⟨cur, (0, 0), h5⟩, fun i x hx => ?_⟩
    have := h7 i (u8 x) (by rw [List.getElem?_map, hx]; rfl)
    simp [World.cell?, h5, this]

theorem Rd.src {w : World} {v : Value} {l : List UInt8} (h : Rd w v l) : Src Tryd.prog 1 26 v l.length (l.map u8) w := by
  obtain ⟨p, c, rfl, h1, h2, h3⟩ := h
  have one : ∀ u ∈ l.map u8, u.oneCell' = true := fun u hu => by
    obtain ⟨x, _, rfl⟩ := List.mem_map.1 hu; rfl
  cases l with
  | nil =>
    cases p with
    | none => exact Src.ofNil w Tryd.underlying26 c
    | some a => exact Src.ofSlice w Tryd.underlying26 a 0 c [] (by simp) (fun j u hj => by simp at hj) (fun u hu => by cases hu)
  | cons x r =>
    obtain ⟨b, o, rfl, hr⟩ := h3 (by simp)
    refine Src.ofSlice w Tryd.underlying26 _ _ c _ (by simp) (fun j u hj => ?_) one
    rw [List.getElem?_map] at hj
    obtain ⟨y, hy, rfl⟩ := Option.map_eq_some_iff.1 hj
    have := hr.2 j y hy
    simpa [Addr.add_lit] using this

theorem appendB {w : World} {v x : Value} {l m : List UInt8} (h : OwnB w v l) (hr : Rd w x m) (hlen : l.length + m.length ≤ 1000000) (ty : TypeId) :
    ∃ v' w', (Builtin.append_ #[26, 26] ty #[v, x]).run Tryd.prog w = .ok v' w' ∧ OwnB w' v' (l ++ m) ∧ Fr (fun k => v.ownBlock = some k) w w' ∧ (∀ k, v'.ownBlock = some k → v.ownBlock = some k ∨ w.heap.size ≤ k) := by
  obtain ⟨i, hi, hzz⟩ := Option.map_eq_some_iff.1 info5
  simp only [Prod.mk.injEq] at hzz
  obtain ⟨hz, hs, hb⟩ := hzz
  have := run_appendOwn (P := Tryd.prog) h 26 26 ty i (.int .u8 0) 1 Tryd.underlying26 hi hz hs hb rfl x m.length (m.map u8) hr.src (by omega) (by omega) (by omega)
  rw [← List.map_append, ← List.length_append] at this
  exact this

/-- 'append(s, x...)', for the walk. -/
theorem wpList_appendB (w : World) {ops : Array Oper} {rest : List Oper} {o : Oper} {a : Act} {Q : Exit → Act → World → Prop} (hgd : o.guard = none) (s x : Operand)
    (ho : o.op = .call { callee := .builtin .append, args := #[s, x], argTypes := #[26, 26] }) (sv xv : Value) (l m : List UInt8) (hown : OwnB w sv l) (hr : Rd w xv m) (hlen : l.length + m.length ≤ 1000000)
    (hs : a.eval s = sv) (hx : a.eval x = xv)
    (h : ∀ v' w', OwnB w' v' (l ++ m) → Fr (fun k => sv.ownBlock = some k) w w' → (∀ k, v'.ownBlock = some k → sv.ownBlock = some k ∨ w.heap.size ≤ k) → wpList Tryd.prog ops Q rest (a.put o.dst v') w') : wpList Tryd.prog ops Q (o :: rest) a w := by
  refine wpList_plain hgd fun K hK => ?_
  obtain ⟨v', w', hrun, h1, h2, h3⟩ := appendB hown hr hlen o.type
  unfold Oper.wp
  simp [execOp, ho, resolve, invoke, builtin, hs, hx, hrun, Result.andThen]
  exact hK _ _ (h v' w' h1 h2 h3)

/-- .. as one step of a region that draws. -/
theorem step_appendB {w : World} {ops : Array Oper} {o : Oper} {a : Act} {K : Act → World → Prop} {Q : Exit → Act → World → Prop} {E : Prop} (hgd : o.guard = none) (s x : Operand)
    (ho : o.op = .call { callee := .builtin .append, args := #[s, x], argTypes := #[26, 26] }) (sv xv : Value) (l m : List UInt8) (hown : OwnB w sv l) (hr : Rd w xv m) (hlen : l.length + m.length ≤ 1000000)
    (hs : a.eval s = sv) (hx : a.eval x = xv)
    (h : ∀ v' w', OwnB w' v' (l ++ m) → Fr (fun k => sv.ownBlock = some k) w w' → (∀ k, v'.ownBlock = some k → sv.ownBlock = some k ∨ w.heap.size ≤ k) → K (a.put o.dst v') w') :
    if Region.wanted o (yielded ops a.tmps) = true then Oper.wp Tryd.prog o a w K Q else E := by
  have hw : Region.wanted o (yielded ops a.tmps) = true := by simp [Region.wanted, hgd]
  rw [if_pos hw]
  obtain ⟨v', w', hrun, h1, h2, h3⟩ := appendB hown hr hlen o.type
  unfold Oper.wp
  simp [execOp, ho, resolve, invoke, builtin, hs, hx, hrun, Result.andThen]
  exact h v' w' h1 h2 h3
end Go.Proofs.YtdhhccpeikhilaaDoor
namespace Go.Proofs.YtdhhccpeikhilaaDoor
open Go.RowKit

/-- How many bytes a number of QUIC has. -/
def vlen (n : Nat) : Nat := if n ≤ 63 then 1 else if n ≤ 16383 then 2 else if n ≤ 1073741823 then 4 else 8

theorem len_any (w : World) (n : Nat) (h : n ≤ 4611686018427387903) :
    Calls Tryd.prog 62 #[.int .u64 (n : Int)] w fun e w' => e = .returned (.int .i64 (vlen n : Int)) ∧ w = w' := by
  go_enter Tryd.func62, Tryd.ntmps62
  go_wp2
  all_goals (go_ret; refine ⟨ret_int ?_, rfl⟩; unfold vlen; repeat (first | rw [if_pos (by omega)] | rw [if_neg (by omega)]))
  all_goals rfl

theorem len_int (w : World) (z : Int) (n : Nat) (hz : z = (n : Int)) (h : n ≤ 4611686018427387903) :
    Calls Tryd.prog 62 #[.int .u64 z] w fun e w' => e = .returned (.int .i64 (vlen n : Int)) ∧ w = w' := by
  subst hz; exact len_any w n h

/-- How many bytes of data a CRYPTO frame at offset o has room for, in m bytes. -/
def room (o m : Nat) : Nat := if m < 2 + vlen o then 0 else if m - (2 + vlen o) ≤ 63 then m - (2 + vlen o) else m - (2 + vlen o) - 1

set_option maxRecDepth 100000 in
set_option maxHeartbeats 1000000 in
theorem maxDataLen_any (w : World) (bf o m : Nat) (d : Value) (hf : Blk w bf #[.int .i64 (o : Int), d] 69) (ho : o ≤ 1000000000) (hm : m ≤ 1000000) :
    Calls Tryd.prog 53 #[pt bf, .int .i64 (m : Int)] w fun e w' => e = .returned (.int .i64 (room o m : Int)) ∧ w = w' := by
  have f0 : w.cell? ⟨bf, 0, none⟩ = some (.int .i64 (o : Int)) := hf.cellAt 0 _ rfl
  have hlt := hf.lt
  have hl1 := len_any w o (by omega)
  have hv : vlen o ≤ 8 := by unfold vlen; repeat' split
                             all_goals omega
  by_cases hc : m < 2 + vlen o
  · have hr : room o m = 0 := by unfold room; rw [if_pos hc]
    rw [hr]
    clear hr
    generalize vlen o = vo at *
    go_enter Tryd.func53, Tryd.ntmps53
    go_wp2_with (go_at_call 62; refine hl1.mono ?_; rintro e w' ⟨rfl, rfl⟩)
    go_ret
    exact ⟨rfl, rfl⟩
  · have hr : room o m = if m - (2 + vlen o) ≤ 63 then m - (2 + vlen o) else m - (2 + vlen o) - 1 := by unfold room; rw [if_neg hc]
    rw [hr]
    have hxm : m - (2 + vlen o) ≤ 1000000 := by omega
    have hv2 : (m - (2 + vlen o) ≤ 63 ∧ vlen (m - (2 + vlen o)) = 1) ∨ (¬ (m - (2 + vlen o) ≤ 63) ∧ (vlen (m - (2 + vlen o)) = 2 ∨ vlen (m - (2 + vlen o)) = 4)) := by
      clear hr
      generalize m - (2 + vlen o) = x at hxm
      unfold vlen; repeat' split
      all_goals omega
    clear hr
    generalize hvo : vlen o = vo at *
    clear hvo
    obtain ⟨x, hx⟩ : ∃ x, m = 2 + vo + x := ⟨m - (2 + vo), by omega⟩
    subst hx
    rw [Nat.add_sub_cancel_left] at *
    rcases hv2 with ⟨h1, h2⟩ | ⟨h1, h2⟩
    · rw [if_pos h1]
      go_enter Tryd.func53, Tryd.ntmps53
      go_wp2_with fail
      refine hl1.mono ?_
      rintro e w' ⟨rfl, rfl⟩
      go_wp2_with fail
      refine (len_int w _ x (by omega) (by omega)).mono ?_
      rw [h2]
      rintro e w' ⟨rfl, rfl⟩
      go_wp2_with fail
      go_ret
      exact ⟨ret_int (by omega), rfl⟩
    · rw [if_neg h1]
      have h3 : ((vlen x : Nat) : Int) ≠ 1 := by omega
      go_enter Tryd.func53, Tryd.ntmps53
      go_wp2_with fail
      refine hl1.mono ?_
      rintro e w' ⟨rfl, rfl⟩
      go_wp2_with fail
      refine (len_int w _ x (by omega) (by omega)).mono ?_
      rintro e w' ⟨rfl, rfl⟩
      go_wp2_with fail
      go_ret
      exact ⟨ret_int (by omega), rfl⟩
end Go.Proofs.YtdhhccpeikhilaaDoor
namespace Go.Proofs.YtdhhccpeikhilaaDoor
open Go.RowKit

theorem Own.block {w : World} {v : Value} {e : TypeId} {size n : Nat} {xs : List Value} (h : Own w v e size n xs) (hn : 0 < n) : ∃ b off cur, v.ownBlock = some b ∧ w.heap[b]? = some (.cells cur e (0, 0)) ∧ off + n * size ≤ cur.size := by
  obtain ⟨_, p, cap, rfl, h2, _, h4⟩ := h
  rcases h4 with h4 | ⟨b, off, cur, rfl, h5, h6, _⟩
  · omega
  · exact ⟨b, off, cur, rfl, h5, by have := Nat.mul_le_mul_right size h2; omega⟩

theorem has_plain (w : World) (b r bL rp hi wo : Nat) (fin : Bool) (wb : Value) (l : List UInt8) (hb : Blk w b (cryC r bL rp hi fin wo wb) 99) (ho : OwnB w wb l) :
    Calls Tryd.prog 44 #[pt b] w fun e w' => e = .returned (.bool (decide (0 < l.length))) ∧ w = w' := by
  obtain ⟨_, p, cap, rfl, _⟩ := ho
  have c6 : w.cell? ⟨b, 6, none⟩ = some (.slice p l.length cap) := hb.cellAt 6 _ rfl
  have hlt := hb.lt
  go_enter Tryd.func44, Tryd.ntmps44
  go_wp2_with fail
  go_ret
  exact ⟨ret_bool (by simp), rfl⟩

set_option maxRecDepth 100000 in
theorem write_plain (w : World) (b r bL rp hi wo : Nat) (fin : Bool) (wb dv : Value) (l m : List UInt8) (hb : Blk w b (cryC r bL rp hi fin wo wb) 99) (ho : OwnB w wb l) (hd : Rd w dv m) (hlen : l.length + m.length ≤ 1000000) (hne : ∀ k, wb.ownBlock = some k → k ≠ b) :
    Calls Tryd.prog 40 #[pt b, dv] w fun e w' => e = .returned (.tuple #[.int .i64 (m.length : Int), .nilIface]) ∧ ∃ wb', Blk w' b (cryC r bL rp hi fin wo wb') 99 ∧ OwnB w' wb' (l ++ m) ∧ Fr (fun k => k = b ∨ wb.ownBlock = some k) w w' ∧ (∀ k, wb'.ownBlock = some k → wb.ownBlock = some k ∨ w.heap.size ≤ k) := by
  have c6 : w.cell? ⟨b, 6, none⟩ = some wb := hb.cellAt 6 _ rfl
  have hlt := hb.lt
  obtain ⟨pd, cd, rfl, _⟩ := id hd
  go_enter Tryd.func40, Tryd.ntmps40
  go_wp2_with (at_builtin; refine wpList_appendB _ rfl _ _ rfl wb _ l m ho hd hlen rfl rfl ?_; intro v' w1 ho1 hF1 hfr1; obtain ⟨_, pv, cv, rfl, _⟩ := id ho1; have hb1 := hF1.blk hb (fun e => hne _ e rfl); have c61 : w1.cell? ⟨b, 6, none⟩ = some wb := hb1.cellAt 6 _ rfl; have hlt1 := hb1.lt; have hf1 := hb1.free)
  go_ret2
  have e : l.length + m.length = (l ++ m).length := List.length_append.symm
  rw [e]
  have hb2 := hb1.set 6 (.slice pv (l ++ m).length cv)
  have hF2 : Fr (fun k => k = b ∨ wb.ownBlock = some k) w (w1.setCell ⟨b, 6, none⟩ (.slice pv (l ++ m).length cv)) := (hF1.mono (fun k _ hk => .inr hk)).setCell _ _ (.inl (.inl rfl))
  refine ⟨rfl, _, hb2, ho1.keep (fun k hk => Below.heap_setCell _ _ _ _ (fun e => ?_)), hF2, hfr1⟩
  have e : k = b := e
  subst e
  rcases hfr1 _ hk with h | h
  · exact hne _ h rfl
  · omega
end Go.Proofs.YtdhhccpeikhilaaDoor
