/- General words: blocks, what a walk leaves as it was, bytes, slices of the program's own, append, rows of structs. Carried over from the CY texts. -/
import Derived.Test.YtgdkbflhgcchfaaProg
import Derived.WalkKit
import Derived.WalkSpells
import Derived.WalkLawsBesides
import Derived.Deep.Upon
import Derived.Laws.IdiomStrings
import Derived.Laws.MakeOwn
import Derived.Lib.Hide
import Derived.Deep.OwnRows
import Derived.Laws.OwnMore
import Derived.BigQuiet
import Derived.IntWalk
import Derived.Deep.RegionHeld3
import Derived.StillTailTactics
import Derived.Deep.LoopGhost
import Derived.Deep.CutRange
import Derived.Deep.CutBlock
namespace Go.Proofs.Ytgdkbflhgcchfaa
open Go.RowKit

theorem ret_int {k : IntKind} {a b : Int} (h : a = b) : Ending.returned (.int k a) = .returned (.int k b) := by rw [h]
theorem ret_bool {a b : Bool} (h : a = b) : Ending.returned (.bool a) = .returned (.bool b) := by rw [h]

/-- Block b holds the cells c, of type T, none frozen. -/
def Blk (w : World) (b : Nat) (c : Array Value) (T : TypeId) : Prop := w.heap[b]? = some (.cells c T (0, 0))

section
variable {w w' : World} {b : Nat} {c c' : Array Value} {T T' : TypeId}

theorem Blk.cell (h : Blk w b c T) (i : Nat) : w.cell? ⟨b, i, none⟩ = c[i]? := by
  unfold Blk at h; simp [World.cell?, h]
theorem Blk.cellAt (h : Blk w b c T) (i : Nat) (v : Value) (hv : c[i]? = some v) : w.cell? ⟨b, i, none⟩ = some v := (h.cell i).trans hv
theorem Blk.free (h : Blk w b c T) (i : Nat) : w.frozen? ⟨b, i, none⟩ = false := by
  unfold Blk at h; simp [World.frozen?, h]
theorem Blk.lt (h : Blk w b c T) : b < w.heap.size := (Array.getElem?_eq_some_iff.1 h).1
theorem Blk.same (h : Blk w b c T) (e : w'.heap[b]? = w.heap[b]?) : Blk w' b c T := e.trans h
theorem Blk.drew (h : Blk w b c T) : Blk w.drew b c T := h
theorem Blk.alloc (h : Blk w b c T) (o : Obj) : Blk (w.alloc o) b c T := h.same (Below.heap_alloc _ _ _ h.lt)
theorem Blk.new (w : World) (c : Array Value) (T : TypeId) : Blk (w.alloc (.cells c T)) w.heap.size c T := by
  unfold Blk; exact heap_alloc_new w _
theorem Blk.newAt (w : World) (c : Array Value) (T : TypeId) (n : Nat) (hn : n = w.heap.size) : Blk (w.alloc (.cells c T)) n c T := by
  subst hn; exact Blk.new w c T
theorem Blk.set (h : Blk w b c T) (i : Nat) (v : Value) : Blk (w.setCell ⟨b, i, none⟩ v) b (c.setIfInBounds i v) T := by
  unfold Blk at *; simp only [World.setCell, Array.getElem?_modify, if_pos, h]; simp
theorem Blk.setOther (h : Blk w b c T) (p : Addr) (v : Value) (hne : b ≠ p.block) : Blk (w.setCell p v) b c T :=
  h.same (Below.heap_setCell _ _ _ _ hne)
theorem Blk.unique (h : Blk w b c T) (h' : Blk w b c' T') : c = c' ∧ T = T' := by
  have e := Option.some.inj (h.symm.trans h')
  injection e with h1 h2 h3
  exact ⟨h1, h2⟩
theorem Blk.ne_of_type {b' : Nat} (h : Blk w b c T) (h' : Blk w b' c' T') (hne : T ≠ T') : b ≠ b' := fun e => by
  subst e; exact hne (h.unique h').2
theorem Blk.grown {row : Option Nat} (h : Blk w b c T) (hg : w.grownBy w' row) (hne : some b ≠ row) : Blk w' b c T := h.same (hg.block b h.lt hne)
end

/-- WHAT A CALL LEAVES OF OLD MEMORY: block k is as it was, if it lies below B, or holds cells of a type that is not in the list Ts, or of which the number is not in the list ks .. -/
structure Fr (S : Nat → Prop) (w w' : World) : Prop where
  os : w'.os = w.os
  tape : w'.tape = w.tape
  output : w'.output = w.output
  size : w.heap.size ≤ w'.heap.size
  block : ∀ k, k < w.heap.size → ¬ S k → w'.heap[k]? = w.heap[k]?

section
variable {S S' : Nat → Prop} {w w' w'' : World}
theorem Fr.refl (S : Nat → Prop) (w : World) : Fr S w w := ⟨rfl, rfl, rfl, Nat.le_refl _, fun _ _ _ => rfl⟩
theorem Fr.trans (h : Fr S w w') (h' : Fr S w' w'') : Fr S w w'' :=
  ⟨h'.os.trans h.os, h'.tape.trans h.tape, h'.output.trans h.output, Nat.le_trans h.size h'.size,
    fun k hk hs => (h'.block k (Nat.lt_of_lt_of_le hk h.size) hs).trans (h.block k hk hs)⟩
theorem Fr.mono (h : Fr S w w') (hS : ∀ k, k < w.heap.size → S k → S' k) : Fr S' w w' :=
  ⟨h.os, h.tape, h.output, h.size, fun k hk hs => h.block k hk (fun e => hs (hS k hk e))⟩
theorem Fr.drew (h : Fr S w w') : Fr S w w'.drew := ⟨h.os, h.tape, h.output, h.size, h.block⟩
theorem Fr.alloc (h : Fr S w w') (o : Obj) : Fr S w (w'.alloc o) :=
  ⟨h.os, h.tape, h.output, by have := h.size; simp; omega,
    fun k hk hs => (Below.heap_alloc _ _ _ (Nat.lt_of_lt_of_le hk h.size)).trans (h.block k hk hs)⟩
theorem Fr.setCell (h : Fr S w w') (p : Addr) (v : Value) (hp : S p.block ∨ w.heap.size ≤ p.block) : Fr S w (w'.setCell p v) :=
  ⟨h.os, h.tape, h.output, by have := h.size; simp; omega,
    fun k hk hs => (Below.heap_setCell _ _ _ _ (fun e => by rcases hp with hp | hp; exact hs (e ▸ hp); omega)).trans (h.block k hk hs)⟩
theorem Fr.grown {row : Option Nat} (h : Fr S w w') (hg : w'.grownBy w'' row) (hr : ∀ k, row = some k → S k ∨ w.heap.size ≤ k) : Fr S w w'' :=
  ⟨hg.os.trans h.os, hg.tape.trans h.tape, hg.output.trans h.output, Nat.le_trans h.size hg.size,
    fun k hk hs => (hg.block k (Nat.lt_of_lt_of_le hk h.size) (fun e => by rcases hr k e.symm with h1 | h1; exact hs h1; omega)).trans (h.block k hk hs)⟩
theorem Fr.blk {b : Nat} {c : Array Value} {T : TypeId} (h : Fr S w w') (hb : Blk w b c T) (hs : ¬ S b) : Blk w' b c T := hb.same (h.block b hb.lt hs)
theorem Fr.below {B : Nat} (h : Fr S w w') (hB : B ≤ w.heap.size) (hS : ∀ k, S k → B ≤ k) : Below B w w' :=
  ⟨h.os, h.tape, h.output, h.size, fun k hk => h.block k (by omega) (fun e => by have := hS k e; omega)⟩
theorem Fr.of_below {B : Nat} (h : Below B w w') (hS : ∀ k, B ≤ k → k < w.heap.size → S k) : Fr S w w' :=
  ⟨h.os, h.tape, h.output, h.size, fun k hk hs => h.block k (Nat.lt_of_not_le fun e => hs (hS k e hk))⟩
end

/-- Nothing old is written. -/
abbrev Grow (w w' : World) : Prop := Fr (fun _ => False) w w'
theorem Grow.to {S : Nat → Prop} {w w' : World} (h : Grow w w') : Fr S w w' := h.mono (fun _ _ e => e.elim)

/-- A byte in a cell. -/
abbrev u8 (c : UInt8) : Value := .int .u8 (c.toNat : Int)
/-- Block b is a row of bytes. -/
def BytesBlk (w : World) (b : Nat) : Prop := ∃ (c : Array Value) (f : Nat × Nat), w.heap[b]? = some (Obj.cells c 5 f)
/-- Rows of bytes are as they were. -/
def KeepB (w w' : World) : Prop := ∀ b : Nat, BytesBlk w b → w'.heap[b]? = w.heap[b]?
theorem BytesBlk.lt {w : World} {b : Nat} (h : BytesBlk w b) : b < w.heap.size := by
  obtain ⟨c, f, h⟩ := h; exact (Array.getElem?_eq_some_iff.1 h).1
theorem BytesBlk.same {w w' : World} {b : Nat} (h : BytesBlk w b) (e : w'.heap[b]? = w.heap[b]?) : BytesBlk w' b := by
  obtain ⟨c, f, h⟩ := h; exact ⟨c, f, e.trans h⟩
theorem KeepB.refl (w : World) : KeepB w w := fun _ _ => rfl
theorem KeepB.trans {w w' w'' : World} (h : KeepB w w') (h' : KeepB w' w'') : KeepB w w'' := fun b hb => (h' b (hb.same (h b hb))).trans (h b hb)
/-- From offset o on block b holds the bytes l. -/
def RdAt (w : World) (b o : Nat) (l : List UInt8) : Prop := BytesBlk w b ∧ ∀ (i : Nat) (x : UInt8), l[i]? = some x → w.cell? ⟨b, o + i, none⟩ = some (u8 x)
/-- A slice value that reads as l. -/
def Rd (w : World) (v : Value) (l : List UInt8) : Prop :=
  ∃ p c, v = .slice p l.length c ∧ l.length ≤ c ∧ c ≤ 9223372036854775807 ∧ (l ≠ [] → ∃ b o, p = some ⟨b, o, none⟩ ∧ RdAt w b o l)
section
variable {w w' : World} {l : List UInt8}
theorem RdAt.same {b o : Nat} (h : RdAt w b o l) (e : w'.heap[b]? = w.heap[b]?) : RdAt w' b o l := by
  obtain ⟨h, h2⟩ := h
  exact ⟨h.same e, fun i x hx => (World.cell?_of_block (w := w) (a := ⟨b, o + i, none⟩) e).trans (h2 i x hx)⟩
/-- A reading stays where blocks of bytes stay. -/
theorem Rd.keep {v : Value} (h : Rd w v l) (hk : KeepB w w') : Rd w' v l := by
  obtain ⟨p, c, rfl, h1, h2, h3⟩ := h
  refine ⟨p, c, rfl, h1, h2, fun hne => ?_⟩
  obtain ⟨b, o, rfl, hr⟩ := h3 hne
  exact ⟨b, o, rfl, hr.same (hk b hr.1)⟩
end
/-- Old memory but for block r, and whatever is no bytes' block, is as it was. -/
theorem Fr.bytes {S : Nat → Prop} {w w' : World} (h : Fr S w w') (hS : ∀ k, S k → ¬ BytesBlk w k) : KeepB w w' :=
  fun b hb => h.block b hb.lt (fun e => hS b e hb)
theorem Fr.one {w w' : World} {r : Nat} (h : w.grownBy w' (some r)) : Fr (fun i => i = r) w w' :=
  ⟨h.os, h.tape, h.output, h.size, fun k hk hs => h.block k hk (fun e => hs (Option.some.inj e))⟩
theorem Blk.noBytes {w : World} {b : Nat} {c : Array Value} {T : TypeId} (h : Blk w b c T) (hT : T ≠ 5) : ¬ BytesBlk w b := fun hb => by
  obtain ⟨c', f, h2⟩ := hb
  have := Option.some.inj (h.symm.trans h2)
  injection this with _ e
  exact hT e
theorem flip_world {P : Program} {f : FuncId} {args : Array Value} {w : World} {v : Value} (h : Calls P f args w fun e w' => e = .returned v ∧ w = w') : Calls P f args w fun e w' => e = .returned v ∧ w' = w :=
  h.mono fun _ _ ⟨a, b⟩ => ⟨a, b.symm⟩
theorem slice31 (w : World) : (sizeOf 5).run Try.prog w = .ok 1 w := by kernel_rfl
theorem run_sliceTo (w : World) (p : Option Addr) (n c k : Nat) (h : k ≤ c) : (Instr.slice 31 (.slice p n c) none (some (.int .i64 (k : Int))) none).run Try.prog w = .ok (.slice p k c) w := by
  cases p <;> simp [Instr.slice, run_underlying Try.underlying31, Instr.sliceBounds, Instr.sliceBound, asIntOf, Addr.add] <;> (intro; omega)
theorem run_sliceFrom (w : World) (p : Option Addr) (n c k : Nat) (h : k ≤ n) : (Instr.slice 31 (.slice p n c) (some (.int .i64 (k : Int))) none none).run Try.prog w = .ok (.slice (if c = k then p else p.map (·.add k)) (n - k) (c - k)) w := by
  cases p <;> simp [Instr.slice, run_underlying Try.underlying31, Instr.sliceBounds, Instr.sliceBound, asIntOf] <;> (intro; omega)
theorem Rd.take {w : World} {p : Option Addr} {n c : Nat} {l : List UInt8} (h : Rd w (.slice p n c) l) (k : Nat) (hk : k ≤ l.length) : Rd w (.slice p k c) (l.take k) := by
  obtain ⟨p', c', e, h1, h2, h3⟩ := h
  injection e with e1 e2 e3
  subst e1; subst e2; subst e3
  refine ⟨p, c, by rw [List.length_take, Nat.min_eq_left hk], by rw [List.length_take]; omega, h2, fun hne => ?_⟩
  obtain ⟨b, o, rfl, hr⟩ := h3 (fun e => hne (by simp [e]))
  refine ⟨b, o, rfl, hr.1, fun i x hx => hr.2 i x ?_⟩
  rw [List.getElem?_take] at hx
  split at hx
  · exact hx
  · cases hx
theorem Rd.drop {w : World} {p : Option Addr} {n c : Nat} {l : List UInt8} (h : Rd w (.slice p n c) l) (k : Nat) (hk : k ≤ l.length) : Rd w (.slice (if c = k then p else p.map (·.add k)) (n - k) (c - k)) (l.drop k) := by
  obtain ⟨p', c', e, h1, h2, h3⟩ := h
  injection e with e1 e2 e3
  subst e1; subst e2; subst e3
  refine ⟨_, _, by rw [List.length_drop], by rw [List.length_drop]; omega, by omega, fun hne => ?_⟩
  have hlt : k < l.length := by
    rcases Nat.lt_or_ge k l.length with h | h
    · exact h
    · exact (hne (List.drop_eq_nil_of_le h)).elim
  obtain ⟨b, o, rfl, hr⟩ := h3 (fun e => by rw [e] at hlt; simp at hlt)
  rw [if_neg (by omega)]
  refine ⟨b, o + k, ?_, hr.1, fun i x hx => ?_⟩
  · simp only [Option.map_some, Addr.add]; split
    · subst_vars; rfl
    · rfl
  · rw [List.getElem?_drop] at hx
    have := hr.2 (k + i) x hx
    rwa [show o + k + i = o + (k + i) from by omega]
theorem info5 : (Try.prog.info? 5).map (fun i => (i.zero, i.size, i.bytes)) = some (some (.int .u8 0), 1, 1) := by kernel_rfl
theorem drewN_grow (w : World) (n : Nat) : Grow w (w.drewN n) := ⟨rfl, rfl, rfl, Nat.le_refl _, fun _ _ _ => rfl⟩

/-- A slice of n elements whose cells are xs; behind it its row goes on up to its capacity, and may be written. -/
def Own (w : World) (v : Value) (e : TypeId) (size n : Nat) (xs : List Value) : Prop :=
  xs.length = n * size ∧ ∃ p cap, v = .slice p n cap ∧ n ≤ cap ∧ cap ≤ 9223372036854775807 ∧
    (cap = 0 ∨ ∃ b off cur, p = some ⟨b, off, none⟩ ∧ w.heap[b]? = some (.cells cur e (0, 0)) ∧ off + cap * size ≤ cur.size ∧ ∀ (j : Nat) (u : Value), xs[j]? = some u → cur[off + j]? = some u)

theorem setCells_blk (b : Nat) : ∀ (vs : List Value) (o : Nat) (w : World) (cur : Array Value) (e : TypeId) (f : Nat × Nat), w.heap[b]? = some (.cells cur e f) → o + vs.length ≤ cur.size →
    ∃ cur', (w.setCells b o vs).heap[b]? = some (.cells cur' e f) ∧ cur'.size = cur.size ∧ ∀ k, cur'[k]? = if o ≤ k ∧ k < o + vs.length then vs[k - o]? else cur[k]?
  | [], o, w, cur, e, f, h, _ => ⟨cur, h, rfl, fun k => by rw [if_neg (by simp only [List.length_nil]; omega)]⟩
  | v :: r, o, w, cur, e, f, h, hl => by
    have h1 : (w.setCell ⟨b, o, none⟩ v).heap[b]? = some (.cells (cur.setIfInBounds o v) e f) := by
      simp only [World.setCell, Array.getElem?_modify, if_pos, h]; simp
    simp only [List.length_cons] at hl
    obtain ⟨cur', e1, e2, e3⟩ := setCells_blk b r (o + 1) (w.setCell ⟨b, o, none⟩ v) _ e f h1 (by simp; omega)
    refine ⟨cur', e1, by rw [e2]; simp, fun k => ?_⟩
    rw [e3]
    simp only [List.length_cons]
    by_cases c1 : k = o
    · subst c1
      rw [if_neg (by omega), if_pos (by omega), Nat.sub_self, List.getElem?_cons_zero, Array.getElem?_setIfInBounds_self_of_lt (by omega)]
    · by_cases c2 : o ≤ k ∧ k < o + (r.length + 1)
      · rw [if_pos (by omega), if_pos c2, show k - o = (k - (o + 1)) + 1 from by omega, List.getElem?_cons_succ]
      · rw [if_neg (by omega), if_neg c2, Array.getElem?_setIfInBounds_ne (by omega)]
theorem setCells_fr (b : Nat) : ∀ (vs : List Value) (o : Nat) (w : World), Fr (fun k => k = b) w (w.setCells b o vs)
  | [], _, w => Fr.refl _ w
  | v :: r, o, w => ((Fr.refl (fun k => k = b) w).setCell ⟨b, o, none⟩ v (.inl rfl)).trans (setCells_fr b r (o + 1) _)

theorem Own.keep {w w' : World} {v : Value} {e : TypeId} {size n : Nat} {xs : List Value} (h : Own w v e size n xs) (hk : ∀ b, v.ownBlock = some b → w'.heap[b]? = w.heap[b]?) : Own w' v e size n xs := by
  obtain ⟨h1, p, cap, rfl, h2, h3, h4⟩ := h
  refine ⟨h1, p, cap, rfl, h2, h3, h4.imp id ?_⟩
  rintro ⟨b, off, cur, rfl, h5, h6⟩
  exact ⟨b, off, cur, rfl, (hk b rfl).trans h5, h6⟩

theorem Own.nil (w : World) (e : TypeId) (size : Nat) : Own w (.slice none 0 0) e size 0 [] := ⟨by simp, none, 0, rfl, Nat.le_refl _, by omega, .inl rfl⟩

theorem run_appendOwn {P : Program} {w : World} {v : Value} {e : TypeId} {size n : Nat} {xs : List Value} (h : Own w v e size n xs) (t tx ty : TypeId) (i : TypeInfo) (z : Value) (bytes : Nat) (ht : P.underlying t = some (.slice e)) (hi : P.info? e = some i) (hz : i.zero = some z)
    (hsize : i.size = size) (hby : i.bytes = bytes) (hzs : z.cells.size = size) (x : Value) (m : Nat) (news : List Value) (hs : Src P size tx x m news w) (h63 : n + m ≤ 1000000000) (hbytes : (n + m) * bytes ≤ 140737488355328) (hpos : 0 < size) :
    ∃ v' w', (Builtin.append_ #[t, tx] ty #[v, x]).run P w = .ok v' w' ∧ Own w' v' e size (n + m) (xs ++ news) ∧ Fr (fun k => v.ownBlock = some k) w w' ∧ (∀ k, v'.ownBlock = some k → v.ownBlock = some k ∨ w.heap.size ≤ k) := by
  subst hsize
  subst hby
  obtain ⟨h1, p, cap, rfl, h2, h3, h4⟩ := h
  rcases Nat.eq_zero_or_pos m with hm | hm
  · subst hm
    have hnews : news = [] := List.eq_nil_of_length_eq_zero (by rw [hs.newsLen, Nat.zero_mul])
    subst hnews
    refine ⟨_, w, run_append_nothing w t tx ty e i ht hi p n cap h2 x hs, ?_, Fr.refl _ _, fun k hk => .inl hk⟩
    rw [List.append_nil, Nat.add_zero]
    exact ⟨h1, p, cap, rfl, h2, h3, h4⟩
  · have hlen : (xs ++ news).length = (n + m) * i.size := by rw [List.length_append, h1, hs.newsLen, Nat.add_mul]
    rcases Nat.lt_or_ge cap (n + m) with hr | hr
    · have hold : (Builtin.firstCells i.size n (.slice p n cap)).run P w.drew = .ok xs.toArray w.drew := by
        rcases h4 with h4 | ⟨b, off, cur, rfl, h5, h6, h7⟩
        · subst h4
          have : n = 0 := by omega
          subst this
          have : xs = [] := List.eq_nil_of_length_eq_zero (by rw [h1, Nat.zero_mul])
          subst this
          cases p with
          | none => exact run_firstCells_none _ _ _ _ _
          | some a => exact run_firstCells_some _ _ _ a _ _ [] (by simp) (fun j v hj => by simp at hj)
        · refine run_firstCells_some _ _ _ _ _ _ xs h1 (fun j u hj => ?_)
          have : w.cell? ⟨b, off + j, none⟩ = some u := by simp [World.cell?, h5, h7 j u hj]
          simpa [Addr.add_lit] using this
      have hrun := run_append_grow_src w t tx ty e i z ht hi hz p n cap xs hold x m news hs hr (by omega) (growslice_fits hr hbytes)
      refine ⟨_, _, hrun, ⟨hlen, _, _, rfl, grownCap_ge _ _ _ _, ?_, .inr ⟨w.heap.size, 0, _, rfl, heap_alloc_new w.drew _, ?_, fun j u hj => ?_⟩⟩, ((Fr.refl _ w).drew).alloc _, fun k hk => .inr (Nat.le_of_eq (Option.some.inj hk))⟩
      · exact grownCap_le_maxLen w (n + m) cap e (by unfold maxLen; omega)
      · have := grownCap_ge w (n + m) cap e
        simp only [Array.size_append, List.size_toArray, size_zeroCells, hzs, hlen, Nat.zero_add, ← Nat.add_mul]
        exact Nat.le_of_eq (by congr 1; omega)
      · have hlt := (List.getElem?_eq_some_iff.1 hj).1
        rw [Nat.zero_add, Array.getElem?_append_left (by simpa using hlt)]
        simpa using hj
    · rcases h4 with h4 | ⟨b, off, cur, rfl, h5, h6, h7⟩
      · omega
      · have hnl : news.length = m * i.size := hs.newsLen
        have hfit : off + n * i.size + news.length ≤ cur.size := by
          have : (n + m) * i.size ≤ cap * i.size := Nat.mul_le_mul_right _ hr
          rw [Nat.add_mul] at this; omega
        have hrun := run_append_room_src w t tx ty e i ht hi b off n cap x m news hs hr (fun j hj => by
            have : off + n * i.size + j < cur.size := by omega
            simp [World.cell?, h5, this]) (fun j hj => by simp [World.frozen?, h5])
        obtain ⟨cur', e1, e2, e3⟩ := setCells_blk b news (off + n * i.size) w cur e (0, 0) h5 hfit
        refine ⟨_, _, hrun, ⟨hlen, _, _, rfl, hr, h3, .inr ⟨b, off, cur', rfl, e1, by rw [e2]; exact h6, fun j u hj => ?_⟩⟩, (setCells_fr b news _ w).mono (fun k _ hk => by rw [show k = b from hk]; rfl), fun k hk => .inl hk⟩
        rw [e3]
        rcases Nat.lt_or_ge j xs.length with c | c
        · rw [List.getElem?_append_left c] at hj
          rw [if_neg (by omega)]; exact h7 j u hj
        · rw [List.getElem?_append_right c] at hj
          have := (List.getElem?_eq_some_iff.1 hj).1
          rw [if_pos (by omega), show off + j - (off + n * i.size) = j - xs.length from by omega]; exact hj

abbrev OwnB (w : World) (v : Value) (l : List UInt8) : Prop := Own w v 5 1 l.length (l.map u8)

theorem Own.rd {w : World} {v : Value} {l : List UInt8} (h : OwnB w v l) : Rd w v l := by
  obtain ⟨_, p, cap, rfl, h2, h3, h4⟩ := h
  refine ⟨p, cap, rfl, h2, h3, fun hne => ?_⟩
  rcases h4 with h4 | ⟨b, off, cur, rfl, h5, h6, h7⟩
  · exact (hne (List.eq_nil_of_length_eq_zero (by omega))).elim
  · refine ⟨b, off, rfl, ⟨cur, (0, 0), h5⟩, fun i x hx => ?_⟩
    have := h7 i (u8 x) (by rw [List.getElem?_map, hx]; rfl)
    simp [World.cell?, h5, this]

theorem Rd.src {w : World} {v : Value} {l : List UInt8} (h : Rd w v l) : Src Try.prog 1 31 v l.length (l.map u8) w := by
  obtain ⟨p, c, rfl, h1, h2, h3⟩ := h
  have one : ∀ u ∈ l.map u8, u.oneCell' = true := fun u hu => by
    obtain ⟨x, _, rfl⟩ := List.mem_map.1 hu; rfl
  cases l with
  | nil =>
    cases p with
    | none => exact Src.ofNil w Try.underlying31 c
    | some a => exact Src.ofSlice w Try.underlying31 a 0 c [] (by simp) (fun j u hj => by simp at hj) (fun u hu => by cases hu)
  | cons x r =>
    obtain ⟨b, o, rfl, hr⟩ := h3 (by simp)
    refine Src.ofSlice w Try.underlying31 _ _ c _ (by simp) (fun j u hj => ?_) one
    rw [List.getElem?_map] at hj
    obtain ⟨y, hy, rfl⟩ := Option.map_eq_some_iff.1 hj
    have := hr.2 j y hy
    simpa [Addr.add_lit] using this

theorem appendB {w : World} {v x : Value} {l m : List UInt8} (h : OwnB w v l) (hr : Rd w x m) (hlen : l.length + m.length ≤ 1000000) (ty : TypeId) :
    ∃ v' w', (Builtin.append_ #[31, 31] ty #[v, x]).run Try.prog w = .ok v' w' ∧ OwnB w' v' (l ++ m) ∧ Fr (fun k => v.ownBlock = some k) w w' ∧ (∀ k, v'.ownBlock = some k → v.ownBlock = some k ∨ w.heap.size ≤ k) := by
  obtain ⟨i, hi, hzz⟩ := Option.map_eq_some_iff.1 info5
  simp only [Prod.mk.injEq] at hzz
  obtain ⟨hz, hs, hb⟩ := hzz
  have := run_appendOwn (P := Try.prog) h 31 31 ty i (.int .u8 0) 1 Try.underlying31 hi hz hs hb rfl x m.length (m.map u8) hr.src (by omega) (by omega) (by omega)
  rw [← List.map_append, ← List.length_append] at this
  exact this

/-- 'append(s, x...)', for the walk. -/
theorem wpList_appendB (w : World) {ops : Array Oper} {rest : List Oper} {o : Oper} {a : Act} {Q : Exit → Act → World → Prop} (hgd : o.guard = none) (s x : Operand)
    (ho : o.op = .call { callee := .builtin .append, args := #[s, x], argTypes := #[31, 31] }) (sv xv : Value) (l m : List UInt8) (hown : OwnB w sv l) (hr : Rd w xv m) (hlen : l.length + m.length ≤ 1000000)
    (hs : a.eval s = sv) (hx : a.eval x = xv)
    (h : ∀ v' w', OwnB w' v' (l ++ m) → Fr (fun k => sv.ownBlock = some k) w w' → (∀ k, v'.ownBlock = some k → sv.ownBlock = some k ∨ w.heap.size ≤ k) → wpList Try.prog ops Q rest (a.put o.dst v') w') : wpList Try.prog ops Q (o :: rest) a w := by
  refine wpList_plain hgd fun K hK => ?_
  obtain ⟨v', w', hrun, h1, h2, h3⟩ := appendB hown hr hlen o.type
  unfold Oper.wp
  simp [execOp, ho, resolve, invoke, builtin, hs, hx, hrun, Result.andThen]
  exact hK _ _ (h v' w' h1 h2 h3)

/-- .. as one step of a region that draws. -/
theorem step_appendB {w : World} {ops : Array Oper} {o : Oper} {a : Act} {K : Act → World → Prop} {Q : Exit → Act → World → Prop} {E : Prop} (hgd : o.guard = none) (s x : Operand)
    (ho : o.op = .call { callee := .builtin .append, args := #[s, x], argTypes := #[31, 31] }) (sv xv : Value) (l m : List UInt8) (hown : OwnB w sv l) (hr : Rd w xv m) (hlen : l.length + m.length ≤ 1000000)
    (hs : a.eval s = sv) (hx : a.eval x = xv)
    (h : ∀ v' w', OwnB w' v' (l ++ m) → Fr (fun k => sv.ownBlock = some k) w w' → (∀ k, v'.ownBlock = some k → sv.ownBlock = some k ∨ w.heap.size ≤ k) → K (a.put o.dst v') w') :
    if Region.wanted o (yielded ops a.tmps) = true then Oper.wp Try.prog o a w K Q else E := by
  have hw : Region.wanted o (yielded ops a.tmps) = true := by simp [Region.wanted, hgd]
  rw [if_pos hw]
  obtain ⟨v', w', hrun, h1, h2, h3⟩ := appendB hown hr hlen o.type
  unfold Oper.wp
  simp [execOp, ho, resolve, invoke, builtin, hs, hx, hrun, Result.andThen]
  exact h v' w' h1 h2 h3
theorem Grow.trans' {w0 w w' : World} {S : Nat → Prop} (h : Grow w0 w) (hF : Fr S w w') (hS : ∀ k, S k → w0.heap.size ≤ k) : Grow w0 w' :=
  ⟨hF.os.trans h.os, hF.tape.trans h.tape, hF.output.trans h.output, Nat.le_trans h.size hF.size, fun k hk _ =>
    (hF.block k (Nat.lt_of_lt_of_le hk h.size) (fun e => by have := hS k e; omega)).trans (h.block k hk (fun e => e))⟩
theorem Grow.bytes {w w' : World} (h : Grow w w') : KeepB w w' := Fr.bytes h (fun _ h => h.elim)
theorem Own.block {w : World} {v : Value} {e : TypeId} {size n : Nat} {xs : List Value} (h : Own w v e size n xs) (hn : 0 < n) : ∃ b off cur, v.ownBlock = some b ∧ w.heap[b]? = some (.cells cur e (0, 0)) ∧ off + n * size ≤ cur.size := by
  obtain ⟨_, p, cap, rfl, h2, _, h4⟩ := h
  rcases h4 with h4 | ⟨b, off, cur, rfl, h5, h6, _⟩
  · omega
  · exact ⟨b, off, cur, rfl, h5, by have := Nat.mul_le_mul_right size h2; omega⟩
theorem flatten_get {size : Nat} : ∀ (L : List (List Value)) (i j : Nat) (l : List Value) (u : Value), (∀ l ∈ L, l.length = size) → L[i]? = some l → l[j]? = some u → L.flatten[i * size + j]? = some u
  | [], i, j, l, u, _, h, _ => by simp at h
  | l0 :: L, 0, j, l, u, hL, h, hu => by
    rw [List.getElem?_cons_zero] at h
    injection h with h; subst h
    have hj := (List.getElem?_eq_some_iff.1 hu).1
    rw [List.flatten_cons, Nat.zero_mul, Nat.zero_add, List.getElem?_append_left hj]; exact hu
  | l0 :: L, i + 1, j, l, u, hL, h, hu => by
    rw [List.getElem?_cons_succ] at h
    have h0 := hL l0 List.mem_cons_self
    rw [List.flatten_cons, List.getElem?_append_right (by rw [h0, Nat.add_mul, Nat.one_mul]; omega), h0, show (i + 1) * size + j - size = i * size + j from by rw [Nat.add_mul, Nat.one_mul]; omega]
    exact flatten_get L i j l u (fun l h => hL l (List.mem_cons_of_mem _ h)) h hu
/-- A slice of elements: cs says an element's cells where its bytes lie in the slice d. -/
def RowAt {α : Type} (cs : α → Value → List Value) (dat : α → List UInt8) (e : TypeId) (size : Nat) (w : World) (v : Value) (xs : List α) : Prop :=
  (∀ k, v.ownBlock = some k → ∃ (cur : Array Value) (f : Nat × Nat), w.heap[k]? = some (Obj.cells cur e f)) ∧ ∃ ds : List Value, ds.length = xs.length ∧ Own w v e size xs.length ((List.zipWith cs xs ds).flatten) ∧ ∀ (i : Nat) (x : α) (d : Value), xs[i]? = some x → ds[i]? = some d → Rd w d (dat x)
section
variable {α : Type} {cs : α → Value → List Value} {dat : α → List UInt8} {e : TypeId} {size : Nat} {w w' : World} {v : Value} {xs : List α}

theorem RowAt.nil (w : World) : RowAt cs dat e size w (.slice none 0 0) [] := ⟨fun _ h => (nomatch h), [], rfl, Own.nil w e size, fun _ _ _ h _ => nomatch h⟩
theorem RowAt.keep (h : RowAt cs dat e size w v xs) (hv : ∀ b, v.ownBlock = some b → w'.heap[b]? = w.heap[b]?) (hk : KeepB w w') : RowAt cs dat e size w' v xs := by
  obtain ⟨h0, ds, h1, h2, h3⟩ := h
  exact ⟨fun k hk2 => by obtain ⟨cur, f, h⟩ := h0 k hk2; exact ⟨cur, f, (hv k hk2).trans h⟩, ds, h1, h2.keep hv, fun i x d hx hd => (h3 i x d hx hd).keep hk⟩
theorem RowAt.lt (h : RowAt cs dat e size w v xs) {k : Nat} (hk : v.ownBlock = some k) : k < w.heap.size := by
  obtain ⟨cur, f, h⟩ := h.1 k hk
  exact (Array.getElem?_eq_some_iff.1 h).1
theorem RowAt.noBytes (he : e ≠ 5) (h : RowAt cs dat e size w v xs) {k : Nat} (hk : v.ownBlock = some k) : ¬ BytesBlk w k := by
  rintro ⟨c, f, hb⟩
  obtain ⟨cur, f', h⟩ := h.1 k hk
  have := Option.some.inj (h.symm.trans hb)
  injection this with _ e4 _
  exact he e4
theorem Own.lt {n : Nat} {ys : List Value} (h : Own w v e size n ys) (hn : 0 < n) : ∃ b, v.ownBlock = some b ∧ b < w.heap.size := by
  obtain ⟨b, off, cur, h1, h2, _⟩ := h.block hn
  exact ⟨b, h1, (Array.getElem?_eq_some_iff.1 h2).1⟩
theorem RowAt.slice (h : RowAt cs dat e size w v xs) : ∃ p c, v = .slice p xs.length c ∧ xs.length ≤ c ∧ c ≤ 9223372036854775807 := by
  obtain ⟨_, ds, _, ⟨_, p, c, rfl, h2, h3, _⟩, _⟩ := h
  exact ⟨p, c, rfl, h2, h3⟩
theorem RowAt.get (hcs : ∀ x d, (cs x d).length = size) (h : RowAt cs dat e size w v xs) {i : Nat} {x : α} (hx : xs[i]? = some x) :
    ∃ (b o c : Nat) (d : Value), v = .slice (some ⟨b, o, none⟩) xs.length c ∧ xs.length ≤ c ∧ c ≤ 9223372036854775807 ∧ Rd w d (dat x) ∧ (∀ (j : Nat) (u : Value), (cs x d)[j]? = some u → w.cell? ⟨b, o + (i * size + j), none⟩ = some u) ∧ ∃ cur, w.heap[b]? = some (.cells cur e (0, 0)) := by
  obtain ⟨_, ds, h1, ⟨h2, p, c, rfl, h4, h5, h6⟩, h7⟩ := h
  have hi := (List.getElem?_eq_some_iff.1 hx).1
  have hd : ds[i]? = some (ds[i]'(by omega)) := List.getElem?_eq_getElem (by omega)
  rcases h6 with h6 | ⟨b, o, cur, rfl, h8, h9, h10⟩
  · omega
  · refine ⟨b, o, c, _, rfl, h4, h5, h7 i x _ hx hd, fun j u hu => ?_, cur, h8⟩
    have hz : (List.zipWith cs xs ds)[i]? = some (cs x (ds[i]'(by omega))) := by
      rw [List.getElem?_zipWith, hx, hd]
    have := h10 (i * size + j) u (flatten_get _ i j _ u (fun l hl => by
      obtain ⟨m, hm⟩ := List.mem_iff_getElem?.1 hl
      rw [List.getElem?_zipWith] at hm
      split at hm
      · injection hm with hm; rw [← hm]; exact hcs _ _
      · cases hm) hz hu)
    simp [World.cell?, h8, this]

/-- One more element at the end. -/
theorem row_snoc {ds : List Value} (h1 : ds.length = xs.length) (h3 : ∀ (i : Nat) (x : α) (d : Value), xs[i]? = some x → ds[i]? = some d → Rd w d (dat x)) {x : α} {d v' : Value} (hk : KeepB w w') (hd : Rd w' d (dat x))
    (ho : Own w' v' e size (xs.length + 1) ((List.zipWith cs xs ds).flatten ++ cs x d)) : RowAt cs dat e size w' v' (xs ++ [x]) := by
  refine ⟨fun k hk2 => ?_, ds ++ [d], by simp [h1], ?_, fun i y d' hy hd' => ?_⟩
  · obtain ⟨b, off, cur, e1, e2, _⟩ := ho.block (by omega)
    have e3 : b = k := Option.some.inj (e1.symm.trans hk2)
    subst e3
    exact ⟨cur, _, e2⟩
  · rw [List.length_append, List.length_singleton, List.zipWith_append h1.symm]
    simpa using ho
  · rcases Nat.lt_or_ge i xs.length with c | c
    · rw [List.getElem?_append_left c] at hy
      rw [List.getElem?_append_left (by omega)] at hd'
      exact (h3 i y d' hy hd').keep hk
    · rw [List.getElem?_append_right c] at hy
      rw [List.getElem?_append_right (by omega), h1] at hd'
      cases hm : i - xs.length with
      | zero =>
        rw [hm] at hy hd'
        simp only [List.getElem?_cons_zero, Option.some.injEq] at hy hd'
        subst hy; subst hd'; exact hd
      | succ m => rw [hm] at hy; simp at hy
end
/-- 'append(s, x)' for a row of structs, for the walk: x's cells are news. -/
theorem wpList_appendRow {α : Type} {cs : α → Value → List Value} {dat : α → List UInt8} {e : TypeId} {size bytes : Nat} {t : TypeId} {i : TypeInfo} {z : Value} (hu : Try.prog.underlying t = some (.slice e)) (hi : Try.prog.info? e = some i) (hz : i.zero = some z)
    (hsize : i.size = size) (hby : i.bytes = bytes) (hzs : z.cells.size = size) (hpos : 0 < size) (hbs : bytes ≤ 1000)
    (w : World) {ops : Array Oper} {rest : List Oper} {o : Oper} {a : Act} {Q : Exit → Act → World → Prop} (hgd : o.guard = none) (s x : Operand)
    (ho : o.op = .call { callee := .builtin .append, args := #[s, x], argTypes := #[t, t] }) (sv xv : Value) (xs : List α) (y : α) (d : Value) (hrow : RowAt cs dat e size w sv xs) (hr : Src Try.prog size t xv 1 (cs y d) w) (hlen : xs.length ≤ 1000000)
    (hnb : e ≠ 5) (hd : Rd w d (dat y))
    (hs : a.eval s = sv) (hx : a.eval x = xv)
    (h : ∀ v' w', RowAt cs dat e size w' v' (xs ++ [y]) → Fr (fun k => sv.ownBlock = some k ∧ ¬ BytesBlk w k) w w' → (∀ k, v'.ownBlock = some k → sv.ownBlock = some k ∨ w.heap.size ≤ k) → wpList Try.prog ops Q rest (a.put o.dst v') w') : wpList Try.prog ops Q (o :: rest) a w := by
  refine wpList_plain hgd fun K hK => ?_
  obtain ⟨h0, ds, h1, h2, h3⟩ := id hrow
  obtain ⟨v', w', hrun, g1, g2, g3⟩ := run_appendOwn (P := Try.prog) h2 t t o.type i z bytes hu hi hz hsize hby hzs xv 1 (cs y d) hr (by omega) (by
    have := Nat.mul_le_mul_left (xs.length + 1) hbs
    omega) hpos
  unfold Oper.wp
  simp [execOp, ho, resolve, invoke, builtin, hs, hx, hrun, Result.andThen]
  have hF : Fr (fun k => sv.ownBlock = some k ∧ ¬ BytesBlk w k) w w' := g2.mono (fun k _ hk => ⟨hk, RowAt.noBytes hnb hrow hk⟩)
  exact hK _ _ (h v' w' (row_snoc h1 h3 (hF.bytes (fun k hk => hk.2)) (hd.keep (hF.bytes (fun k hk => hk.2))) g1) hF g3)
theorem RowAt.grow {α : Type} {cs : α → Value → List Value} {dat : α → List UInt8} {e size : Nat} {w w' : World} {v : Value} {xs : List α} (h : RowAt cs dat e size w v xs) (hg : Grow w w') : RowAt cs dat e size w' v xs := by
  exact h.keep (fun b hb => hg.block b (h.lt hb) (fun e => e)) hg.bytes
theorem RowAt.set {α : Type} {cs : α → Value → List Value} {dat : α → List UInt8} {e size : Nat} {w : World} {v : Value} {xs : List α} (h : RowAt cs dat e size w v xs) {k : Nat} {c : Array Value} {T : TypeId} (hB : Blk w k c T) (hT : T ≠ 5) (hk : ∀ j, v.ownBlock = some j → j ≠ k) (i : Nat) (u : Value) : RowAt cs dat e size (w.setCell ⟨k, i, none⟩ u) v xs :=
  h.keep (fun j hj => Below.heap_setCell _ _ _ _ (hk j hj)) (Fr.bytes (S := fun j => j = k) ((Fr.refl _ _).setCell _ _ (.inl rfl)) (fun j hj => by rw [show j = k from hj]; exact hB.noBytes hT))
theorem Rd.set {w : World} {v : Value} {l : List UInt8} (h : Rd w v l) {k : Nat} {c : Array Value} {T : TypeId} (hB : Blk w k c T) (hT : T ≠ 5) (i : Nat) (u : Value) : Rd (w.setCell ⟨k, i, none⟩ u) v l :=
  h.keep (Fr.bytes (S := fun j => j = k) ((Fr.refl _ _).setCell _ _ (.inl rfl)) (fun j hj => by rw [show j = k from hj]; exact hB.noBytes hT))
theorem Rd.string {w : World} {v : Value} {l : List UInt8} (h : Rd w v l) : (convert 31 9 v).run Try.prog w = .ok (.string ⟨l.toArray⟩) w := by
  obtain ⟨p, c, rfl, h1, h2, h3⟩ := h
  have back : ∀ (a : Addr) (l : List UInt8) (c : Nat), (∀ j (hj : j < l.length), w.cell? (a.add j) = some (.int .u8 (l[j].toNat : Int))) → (convert 31 9 (.slice (some a) l.length c)).run Try.prog w = .ok (.string ⟨l.toArray⟩) w := fun a l c hc => run_convert_bytes_back w 31 9 5 a c l Try.underlying31 Try.underlying5 Try.underlying9 hc
  cases l with
  | nil =>
    cases p with
    | none => simp [convert, run_underlying Try.underlying31, run_underlying Try.underlying9, run_underlying Try.underlying5, Conv.bytesToString]; rfl
    | some a => exact back a [] c (fun j hj => by simp at hj)
  | cons x r =>
    obtain ⟨b, o, rfl, hb⟩ := h3 (by simp)
    refine back _ _ c (fun j hj => ?_)
    have := hb.2 j _ (List.getElem?_eq_getElem hj)
    simpa [Addr.add_lit] using this
theorem Rd.one (w : World) (x : UInt8) : Rd (w.alloc (.cells #[u8 x] 5)) (.slice (some ⟨w.heap.size, 0, none⟩) 1 1) [x] := by
  refine ⟨_, 1, rfl, Nat.le_refl _, by omega, fun _ => ⟨_, 0, rfl, ⟨_, _, heap_alloc_new w _⟩, fun i y hy => ?_⟩⟩
  cases i with
  | zero =>
    rw [List.getElem?_cons_zero] at hy
    injection hy with hy; subst hy
    exact (Blk.new w #[u8 x] 5).cellAt 0 _ rfl
  | succ i => simp at hy
theorem Own.grow {w w' : World} {v : Value} {e : TypeId} {size n : Nat} {xs : List Value} (h : Own w v e size n xs) (hg : Grow w w') (hn : 0 < n ∨ v.ownBlock = none) : Own w' v e size n xs := by
  rcases hn with hn | hn
  · obtain ⟨b, off, cur, h1, h2, _⟩ := h.block hn
    exact h.keep (fun k hk => by
      have : b = k := Option.some.inj (h1.symm.trans hk)
      subst this; exact hg.block b (Array.getElem?_eq_some_iff.1 h2).1 (fun e => e))
  · exact h.keep (fun k hk => by rw [hn] at hk; cases hk)
theorem Grow.cell {w w' : World} (h : Grow w w') {a : Addr} (hl : a.block < w.heap.size) : w'.cell? a = w.cell? a := World.cell?_of_block (h.block a.block hl (fun e => e))
theorem Rd.int {w : World} {v : Value} {l : List UInt8} {n : Nat} (h : Rd w v l) (hn : l.length = n) : ∃ p c, v = .slice p n c ∧ Rd w (.slice p n c) l := by
  subst hn
  obtain ⟨p, c, rfl, _⟩ := id h
  exact ⟨p, c, rfl, h⟩
theorem run_append_lt {P : Program} {w : World} {v : Value} {e : TypeId} {size n : Nat} {xs : List Value} (h : Own w v e size n xs) (t tx ty : TypeId) (i : TypeInfo) (z : Value) (bytes : Nat) (ht : P.underlying t = some (.slice e)) (hi : P.info? e = some i) (hz : i.zero = some z)
    (hsize : i.size = size) (hby : i.bytes = bytes) (x : Value) (m : Nat) (news : List Value) (hs : Src P size tx x m news w) (h63 : n + m ≤ 1000000000) (hbytes : (n + m) * bytes ≤ 140737488355328)
    (v' : Value) (w' : World) (hr : (Builtin.append_ #[t, tx] ty #[v, x]).run P w = .ok v' w') : ∀ k, v'.ownBlock = some k → v.ownBlock = some k ∨ k < w'.heap.size := by
  subst hsize
  subst hby
  obtain ⟨h1, p, cap, rfl, h2, h3, h4⟩ := h
  rcases Nat.eq_zero_or_pos m with hm | hm
  · subst hm
    have hnews : news = [] := List.eq_nil_of_length_eq_zero (by rw [hs.newsLen, Nat.zero_mul])
    subst hnews
    have hrun := run_append_nothing w t tx ty e i ht hi p n cap h2 x hs
    rw [hrun] at hr
    injection hr with e1 e2
    subst e1
    exact fun k hk => .inl hk
  · rcases Nat.lt_or_ge cap (n + m) with hc | hc
    · have hold : (Builtin.firstCells i.size n (.slice p n cap)).run P w.drew = .ok xs.toArray w.drew := by
        rcases h4 with h4 | ⟨b, off, cur, rfl, h5, h6, h7⟩
        · subst h4
          have : n = 0 := by omega
          subst this
          have : xs = [] := List.eq_nil_of_length_eq_zero (by rw [h1, Nat.zero_mul])
          subst this
          cases p with
          | none => exact run_firstCells_none _ _ _ _ _
          | some a => exact run_firstCells_some _ _ _ a _ _ [] (by simp) (fun j v hj => by simp at hj)
        · refine run_firstCells_some _ _ _ _ _ _ xs h1 (fun j u hj => ?_)
          have : w.cell? ⟨b, off + j, none⟩ = some u := by simp [World.cell?, h5, h7 j u hj]
          simpa [Addr.add_lit] using this
      have hrun := run_append_grow_src w t tx ty e i z ht hi hz p n cap xs hold x m news hs hc (by omega) (growslice_fits hc hbytes)
      rw [hrun] at hr
      injection hr with e1 e2
      subst e1 e2
      exact fun k hk => .inr (by have : w.heap.size = k := Option.some.inj hk; subst this; simp)
    · rcases h4 with h4 | ⟨b, off, cur, rfl, h5, h6, h7⟩
      · omega
      · have hnl : news.length = m * i.size := hs.newsLen
        have hfit : off + n * i.size + news.length ≤ cur.size := by
          have : (n + m) * i.size ≤ cap * i.size := Nat.mul_le_mul_right _ hc
          rw [Nat.add_mul] at this; omega
        have hrun := run_append_room_src w t tx ty e i ht hi b off n cap x m news hs hc (fun j hj => by
            have : off + n * i.size + j < cur.size := by omega
            simp [World.cell?, h5, this]) (fun j hj => by simp [World.frozen?, h5])
        rw [hrun] at hr
        injection hr with e1 e2
        subst e1
        exact fun k hk => .inl hk
theorem appendB2 {w : World} {v x : Value} {l m : List UInt8} (h : OwnB w v l) (hr : Rd w x m) (hlen : l.length + m.length ≤ 1000000) (ty : TypeId) :
    ∃ v' w', (Builtin.append_ #[31, 31] ty #[v, x]).run Try.prog w = .ok v' w' ∧ OwnB w' v' (l ++ m) ∧ Fr (fun k => v.ownBlock = some k) w w' ∧ (∀ k, v'.ownBlock = some k → v.ownBlock = some k ∨ (w.heap.size ≤ k ∧ k < w'.heap.size)) := by
  obtain ⟨v', w', h1, h2, h3, h4⟩ := appendB h hr hlen ty
  obtain ⟨i, hi, hzz⟩ := Option.map_eq_some_iff.1 info5
  simp only [Prod.mk.injEq] at hzz
  obtain ⟨hz, hs, hb⟩ := hzz
  have hlt := run_append_lt (P := Try.prog) h 31 31 ty i (.int .u8 0) 1 Try.underlying31 hi hz hs hb x m.length (m.map u8) hr.src (by omega) (by omega) v' w' h1
  refine ⟨v', w', h1, h2, h3, fun k hk => ?_⟩
  rcases h4 k hk with e | e
  · exact .inl e
  · exact (hlt k hk).imp id (fun e2 => ⟨e, e2⟩)
theorem wpList_appendB2 (w : World) {ops : Array Oper} {rest : List Oper} {o : Oper} {a : Act} {Q : Exit → Act → World → Prop} (hgd : o.guard = none) (s x : Operand)
    (ho : o.op = .call { callee := .builtin .append, args := #[s, x], argTypes := #[31, 31] }) (sv xv : Value) (l m : List UInt8) (hown : OwnB w sv l) (hr : Rd w xv m) (hlen : l.length + m.length ≤ 1000000)
    (hs : a.eval s = sv) (hx : a.eval x = xv)
    (h : ∀ v' w', OwnB w' v' (l ++ m) → Fr (fun k => sv.ownBlock = some k) w w' → (∀ k, v'.ownBlock = some k → sv.ownBlock = some k ∨ (w.heap.size ≤ k ∧ k < w'.heap.size)) → wpList Try.prog ops Q rest (a.put o.dst v') w') : wpList Try.prog ops Q (o :: rest) a w := by
  refine wpList_plain hgd fun K hK => ?_
  obtain ⟨v', w', hrun, h1, h2, h3⟩ := appendB2 hown hr hlen o.type
  unfold Oper.wp
  simp [execOp, ho, resolve, invoke, builtin, hs, hx, hrun, Result.andThen]
  exact hK _ _ (h v' w' h1 h2 h3)
/-- .. as one step of a region that draws. -/
theorem step_appendB2 {w : World} {ops : Array Oper} {o : Oper} {a : Act} {K : Act → World → Prop} {Q : Exit → Act → World → Prop} {E : Prop} (hw : Region.wanted o (yielded ops a.tmps) = true) (s x : Operand)
    (ho : o.op = .call { callee := .builtin .append, args := #[s, x], argTypes := #[31, 31] }) (sv xv : Value) (l m : List UInt8) (hown : OwnB w sv l) (hr : Rd w xv m) (hlen : l.length + m.length ≤ 1000000)
    (hs : a.eval s = sv) (hx : a.eval x = xv)
    (h : ∀ v' w', OwnB w' v' (l ++ m) → Fr (fun k => sv.ownBlock = some k) w w' → (∀ k, v'.ownBlock = some k → sv.ownBlock = some k ∨ (w.heap.size ≤ k ∧ k < w'.heap.size)) → K (a.put o.dst v') w') :
    if Region.wanted o (yielded ops a.tmps) = true then Oper.wp Try.prog o a w K Q else E := by
  rw [if_pos hw]
  obtain ⟨v', w', hrun, h1, h2, h3⟩ := appendB2 hown hr hlen o.type
  unfold Oper.wp
  simp [execOp, ho, resolve, invoke, builtin, hs, hx, hrun, Result.andThen]
  exact h v' w' h1 h2 h3
/-- An append by its run, for the walk. -/
theorem wpList_append_run (w : World) {ops : Array Oper} {rest : List Oper} {o : Oper} {a : Act} {Q : Exit → Act → World → Prop} (hgd : o.guard = none) (s x : Operand) (t : TypeId)
    (ho : o.op = .call { callee := .builtin .append, args := #[s, x], argTypes := #[t, t] }) (sv xv : Value) (hs : a.eval s = sv) (hx : a.eval x = xv) {R : Value → World → Prop}
    (hrun : ∃ v' w', (Builtin.append_ #[t, t] o.type #[sv, xv]).run Try.prog w = .ok v' w' ∧ R v' w')
    (h : ∀ v' w', R v' w' → wpList Try.prog ops Q rest (a.put o.dst v') w') : wpList Try.prog ops Q (o :: rest) a w := by
  refine wpList_plain hgd fun K hK => ?_
  obtain ⟨v', w', hrun, hR⟩ := hrun
  unfold Oper.wp
  simp [execOp, ho, resolve, invoke, builtin, hs, hx, hrun, Result.andThen]
  exact hK _ _ (h v' w' hR)
/-- .. as one step of a region that draws. -/
theorem step_append_run {w : World} {ops : Array Oper} {o : Oper} {a : Act} {K : Act → World → Prop} {Q : Exit → Act → World → Prop} {E : Prop} (hw : Region.wanted o (yielded ops a.tmps) = true) (s x : Operand) (t : TypeId)
    (ho : o.op = .call { callee := .builtin .append, args := #[s, x], argTypes := #[t, t] }) (sv xv : Value) (hs : a.eval s = sv) (hx : a.eval x = xv) {R : Value → World → Prop}
    (hrun : ∃ v' w', (Builtin.append_ #[t, t] o.type #[sv, xv]).run Try.prog w = .ok v' w' ∧ R v' w')
    (h : ∀ v' w', R v' w' → K (a.put o.dst v') w') :
    if Region.wanted o (yielded ops a.tmps) = true then Oper.wp Try.prog o a w K Q else E := by
  rw [if_pos hw]
  obtain ⟨v', w', hrun, hR⟩ := hrun
  unfold Oper.wp
  simp [execOp, ho, resolve, invoke, builtin, hs, hx, hrun, Result.andThen]
  exact h v' w' hR
/-- A block of bytes, whichever they are. -/
def ByteRow (w : World) (b k : Nat) : Prop := ∃ l : List UInt8, l.length = k ∧ Blk w b (l.map u8).toArray 5
theorem ByteRow.set {w : World} {b k : Nat} (h : ByteRow w b k) (i : Nat) (c : UInt8) : ByteRow (w.setCell ⟨b, i, none⟩ (u8 c)) b k := by
  obtain ⟨l, hl, hB⟩ := h
  refine ⟨l.set i c, by rw [List.length_set]; exact hl, ?_⟩
  have := hB.set i (u8 c)
  have e : (l.map u8).toArray.setIfInBounds i (u8 c) = ((l.set i c).map u8).toArray := by
    rw [List.setIfInBounds_toArray, List.map_set]
  rw [e] at this
  exact this
theorem u8_of (z : Int) (h0 : 0 ≤ z) (h1 : z < 256) : Value.int .u8 z = u8 (UInt8.ofNat z.toNat) := by
  unfold u8
  rw [UInt8.toNat_ofNat']
  congr 1
  omega
theorem or_byte (c : UInt8) (m : Int) : 0 ≤ bits BinOp.or IntKind.u8 (c.toNat : Int) m ∧ bits BinOp.or IntKind.u8 (c.toNat : Int) m < 256 := by
  unfold bits
  simp only
  rw [IntKind.wrap_u8]
  omega
theorem ByteRow.own {w : World} {b k : Nat} (h : ByteRow w b k) (hk : 0 < k) (hk2 : k ≤ 1000000) : ∃ l, l.length = k ∧ OwnB w (.slice (some ⟨b, 0, none⟩) k k) l := by
  obtain ⟨l, hl, hB⟩ := h
  refine ⟨l, hl, by simp, _, k, by rw [hl], by rw [hl]; exact Nat.le_refl _, by omega, .inr ⟨b, 0, _, rfl, hB, by simp [hl], fun j u hj => ?_⟩⟩
  rw [Nat.zero_add, ← Array.getElem?_toList]
  exact hj
theorem own_one (w : World) (x : UInt8) : OwnB (w.alloc (.cells #[u8 x] 5)) (.slice (some ⟨w.heap.size, 0, none⟩) 1 1) [x] := by
  refine ⟨rfl, _, 1, rfl, Nat.le_refl _, by omega, .inr ⟨w.heap.size, 0, _, rfl, heap_alloc_new w _, by simp, fun j u hj => ?_⟩⟩
  rw [Nat.zero_add, ← Array.getElem?_toList]
  exact hj
theorem Own.int {w : World} {v : Value} {l : List UInt8} {n : Nat} (h : OwnB w v l) (hn : l.length = n) : ∃ p c, v = .slice p n c ∧ OwnB w (.slice p n c) l := by
  subst hn
  obtain ⟨_, p, c, rfl, _⟩ := id h
  exact ⟨p, c, rfl, h⟩
theorem Own.dropB {w : World} {p : Option Addr} {cap k : Nat} {l : List UInt8} (ho : OwnB w (.slice p l.length cap) l) (hkl : k ≤ l.length) (hlc : l.length ≤ cap) :
    OwnB w (.slice (if cap = k then p else p.map (·.add k)) (l.length - k) (cap - k)) (l.drop k) ∧ (Value.slice (if cap = k then p else p.map (·.add k)) (l.length - k) (cap - k)).ownBlock = (Value.slice p l.length cap).ownBlock := by
  obtain ⟨_, p', cap', e, h2, h3, hro⟩ := ho
  injection e with e1 e2 e3
  subst e1 e3
  constructor
  · refine ⟨by simp, _, _, by rw [List.length_drop], by rw [List.length_drop]; omega, by omega, ?_⟩
    rcases hro with hro | ⟨bb, off, cur, rfl, h5, h6, h7⟩
    · exact .inl (by omega)
    · by_cases c : cap = k
      · exact .inl (by omega)
      · rw [if_neg c]
        refine .inr ⟨bb, off + k, cur, ?_, h5, (by have := hlc; omega), fun j u hj => ?_⟩
        · simp only [Option.map_some, Addr.add]; split
          · rename_i hk0
            rw [hk0]; rfl
          · rfl
        · rw [List.map_drop, List.getElem?_drop] at hj
          have := h7 (k + j) u hj
          rwa [show off + k + j = off + (k + j) from by omega]
  · by_cases c : cap = k
    · rw [if_pos c]; cases p <;> rfl
    · rw [if_neg c]; cases p with
      | none => rfl
      | some a => simp only [Option.map_some, Value.ownBlock, Addr.add]; split <;> rfl
theorem own_row (w : World) (l : List UInt8) (C : Array Value) (hC : C = (l.map u8).toArray) (hl : l.length ≤ 1000000) : OwnB (w.alloc (.cells C 5)) (.slice (some ⟨w.heap.size, 0, none⟩) l.length l.length) l := by
  subst hC
  refine ⟨by simp, _, _, rfl, Nat.le_refl _, by omega, .inr ⟨w.heap.size, 0, _, rfl, heap_alloc_new w _, by simp, fun j u hj => ?_⟩⟩
  rw [Nat.zero_add]; simpa using hj
theorem own_row_n (w : World) (l : List UInt8) (n : Nat) (hn : l.length = n) (C : Array Value) (hC : C = (l.map u8).toArray) (hl : n ≤ 1000000) : OwnB (w.alloc (.cells C 5)) (.slice (some ⟨w.heap.size, 0, none⟩) n n) l := by
  subst hn
  exact own_row w l C hC hl
abbrev zeros (n : Nat) : List UInt8 := List.replicate n 0
theorem made_zero (n : Nat) : madeCells (Value.int .u8 0).cells n = Array.replicate n (u8 0) := by
  apply Array.ext
  · simp [madeCells]
  · intro j h1 h2
    simp [madeCells, Value.cells, Nat.mod_one]
/-- One append more onto a slice that is new since w0. -/
theorem app_next {w0 W w8 : World} {v6 v8 : Value} (h : Grow w0 W) (hv : ∀ k, v6.ownBlock = some k → w0.heap.size ≤ k ∧ k < W.heap.size) (hF : Fr (fun k => v6.ownBlock = some k) W w8) (hf : ∀ k, v8.ownBlock = some k → v6.ownBlock = some k ∨ (W.heap.size ≤ k ∧ k < w8.heap.size)) :
    Grow w0 w8 ∧ ∀ k, v8.ownBlock = some k → w0.heap.size ≤ k ∧ k < w8.heap.size := by
  refine ⟨Grow.trans' h hF (fun k hk => (hv k hk).1), fun k hk => ?_⟩
  have := h.size
  have := hF.size
  rcases hf k hk with e | e
  · have := hv k e; omega
  · omega
theorem New.grow {w0 W W' : World} {v : Value} (hv : ∀ k, v.ownBlock = some k → w0.heap.size ≤ k ∧ k < W.heap.size) (hg : Grow W W') : ∀ k, v.ownBlock = some k → w0.heap.size ≤ k ∧ k < W'.heap.size :=
  fun k hk => ⟨(hv k hk).1, Nat.lt_of_lt_of_le (hv k hk).2 hg.size⟩
theorem New.nil (w0 W : World) : ∀ k, (Value.slice none 0 0).ownBlock = some k → w0.heap.size ≤ k ∧ k < W.heap.size := fun _ h => nomatch h
theorem conv_string (w : World) (s : ByteArray) (host : List UInt8) (hs : s.data.toList = host) (hl : host.length ≤ 1000000) :
    ∃ p c W2, (convert 9 31 (.string s)).run Try.prog w = .ok (.slice p host.length c) W2 ∧ Rd W2 (.slice p host.length c) host ∧ Grow w W2 := by
  subst hs
  have hsz : s.size = s.data.toList.length := Array.length_toList.symm
  have hr := run_bytes_of_string (P := Try.prog) w 9 31 5 s Try.underlying9 Try.underlying31 Try.underlying5
  rw [hsz] at hr
  refine ⟨_, _, _, hr, ⟨_, _, rfl, grownCap_ge w _ 0 5, grownCap_le_maxLen w _ 0 5 (by unfold maxLen; omega), fun _ => ⟨w.heap.size, 0, rfl, ⟨_, _, heap_alloc_new w.drew _⟩, fun i x hx => ?_⟩⟩, ((Fr.refl _ w).drew).alloc _⟩
  have hn := heap_alloc_new w.drew (.cells (bytesRow s (grownCap w s.data.toList.length 0 5)) 5 ((bytesRow s (grownCap w s.data.toList.length 0 5)).size, (bytesRow s (grownCap w s.data.toList.length 0 5)).size + 1))
  have hlt := (List.getElem?_eq_some_iff.1 hx).1
  have he : (bytesRow s (grownCap w s.data.toList.length 0 5))[0 + i]? = some (u8 x) := by
    unfold bytesRow
    rw [Nat.zero_add, Array.getElem?_append_left (by simpa using hlt)]
    simp only [Array.getElem?_map]
    rw [← Array.getElem?_toList, hx]; rfl
  unfold World.cell?
  rw [show (w.drew.alloc (.cells (bytesRow s (grownCap w s.data.toList.length 0 5)) 5 ((bytesRow s (grownCap w s.data.toList.length 0 5)).size, (bytesRow s (grownCap w s.data.toList.length 0 5)).size + 1))).heap[w.heap.size]? = _ from hn]
  exact he
section
variable {α : Type} {cs : α → Value → List Value} {dat : α → List UInt8} {e : TypeId} {size : Nat} {w w' : World} {v : Value} {xs ys : List α}
/-- Some more elements at the end. -/
theorem row_append {ds es : List Value} (h1 : ds.length = xs.length) (h2 : es.length = ys.length) (hpos : 0 < ys.length) (h3 : ∀ (i : Nat) (x : α) (d : Value), xs[i]? = some x → ds[i]? = some d → Rd w' d (dat x)) (h4 : ∀ (i : Nat) (x : α) (d : Value), ys[i]? = some x → es[i]? = some d → Rd w' d (dat x)) {v' : Value}
    (ho : Own w' v' e size (xs.length + ys.length) ((List.zipWith cs xs ds).flatten ++ (List.zipWith cs ys es).flatten)) : RowAt cs dat e size w' v' (xs ++ ys) := by
  refine ⟨fun k hk2 => ?_, ds ++ es, by simp [h1, h2], ?_, fun i y d' hy hd' => ?_⟩
  · obtain ⟨b, off, cur, e1, e2, _⟩ := ho.block (by omega)
    have e3 : b = k := Option.some.inj (e1.symm.trans hk2)
    subst e3
    exact ⟨cur, _, e2⟩
  · rw [List.length_append, List.zipWith_append h1.symm, List.flatten_append]
    exact ho
  · rcases Nat.lt_or_ge i xs.length with c | c
    · rw [List.getElem?_append_left c] at hy
      rw [List.getElem?_append_left (by omega)] at hd'
      exact h3 i y d' hy hd'
    · rw [List.getElem?_append_right c] at hy
      rw [List.getElem?_append_right (by omega), h1] at hd'
      exact h4 _ y d' hy hd'
end

theorem rd_nil (w : World) : Rd w (.slice none 0 0) [] := ⟨none, 0, rfl, Nat.le_refl _, by omega, fun h => (h rfl).elim⟩
theorem Rd.avoid {w w' : World} {d : Value} {l : List UInt8} (h : Rd w d l) {S : Nat → Prop} (hF : Fr S w w') (hS : ∀ k, S k → BytesBlk w k → d.ownBlock ≠ some k) : Rd w' d l := by
  obtain ⟨p, c, rfl, h1, h2, h3⟩ := h
  refine ⟨p, c, rfl, h1, h2, fun hne => ?_⟩
  obtain ⟨b, o, rfl, hr⟩ := h3 hne
  exact ⟨b, o, rfl, hr.same (hF.block b hr.1.lt (fun hs => hS b hs hr.1 rfl))⟩
end Go.Proofs.Ytgdkbflhgcchfaa
