/- Maps with keys of a kind of their own (texts; pairs of integers): look-up, store; a walk over all entries. -/
import Derived.Test.YtgdkbflhgcchfaaA1
import Derived.MapKept
import Derived.Laws.IdiomRangeMap
import Derived.Maps.RangeRun
import Derived.WideKeyArr
namespace Go.Proofs.Ytgdkbflhgcchfaa
open Go.RowKit

/-- Keys: kv x is the key x; looked for among keys of this kind it is found by being the same. -/
structure Keys (P : Program) (key : TypeId) {κ : Type} (kv : κ → Value) : Prop where
  check : ∀ (em : Bool) (x : κ) (w : World), (Instr.checkKey em 10000 key (kv x)).run P w = .ok () w
  find : ∀ (x : κ) (l : List MapEntry) (w : World), (∀ e ∈ l, ∃ y, e.key = kv y) →
    ((∀ e ∈ l, e.key ≠ kv x) ∧ (Instr.findKey key (kv x) l).run P w = .ok none w) ∨ ∃ j e, l[j]? = some e ∧ e.key = kv x ∧ (Instr.findKey key (kv x) l).run P w = .ok (some (j, e.val)) w
  inj : ∀ x y, kv x = kv y → x = y
  stays : ∀ (x : κ) (w : World), (Instr.keyThatStays (kv x) (kv x)).run P w = .ok (kv x) w
/-- Block r is a map that holds q. -/
def MapK {κ : Type} (kv : κ → Value) (w : World) (r : Nat) (q : κ → Option Value) : Prop :=
  ∃ es clock, w.heap[r]? = some (.map es clock) ∧ MapKept.Stamped es clock ∧ (∀ e ∈ es.toList, ∃ y, e.key = kv y) ∧ ∀ x v, q x = some v ↔ ∃ e ∈ es.toList, e.key = kv x ∧ e.val = v
section
variable {P : Program} {w w' : World} {r : Nat} {κ : Type} {kv : κ → Value} {q : κ → Option Value} {key elem T : TypeId}
theorem MapK.lt (h : MapK kv w r q) : r < w.heap.size := by
  obtain ⟨es, clock, hb, _⟩ := h
  exact (Array.getElem?_eq_some_iff.1 hb).1
theorem MapK.same (h : MapK kv w r q) (e : w'.heap[r]? = w.heap[r]?) : MapK kv w' r q := by
  obtain ⟨es, clock, hb, h⟩ := h
  exact ⟨es, clock, e.trans hb, h⟩
theorem MapK.drew (h : MapK kv w r q) : MapK kv w.drew r q := h
theorem MapK.alloc (h : MapK kv w r q) (o : Obj) : MapK kv (w.alloc o) r q := h.same (Below.heap_alloc _ _ _ h.lt)
theorem MapK.grow (h : MapK kv w r q) (hG : Grow w w') : MapK kv w' r q := h.same (hG.block r h.lt (fun e => e))
theorem MapK.ne_blk (h : MapK kv w r q) {b : Nat} {c : Array Value} {T : TypeId} (hb : Blk w b c T) : r ≠ b := fun e => by
  obtain ⟨es, clock, h1, _⟩ := h
  subst e
  have := h1.symm.trans hb
  simp at this
theorem MapK.noBytes (h : MapK kv w r q) : ¬ BytesBlk w r := fun ⟨c, f, hb⟩ => by
  obtain ⟨es, clock, h1, _⟩ := h
  have := h1.symm.trans hb
  simp at this
theorem MapK.new (kv : κ → Value) (w : World) : MapK kv (w.alloc (.map #[] 0)) w.heap.size (fun _ => none) :=
  ⟨#[], 0, (MapKept.heap_alloc w _).1, MapKept.stamped_empty 0, by simp, fun x v => by simp⟩
theorem pair_one : ∀ {l : List MapEntry} {x y : MapEntry}, l.Pairwise (fun x y => x.key ≠ y.key) → x ∈ l → y ∈ l → x.key = y.key → x = y
  | a :: l, x, y, hp, hx, hy, he => by
    rw [List.pairwise_cons] at hp
    rcases List.mem_cons.1 hx with e1 | hx2
    · rcases List.mem_cons.1 hy with e2 | hy2
      · rw [e1, e2]
      · rw [e1] at he; exact (hp.1 _ hy2 he).elim
    · rcases List.mem_cons.1 hy with e2 | hy2
      · rw [e2] at he; exact (hp.1 _ hx2 he.symm).elim
      · exact pair_one hp.2 hx2 hy2 he
theorem entry_one {es : Array MapEntry} {clock : Nat} (h : MapKept.Stamped es clock) {x y : MapEntry} (hx : x ∈ es.toList) (hy : y ∈ es.toList) (he : x.key = y.key) : x = y :=
  pair_one ((MapKept.stamped_iff es clock).1 h).2.2 hx hy he
theorem MapK.look (h : MapK kv w r q) (K : Keys P key kv) (hT : P.underlying T = some (.map key elem)) {z : Value} (hz : ∀ w : World, (zeroValue elem).run P w = .ok z w) (x : κ) :
    (Instr.lookup T (.map (some r)) (kv x) false).run P w = .ok ((q x).getD z) w := by
  obtain ⟨es, clock, hb, hs, hl, hq⟩ := h
  rcases K.find x es.toList w hl with ⟨h1, h2⟩ | ⟨j, e, h1, h2, h3⟩
  · have : q x = none := by
      cases hv : q x with
      | none => rfl
      | some v =>
        obtain ⟨e, he, hk, _⟩ := (hq x v).1 hv
        exact (h1 e he hk).elim
    rw [this]
    simp [Instr.lookup, run_underlying hT, getObj, Sem.run, hb, K.check, h2, hz]
  · have : q x = some e.val := (hq x e.val).2 ⟨e, List.mem_of_getElem? h1, h2, rfl⟩
    rw [this]
    simp [Instr.lookup, run_underlying hT, getObj, Sem.run, hb, K.check, h3]
theorem heap_setBlk (w : World) (r : Nat) (o : Obj) (k : Nat) : ({ w with heap := w.heap.setIfInBounds r o } : World).heap[k]? = if k = r ∧ r < w.heap.size then some o else w.heap[k]? := by
  show (w.heap.setIfInBounds r o)[k]? = _
  rw [Array.getElem?_setIfInBounds]
  by_cases c : r = k
  · subst c
    by_cases c2 : r < w.heap.size
    · simp [c2]
    · simp [c2]
  · rw [if_neg c, if_neg (fun e => c e.1.symm)]
/-- 'm[k] = v'. -/
theorem MapK.put [DecidableEq κ] (h : MapK kv w r q) (K : Keys P key kv) (hT : P.underlying T = some (.map key elem)) (x : κ) (v : Value) :
    ∃ w', (Instr.mapUpdate T (.map (some r)) (kv x) v).run P w = .ok () w' ∧ MapK kv w' r (fun y => if y = x then some v else q y) ∧ Fr (fun i => i = r) w w' := by
  have hlt := h.lt
  obtain ⟨es, clock, hb, hs, hl, hq⟩ := h
  have hgr : ∀ o, Fr (fun i => i = r) w { w with heap := w.heap.setIfInBounds r o } := fun o =>
    ⟨rfl, rfl, rfl, by simp, fun i _ hi => by rw [heap_setBlk, if_neg (fun e => hi e.1)]⟩
  rcases K.find x es.toList w hl with ⟨h1, h2⟩ | ⟨j, e, h1, h2, h3⟩
  · refine ⟨{ w with heap := w.heap.setIfInBounds r (.map (es.push { key := kv x, val := v, born := clock }) (clock + 1)) }, ?_, ⟨_, clock + 1, by rw [heap_setBlk, if_pos ⟨rfl, hlt⟩], MapKept.stamped_push hs h1, ?_, fun y u => ?_⟩, hgr _⟩
    · simp [Instr.mapUpdate, run_underlying hT, getObj, setObj, Sem.run, hb, K.check, h2]
    · intro e he
      rw [Array.toList_push] at he
      rcases List.mem_append.1 he with he | he
      · exact hl e he
      · rw [List.mem_singleton.1 he]; exact ⟨x, rfl⟩
    · rw [Array.toList_push]
      show (if y = x then some v else q y) = some u ↔ _
      by_cases c : y = x
      · subst c
        rw [if_pos rfl]
        constructor
        · intro e
          injection e with e
          subst e
          exact ⟨_, List.mem_append_right _ List.mem_cons_self, rfl, rfl⟩
        · rintro ⟨e, he, hk, rfl⟩
          rcases List.mem_append.1 he with he | he
          · exact (h1 e he hk).elim
          · rw [List.mem_singleton.1 he]
      · rw [if_neg c, hq y u]
        constructor
        · rintro ⟨e, he, hk, rfl⟩
          exact ⟨e, List.mem_append_left _ he, hk, rfl⟩
        · rintro ⟨e, he, hk, rfl⟩
          rcases List.mem_append.1 he with he | he
          · exact ⟨e, he, hk, rfl⟩
          · rw [List.mem_singleton.1 he] at hk
            exact (c (K.inj _ _ hk.symm)).elim
  · have hj : es[j]? = some e := by simpa using h1
    have hval : ((es[j]?).map (·.key)).getD (kv x) = kv x := by rw [hj]; simpa using h2
    have hmem : ∀ y : MapEntry, y ∈ (es.modify j fun e => { e with key := kv x, val := v }).toList ↔ (y = { e with key := kv x, val := v }) ∨ (y ∈ es.toList ∧ y ≠ e) := by
      intro y
      rw [Array.toList_modify]
      constructor
      · intro hy
        obtain ⟨i, hi⟩ := List.mem_iff_getElem?.1 hy
        rw [List.getElem?_modify] at hi
        cases ho : es.toList[i]? with
        | none => rw [ho] at hi; simp at hi
        | some u =>
          rw [ho] at hi
          have hi := Option.some.inj hi
          by_cases c : j = i
          · subst c
            rw [h1] at ho
            have ho := Option.some.inj ho
            subst ho
            exact .inl (by simpa using hi.symm)
          · simp only [c, if_false] at hi
            subst hi
            refine .inr ⟨List.mem_of_getElem? ho, fun e2 => ?_⟩
            subst e2
            have hn := ((MapKept.stamped_iff es clock).1 hs).2.1
            have a1 : (es.toList.map (·.born))[j]? = some u.born := by rw [List.getElem?_map, h1]; rfl
            have a2 : (es.toList.map (·.born))[i]? = some u.born := by rw [List.getElem?_map, ho]; rfl
            exact c ((List.getElem?_inj (List.getElem?_eq_some_iff.1 a1).1 hn).1 (a1.trans a2.symm))
      · rintro (rfl | ⟨hy, hne⟩)
        · refine List.mem_of_getElem? (i := j) ?_
          rw [List.getElem?_modify, h1]
          simp
        · obtain ⟨i, hi⟩ := List.mem_iff_getElem?.1 hy
          refine List.mem_of_getElem? (i := i) ?_
          rw [List.getElem?_modify, hi]
          by_cases c : j = i
          · subst c
            exact (hne (Option.some.inj (hi.symm.trans h1))).elim
          · simp [c]
    refine ⟨{ w with heap := w.heap.setIfInBounds r (.map (es.modify j fun e => { e with key := kv x, val := v }) clock) }, ?_, ⟨_, clock, by rw [heap_setBlk, if_pos ⟨rfl, hlt⟩], ?_, ?_, fun y u => ?_⟩, hgr _⟩
    · simp [Instr.mapUpdate, run_underlying hT, getObj, setObj, Sem.run, hb, K.check, h3, hval, K.stays]
    · refine MapKept.stamped_modify hs j _ (fun _ _ => rfl) (fun e' _ he' => ?_)
      rw [hj] at he'
      have := Option.some.inj he'
      subst this
      exact h2.symm
    · intro y hy
      rcases (hmem y).1 hy with rfl | ⟨hy, _⟩
      · exact ⟨x, rfl⟩
      · exact hl y hy
    · show (if y = x then some v else q y) = some u ↔ _
      by_cases c : y = x
      · subst c
        rw [if_pos rfl]
        constructor
        · intro e'
          injection e' with e'
          subst e'
          exact ⟨_, (hmem _).2 (.inl rfl), rfl, rfl⟩
        · rintro ⟨e', he', hk, rfl⟩
          rcases (hmem e').1 he' with rfl | ⟨he', hne⟩
          · rfl
          · exact (hne (entry_one hs he' (List.mem_of_getElem? h1) (hk.trans h2.symm))).elim
      · rw [if_neg c, hq y u]
        constructor
        · rintro ⟨e', he', hk, rfl⟩
          refine ⟨e', (hmem e').2 (.inr ⟨he', fun e2 => ?_⟩), hk, rfl⟩
          subst e2
          exact c (K.inj _ _ (hk.symm.trans h2))
        · rintro ⟨e', he', hk, rfl⟩
          rcases (hmem e').1 he' with rfl | ⟨he', _⟩
          · exact (c (K.inj _ _ hk.symm)).elim
          · exact ⟨e', he', hk, rfl⟩
end
/-- Texts as keys. -/
abbrev strv (l : List UInt8) : Value := .string ⟨l.toArray⟩
theorem keys_string {P : Program} {key : TypeId} (hk : P.underlying key = some .string) : Keys P key strv where
  check em x w := MapKept.run_checkKey hk (d := .string) (by trivial) em 9999
  find x l w hl := by
    have hl' : ∀ e ∈ l, MapKept.IsKey .string e.key := fun e he => by obtain ⟨y, hy⟩ := hl e he; rw [hy]; trivial
    rcases MapKept.findNow_spec (d := .string) (k := strv x) (by trivial) l 0 hl' with ⟨h1, h2⟩ | ⟨j, e, h1, h2, h3⟩
    · exact .inl ⟨h2, MapKept.run_findKey hk h1⟩
    · exact .inr ⟨j, e, h2, h3, MapKept.run_findKey hk (by simpa using h1)⟩
  inj x y h := by
    injection h with h
    injection h with h
    simpa using h
  stays x w := by
    have hs : Instr.sameBits 10000 (strv x) (strv x) = true := by unfold Instr.sameBits; exact (MapKept.bytes_beq _ _).2 rfl
    simp only [Instr.keyThatStays, hs, if_true, Sem.run_pure]
/-- A walk over a map of which each entry holds Z, n entries to come. -/
def IterA (w : World) (r : Nat) (Z : Value) (n : Nat) : Prop :=
  ∃ m es clock seen, w.heap[r]? = some (.mapIter (some m) clock seen clock) ∧ w.heap[m]? = some (.map es clock) ∧ MapKept.Stamped es clock ∧ (∀ e ∈ es.toList, e.val = Z) ∧ (leftOf es seen).size = n
section
variable {P : Program} {w w' : World} {r n : Nat} {Z : Value}
theorem IterA.lt (h : IterA w r Z n) : r < w.heap.size := by
  obtain ⟨m, es, clock, seen, hr, _⟩ := h
  exact (Array.getElem?_eq_some_iff.1 hr).1
theorem IterA.grow (h : IterA w r Z n) (hG : Grow w w') : IterA w' r Z n := by
  have hl := h.lt
  obtain ⟨m, es, clock, seen, hr, hb, h2⟩ := h
  exact ⟨m, es, clock, seen, (hG.block r hl (fun e => e)).trans hr, (hG.block m (Array.getElem?_eq_some_iff.1 hb).1 (fun e => e)).trans hb, h2⟩
theorem wpList_rangeA {κ : Type} {kv : κ → Value} {q : κ → Option Value} {t k e : TypeId} {m : Nat} {ops : Array Oper} {rest : List Oper} {o : Oper} {a : Act} {Q : Exit → Act → World → Prop} (hg : o.guard = none) (x : Operand) (hop : o.op = Op.range t x) (ht : Try.prog.underlying t = some (.map k e))
    (hx : a.eval x = .map (some m)) (hq : MapK kv w m q) (hZ : ∀ x v, q x = some v → v = Z)
    (h : ∀ w' n, Grow w w' → IterA w' w.heap.size Z n → wpList Try.prog ops Q rest (a.put o.dst (.pointer (some ⟨w.heap.size, 0, none⟩))) w') : wpList Try.prog ops Q (o :: rest) a w := by
  obtain ⟨es, clock, hb, hs, hk, hq⟩ := hq
  refine wpList_plain hg fun K hK => ?_
  have hrun := run_range_map (P := Try.prog) w t k e m es clock ht hb
  unfold Oper.wp
  simp [execOp, hop, hx, hrun, Result.andThen]
  refine hK _ _ (h _ _ ((Fr.refl _ w).alloc _) ⟨m, es, clock, #[], (MapKept.heap_alloc w _).1, ((MapKept.heap_alloc w _).2 m (Array.getElem?_eq_some_iff.1 hb).1).trans hb, hs, fun e he => ?_, rfl⟩)
  obtain ⟨y, hy⟩ := hk e he
  exact hZ y e.val ((hq y e.val).2 ⟨e, he, hy, rfl⟩)
theorem wpList_nextA {ops : Array Oper} {rest : List Oper} {o : Oper} {a : Act} {Q : Exit → Act → World → Prop} (hg : o.guard = none) (x : Operand) (hop : o.op = Op.next x false) (hx : a.eval x = .pointer (some ⟨r, 0, none⟩)) (hI : IterA w r Z n)
    (hDone : wpList Try.prog ops Q rest (a.put o.dst (.tuple #[.bool false])) w)
    (hMore : ∀ kv w' n', n' < n → IterA w' r Z n' → Fr (fun i => i = r) w w' → (Instr.entry (.pointer (some ⟨r, 0, none⟩))).run Try.prog w' = .ok (.tuple #[kv, Z]) w' → wpList Try.prog ops Q rest (a.put o.dst (.tuple #[.bool true, kv, Z])) w') :
    wpList Try.prog ops Q (o :: rest) a w := by
  obtain ⟨m, es, clock, seen, hr, hb, hs, hZ, hn⟩ := hI
  have hst := (MapKept.stamped_iff es clock).1 hs
  refine wpList_plain hg fun K hK => ?_
  rcases run_next_at (P := Try.prog) w o.type r m clock clock seen es clock hr hb hst.1 (Nat.le_refl _) with ⟨h0, hrun⟩ | ⟨e, he, w1, hw1, hrun⟩
  · unfold Oper.wp
    simp [execOp, hop, hx, hrun, Result.andThen]
    exact hK _ _ hDone
  · have hm := (mem_left he).1
    have hv := hZ e hm
    rw [hv] at hrun
    have hw1h : w1.heap = w.heap := by rcases hw1 with rfl | rfl <;> rfl
    have hrl : r < w1.heap.size := by rw [hw1h]; exact (Array.getElem?_eq_some_iff.1 hr).1
    have hmr : m ≠ r := fun e => by subst e; rw [hr] at hb; cases hb
    have hF : Fr (fun i => i = r) w (ChangeMaps.setBlock w1 r (.mapIter (some m) clock (seen.push e.born) clock)) := by
      have h1 : Fr (fun i => i = r) w w1 := by rcases hw1 with rfl | rfl; exact Fr.refl _ _; exact (Fr.refl _ _).drew
      refine h1.trans ⟨rfl, rfl, rfl, by simp [ChangeMaps.setBlock], fun i _ hi => ?_⟩
      show (w1.heap.setIfInBounds r _)[i]? = _
      rw [Array.getElem?_setIfInBounds, if_neg (fun e => hi e.symm)]
    have hr' : (ChangeMaps.setBlock w1 r (.mapIter (some m) clock (seen.push e.born) clock)).heap[r]? = some (.mapIter (some m) clock (seen.push e.born) clock) := by
      show (w1.heap.setIfInBounds r _)[r]? = _
      rw [Array.getElem?_setIfInBounds, if_pos rfl, if_pos hrl]
    have hb' : (ChangeMaps.setBlock w1 r (.mapIter (some m) clock (seen.push e.born) clock)).heap[m]? = some (.map es clock) :=
      (hF.block m (Array.getElem?_eq_some_iff.1 hb).1 hmr).trans hb
    have hen := run_entry_at (P := Try.prog) _ r m clock seen es clock e hr' hb' hm hst.2.1
    rw [hv] at hen
    unfold Oper.wp
    simp [execOp, hop, hx, hrun, Result.andThen]
    exact hK _ _ (hMore e.key _ _ (by rw [← hn]; exact left_shrinks es seen e he) ⟨m, es, clock, _, hr', hb', hs, hZ, rfl⟩ hF hen)
end
/-- Pairs of numbers as keys. -/
abbrev Pt : Type := { x : Nat × Nat // x.1 ≤ 2 ∧ x.2 ≤ 20000000000 }
abbrev pairv (x : Pt) : Value := .agg #[.int .i64 (x.1.1 : Int), .int .i64 (x.1.2 : Int)]
theorem arr45 : WideMaps.ArrKey Try.prog 45 2 2 where
  hu := Try.underlying45
  plain := by kernel_rfl
  one := by kernel_rfl
  size := by kernel_rfl
theorem lits_int (a : Nat) (h : a ≤ 20000000000) (d : Nat) : Try.prog.keyLits (d + 1) 2 [.int .i64 (a : Int)] = some [.int .i64 (a : Int)] := by
  have hw : (Lit.int .i64 (a : Int)).wf = true := by
    simp only [Lit.wf, IntKind.min, IntKind.max, IntKind.signed, IntKind.bits, Bool.and_eq_true, decide_eq_true_eq, if_true]
    omega
  unfold Program.keyLits
  rw [Try.underlying2]
  simp [hw]
theorem key_pair (x : Pt) : ∃ l, keyOf Try.prog 45 (pairv x) = some l := by
  have h1 : Try.prog.keyType 45 = true := by kernel_rfl
  have h2 : (pairv x).formed Try.prog 45 = true := by
    unfold Value.formed
    rw [Try.underlying45, arr45.size]
    rfl
  unfold keyOf
  rw [Try.underlying45]
  simp only [h1, h2, Bool.and_self, if_true]
  obtain ⟨m, hm⟩ : ∃ m, Try.prog.types.size = m + 1 := ⟨_, (by kernel_rfl : Try.prog.types.size = (Try.prog.types.size - 1) + 1)⟩
  rw [hm]
  unfold Program.keyLits
  rw [Try.underlying45]
  have e1 := lits_int x.1.1 (by have := x.2.1; omega) m
  have e2 := lits_int x.1.2 x.2.2 m
  have hl : (Value.cells (pairv x)).toList = [.int .i64 (x.1.1 : Int), .int .i64 (x.1.2 : Int)] := rfl
  rw [hl, arr45.size]
  simp only [arr45.one]
  simp [List.range_succ, List.mapM_cons, e1, e2]
theorem keys_pair : Keys Try.prog 45 pairv where
  check em x w := by
    obtain ⟨l, hl⟩ := key_pair x
    exact arr45.law.check w em hl
  find x l w hk := by
    obtain ⟨lx, hl⟩ := key_pair x
    rcases arr45.law.find w hl l (fun e he => by obtain ⟨y, hy⟩ := hk e he; rw [hy]; exact key_pair y) with ⟨h1, h2⟩ | ⟨j, e, h1, h2, h3⟩
    · exact .inl ⟨h2, h1⟩
    · exact .inr ⟨j, e, h2, h3, h1⟩
  inj x y h := by
    injection h with h
    have h := congrArg Array.toList h
    simp only [List.cons.injEq, and_true] at h
    obtain ⟨h1, h2⟩ := h
    injection h1 with _ h1
    injection h2 with _ h2
    exact Subtype.ext (Prod.ext (by omega) (by omega))
  stays x w := by
    obtain ⟨l, hl⟩ := key_pair x
    exact arr45.law.stays w hl
end Go.Proofs.Ytgdkbflhgcchfaa
