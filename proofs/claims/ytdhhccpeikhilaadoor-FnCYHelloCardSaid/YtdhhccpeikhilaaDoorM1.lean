/- A map keyed by 64-bit integers, told as a function from natural numbers: look-up, store, delete, len. -/
import Derived.Test.YtdhhccpeikhilaaDoorB0
import Derived.MapKept
namespace Go.Proofs.YtdhhccpeikhilaaDoor
open Go.RowKit

/-- What a list of entries holds at a key. -/
def getL : List MapEntry → Nat → Option Value
  | [], _ => none
  | e :: r, k => match e.key with
    | .int .i64 n => if n = (k : Int) then some e.val else getL r k
    | _ => getL r k

def IntKey (e : MapEntry) : Prop := ∃ k : Nat, e.key = .int .i64 (k : Int)
def keyN (e : MapEntry) : Nat := match e.key with | .int _ n => n.toNat | _ => 0

theorem getL_cons {e : MapEntry} {r : List MapEntry} {n : Nat} (h : e.key = .int .i64 (n : Int)) (k : Nat) : getL (e :: r) k = if n = k then some e.val else getL r k := by
  simp only [getL, h]
  by_cases c : n = k
  · rw [if_pos (by omega), if_pos c]
  · rw [if_neg (by omega), if_neg c]
theorem keyN_of {e : MapEntry} {n : Nat} (h : e.key = .int .i64 (n : Int)) : keyN e = n := by simp [keyN, h]

theorem findNow_spec (k : Nat) : ∀ (l : List MapEntry) (i : Nat), (∀ e ∈ l, IntKey e) →
    (getL l k = none ∧ Instr.findNow (.int .i64) (.int .i64 (k : Int)) l i = some none ∧ ∀ e ∈ l, keyN e ≠ k) ∨
    (∃ j e, l[j]? = some e ∧ e.key = .int .i64 (k : Int) ∧ getL l k = some e.val ∧ Instr.findNow (.int .i64) (.int .i64 (k : Int)) l i = some (some (i + j, e.val)))
  | [], i, _ => .inl ⟨rfl, rfl, fun _ h => by simp at h⟩
  | e :: r, i, h => by
    obtain ⟨n, hn⟩ := h e (by simp)
    rw [getL_cons hn]
    by_cases c : n = k
    · subst c
      refine .inr ⟨0, e, rfl, hn, by rw [if_pos rfl], ?_⟩
      simp [Instr.findNow, Instr.sameNow, hn]
    · rw [if_neg c]
      have hs : Instr.sameNow (.int .i64) (.int .i64 (k : Int)) e.key = some false := by
        simp [Instr.sameNow, hn]; omega
      rcases findNow_spec k r (i + 1) (fun e he => h e (by simp [he])) with ⟨h1, h2, h3⟩ | ⟨j, e', h1, h2, h3, h4⟩
      · refine .inl ⟨h1, by simp [Instr.findNow, hs, h2], fun x hx => ?_⟩
        rcases List.mem_cons.1 hx with rfl | hx
        · rw [keyN_of hn]; exact c
        · exact h3 x hx
      · exact .inr ⟨j + 1, e', by simpa using h1, h2, h3, by simp only [Instr.findNow, hs, h4]; congr 3; omega⟩

/-- Block r is a map that holds q. -/
def MapAt (w : World) (r : Nat) (q : Nat → Option Value) : Prop :=
  ∃ es clock, w.heap[r]? = some (.map es clock) ∧ (∀ e ∈ es.toList, IntKey e) ∧ (es.toList.map keyN).Nodup ∧ ∀ k, q k = getL es.toList k

theorem getL_none_of {l : List MapEntry} (hk : ∀ e ∈ l, IntKey e) {k : Nat} (h : k ∉ l.map keyN) : getL l k = none := by
  rcases findNow_spec k l 0 hk with ⟨h1, _⟩ | ⟨j, e, h1, h2, _⟩
  · exact h1
  · exact (h (List.mem_map.2 ⟨e, List.mem_of_getElem? h1, keyN_of h2⟩)).elim

theorem getL_append {l l' : List MapEntry} (hk : ∀ e ∈ l, IntKey e) (k : Nat) : getL (l ++ l') k = (getL l k).or (getL l' k) := by
  induction l with
  | nil => simp [getL]
  | cons e r ih =>
    obtain ⟨n, hn⟩ := hk e (by simp)
    rw [List.cons_append, getL_cons hn, getL_cons hn, ih (fun e he => hk e (by simp [he]))]
    split <;> simp

theorem getL_erase {l : List MapEntry} (hk : ∀ e ∈ l, IntKey e) (hd : (l.map keyN).Nodup) {j : Nat} {e : MapEntry} (he : l[j]? = some e) (k : Nat) :
    getL (l.eraseIdx j) k = if k = keyN e then none else getL l k := by
  induction l generalizing j with
  | nil => simp at he
  | cons a r ih =>
    obtain ⟨n, hn⟩ := hk a (by simp)
    rw [List.map_cons, List.nodup_cons] at hd
    cases j with
    | zero =>
      have : a = e := by simpa using he
      subst this
      rw [List.eraseIdx_zero, List.tail_cons, getL_cons hn, keyN_of hn]
      by_cases c : k = n
      · rw [if_pos c]; exact getL_none_of (fun e he => hk e (by simp [he])) (by rw [c, ← keyN_of hn]; exact hd.1)
      · rw [if_neg c, if_neg (fun e => c e.symm)]
    | succ j =>
      have he' : r[j]? = some e := by simpa using he
      rw [List.eraseIdx_cons_succ, getL_cons hn, getL_cons hn, ih (fun e he => hk e (by simp [he])) hd.2 he']
      have hne : keyN e ≠ n := fun eq => hd.1 (by rw [keyN_of hn, ← eq]; exact List.mem_map.2 ⟨e, List.mem_of_getElem? he', rfl⟩)
      by_cases c : n = k
      · rw [if_pos c, if_pos c, if_neg (fun eq => hne (by omega))]
      · rw [if_neg c, if_neg c]

theorem getL_modify {l : List MapEntry} (hk : ∀ e ∈ l, IntKey e) (hd : (l.map keyN).Nodup) {j : Nat} {e : MapEntry} (he : l[j]? = some e) (v : Value) (f : MapEntry → MapEntry) (hf : ∀ x, f x = { x with key := e.key, val := v }) (k : Nat) :
    getL (l.modify j f) k = if k = keyN e then some v else getL l k := by
  induction l generalizing j with
  | nil => simp at he
  | cons a r ih =>
    obtain ⟨n, hn⟩ := hk a (by simp)
    rw [List.map_cons, List.nodup_cons] at hd
    cases j with
    | zero =>
      have : a = e := by simpa using he
      subst this
      rw [List.modify_zero_cons, hf, getL_cons (n := n) (by simpa using hn), getL_cons hn, keyN_of hn]
      by_cases c : k = n
      · rw [if_pos c, if_pos c.symm]
      · rw [if_neg c, if_neg (fun e => c e.symm), if_neg (fun e => c e.symm)]
    | succ j =>
      have he' : r[j]? = some e := by simpa using he
      rw [List.modify_succ_cons, getL_cons hn, getL_cons hn, ih (fun e he => hk e (by simp [he])) hd.2 he']
      have hne : keyN e ≠ n := fun eq => hd.1 (by rw [keyN_of hn, ← eq]; exact List.mem_map.2 ⟨e, List.mem_of_getElem? he', rfl⟩)
      by_cases c : n = k
      · rw [if_pos c, if_pos c, if_neg (fun eq => hne (by omega))]
      · rw [if_neg c, if_neg c]

section
variable {P : Program} {w w' : World} {r : Nat} {q : Nat → Option Value}

theorem MapAt.lt (h : MapAt w r q) : r < w.heap.size := by
  obtain ⟨es, clock, hb, _⟩ := h
  exact (Array.getElem?_eq_some_iff.1 hb).1
theorem MapAt.same (h : MapAt w r q) (e : w'.heap[r]? = w.heap[r]?) : MapAt w' r q := by
  obtain ⟨es, clock, hb, h⟩ := h
  exact ⟨es, clock, e.trans hb, h⟩
theorem MapAt.drew (h : MapAt w r q) : MapAt w.drew r q := h
theorem MapAt.alloc (h : MapAt w r q) (o : Obj) : MapAt (w.alloc o) r q := h.same (Below.heap_alloc _ _ _ h.lt)
theorem MapAt.setCell (h : MapAt w r q) (p : Addr) (v : Value) (hne : r ≠ p.block) : MapAt (w.setCell p v) r q := h.same (Below.heap_setCell _ _ _ _ hne)
theorem MapAt.ne_blk (h : MapAt w r q) {b : Nat} {c : Array Value} {T : TypeId} (hb : Blk w b c T) : r ≠ b := fun e => by
  obtain ⟨es, clock, h1, _⟩ := h
  subst e
  have := h1.symm.trans hb
  simp at this
theorem MapAt.new (w : World) : MapAt (w.alloc (.map #[] 0)) w.heap.size (fun _ => none) :=
  ⟨#[], 0, (MapKept.heap_alloc w _).1, by simp, by simp, fun k => rfl⟩

theorem run_checkKey_int {key : TypeId} (hk : P.underlying key = some (.int .i64)) (em : Bool) (k : Int) : (Instr.checkKey em 10000 key (.int .i64 k)).run P w = .ok () w := by
  have h : ∀ n : Nat, (Instr.checkKey em (n + 1) key (.int .i64 k)).run P w = .ok () w := fun n => by simp [Instr.checkKey, run_underlying hk]
  exact h 9999

theorem run_findKey_int {key : TypeId} (hk : P.underlying key = some (.int .i64)) (k : Nat) {l : List MapEntry} (hl : ∀ e ∈ l, IntKey e) :
    (getL l k = none ∧ (∀ e ∈ l, keyN e ≠ k) ∧ (Instr.findKey key (.int .i64 (k : Int)) l).run P w = .ok none w) ∨
    (∃ j e, l[j]? = some e ∧ e.key = .int .i64 (k : Int) ∧ getL l k = some e.val ∧ (Instr.findKey key (.int .i64 (k : Int)) l).run P w = .ok (some (j, e.val)) w) := by
  rcases findNow_spec k l 0 hl with ⟨h1, h2, h3⟩ | ⟨j, e, h1, h2, h3, h4⟩
  · exact .inl ⟨h1, h3, by simp [Instr.findKey, run_underlying hk, h2]⟩
  · exact .inr ⟨j, e, h1, h2, h3, by simp [Instr.findKey, run_underlying hk, h4]⟩

theorem MapAt.look (h : MapAt w r q) {T key elem : TypeId} (hT : P.underlying T = some (.map key elem)) (hk : P.underlying key = some (.int .i64)) {z : Value}
    (hz : ∀ w : World, (zeroValue elem).run P w = .ok z w) (k : Nat) :
    (Instr.lookup T (.map (some r)) (.int .i64 (k : Int)) true).run P w = .ok (.tuple #[(q k).getD z, .bool (q k).isSome]) w := by
  obtain ⟨es, clock, hb, hl, hd, hq⟩ := h
  rcases run_findKey_int (P := P) (w := w) hk k hl with ⟨h1, _, h2⟩ | ⟨j, e, h1, h2, h3, h4⟩
  · rw [hq k, h1]
    simp [Instr.lookup, run_underlying hT, getObj, Sem.run, hb, run_checkKey_int hk, h2, hz]
  · rw [hq k, h3]
    simp [Instr.lookup, run_underlying hT, getObj, Sem.run, hb, run_checkKey_int hk, h4]

theorem mem_of_toList {es : Array MapEntry} {j : Nat} {e : MapEntry} (h : es.toList[j]? = some e) : es[j]? = some e := by simpa using h

theorem heap_setBlock (w : World) (r : Nat) (o : Obj) (k : Nat) : ({ w with heap := w.heap.setIfInBounds r o } : World).heap[k]? = if k = r ∧ r < w.heap.size then some o else w.heap[k]? := by
  show (w.heap.setIfInBounds r o)[k]? = _
  rw [Array.getElem?_setIfInBounds]
  by_cases c : r = k
  · subst c
    by_cases c2 : r < w.heap.size
    · simp [c2]
    · simp [c2]
  · rw [if_neg c, if_neg (fun e => c e.1.symm)]

/-- 'delete(m, k)'. -/
theorem MapAt.del (h : MapAt w r q) {T key elem ty : TypeId} (hT : P.underlying T = some (.map key elem)) (hk : P.underlying key = some (.int .i64)) (k : Nat) (ats : Array TypeId) (hats : ats[0]? = some T) :
    ∃ w', (Builtin.delete_ ats ty #[.map (some r), .int .i64 (k : Int)]).run P w = .ok (.tuple #[]) w' ∧ MapAt w' r (fun j => if j = k then none else q j) ∧ w.grownBy w' (some r) := by
  have hlt := h.lt
  obtain ⟨es, clock, hb, hl, hd, hq⟩ := h
  have hgr : ∀ o, w.grownBy { w with heap := w.heap.setIfInBounds r o } (some r) := fun o =>
    ⟨rfl, rfl, rfl, by simp, fun i _ hi => by rw [heap_setBlock, if_neg (fun e => hi (by rw [e.1]))]⟩
  rcases run_findKey_int (P := P) (w := w) hk k hl with ⟨h1, h3, h2⟩ | ⟨j, e, h1, h2, h3, h4⟩
  · refine ⟨{ w with heap := w.heap.setIfInBounds r (.map es clock) }, ?_, ⟨es, clock, by rw [heap_setBlock, if_pos ⟨rfl, hlt⟩], hl, hd, fun j => ?_⟩, hgr _⟩
    · simp [Builtin.delete_, hats, run_underlying hT, getObj, setObj, Sem.run, hb, run_checkKey_int hk, h2]
    · show (if j = k then none else q j) = _
      by_cases c : j = k
      · subst c; rw [if_pos rfl, h1]
      · rw [if_neg c, hq j]
  · refine ⟨{ w with heap := w.heap.setIfInBounds r (.map (es.eraseIdxIfInBounds j) clock) }, ?_, ⟨_, clock, by rw [heap_setBlock, if_pos ⟨rfl, hlt⟩], ?_, ?_, fun i => ?_⟩, hgr _⟩
    · simp [Builtin.delete_, hats, run_underlying hT, getObj, setObj, Sem.run, hb, run_checkKey_int hk, h4]
    all_goals
      have hj : j < es.size := by
        have := (List.getElem?_eq_some_iff.1 h1).1; simpa using this
      have he : (es.eraseIdxIfInBounds j).toList = es.toList.eraseIdx j := by
        simp [Array.eraseIdxIfInBounds, hj]
      rw [he]
    · exact fun x hx => hl x (List.mem_of_mem_eraseIdx hx)
    · exact hd.sublist ((List.eraseIdx_sublist _ _).map _)
    · show (if i = k then none else q i) = _
      rw [getL_erase hl hd h1, keyN_of h2, hq i]

/-- 'm[k] = v'. -/
theorem MapAt.put (h : MapAt w r q) {T key elem : TypeId} (hT : P.underlying T = some (.map key elem)) (hk : P.underlying key = some (.int .i64)) (k : Nat) (v : Value) :
    ∃ w', (Instr.mapUpdate T (.map (some r)) (.int .i64 (k : Int)) v).run P w = .ok () w' ∧ MapAt w' r (fun j => if j = k then some v else q j) ∧ w.grownBy w' (some r) := by
  have hlt := h.lt
  obtain ⟨es, clock, hb, hl, hd, hq⟩ := h
  have hgr : ∀ o, w.grownBy { w with heap := w.heap.setIfInBounds r o } (some r) := fun o =>
    ⟨rfl, rfl, rfl, by simp, fun i _ hi => by rw [heap_setBlock, if_neg (fun e => hi (by rw [e.1]))]⟩
  rcases run_findKey_int (P := P) (w := w) hk k hl with ⟨h1, h3, h2⟩ | ⟨j, e, h1, h2, h3, h4⟩
  · refine ⟨{ w with heap := w.heap.setIfInBounds r (.map (es.push { key := .int .i64 (k : Int), val := v, born := clock }) (clock + 1)) }, ?_, ⟨_, clock + 1, by rw [heap_setBlock, if_pos ⟨rfl, hlt⟩], ?_, ?_, fun j => ?_⟩, hgr _⟩
    · simp [Instr.mapUpdate, run_underlying hT, getObj, setObj, Sem.run, hb, run_checkKey_int hk, h2]
    · intro x hx
      rw [Array.toList_push] at hx
      rcases List.mem_append.1 hx with hx | hx
      · exact hl x hx
      · rw [List.mem_singleton.1 hx]; exact ⟨k, rfl⟩
    · rw [Array.toList_push, List.map_append, List.nodup_append]
      refine ⟨hd, by simp, fun a ha b hb e => ?_⟩
      obtain ⟨x, hx, rfl⟩ := List.mem_map.1 ha
      have : b = k := by simpa [keyN] using hb
      exact h3 x hx (by omega)
    · show (if j = k then some v else q j) = _
      rw [Array.toList_push, getL_append hl, getL_cons (n := k) rfl, hq j]
      by_cases c : j = k
      · subst c; rw [if_pos rfl, if_pos rfl, h1]; rfl
      · rw [if_neg c, if_neg (fun e => c e.symm)]; simp [getL]
  · have hval : ((es[j]?).map (·.key)).getD (.int .i64 (k : Int)) = .int .i64 (k : Int) := by rw [mem_of_toList h1]; simpa using h2
    refine ⟨{ w with heap := w.heap.setIfInBounds r (.map (es.modify j fun e => { e with key := .int .i64 (k : Int), val := v }) clock) }, ?_, ⟨_, clock, by rw [heap_setBlock, if_pos ⟨rfl, hlt⟩], ?_, ?_, fun i => ?_⟩, hgr _⟩
    · have hs : Instr.sameBits 10000 (.int .i64 (k : Int)) (.int .i64 (k : Int)) = true := by unfold Instr.sameBits; simp
      simp [Instr.mapUpdate, run_underlying hT, getObj, setObj, Sem.run, hb, run_checkKey_int hk, h4, hval, Instr.keyThatStays, hs]
    all_goals rw [Array.toList_modify]
    · intro x hx
      obtain ⟨i, hi⟩ := List.mem_iff_getElem?.1 hx
      rw [List.getElem?_modify] at hi
      cases ho : es.toList[i]? with
      | none => rw [ho] at hi; simp at hi
      | some y =>
        rw [ho] at hi
        have hi := Option.some.inj hi
        by_cases c : j = i
        · simp only [c, if_true] at hi; subst hi; exact ⟨k, rfl⟩
        · simp only [c, if_false] at hi; subst hi; exact hl _ (List.mem_of_getElem? ho)
    · have : (es.toList.modify j fun e => { e with key := .int .i64 (k : Int), val := v }).map keyN = es.toList.map keyN := by
        apply List.ext_getElem?
        intro i
        rw [List.getElem?_map, List.getElem?_map, List.getElem?_modify]
        cases ho : es.toList[i]? with
        | none => rfl
        | some y =>
          by_cases c : j = i
          · subst c
            rw [h1] at ho
            have ho := Option.some.inj ho
            subst ho
            simp [keyN, h2]
          · simp [c]
      rw [this]; exact hd
    · show (if i = k then some v else q i) = _
      rw [getL_modify hl hd h1 v _ (fun x => by rw [h2]) i, keyN_of h2, hq i]

/-- 'len(m)'. -/
theorem MapAt.len (h : MapAt w r q) {T key elem ty : TypeId} (hT : P.underlying T = some (.map key elem)) (ats : Array TypeId) (hats : ats[0]? = some T) :
    ∃ n : Nat, (Builtin.len_ ats ty #[.map (some r)]).run P w = .ok (.int .i64 (n : Int)) w ∧ (n = 0 ↔ ∀ k, q k = none) := by
  obtain ⟨es, clock, hb, hl, hd, hq⟩ := h
  refine ⟨es.size, ?_, ?_⟩
  · simp [Builtin.len_, hats, run_underlying hT, getObj, Sem.run, hb, goInt]
  · constructor
    · intro h k
      have : es = #[] := Array.eq_empty_of_size_eq_zero h
      subst this
      rw [hq k]; rfl
    · intro h
      rcases Nat.eq_zero_or_pos es.size with h0 | h0
      · exact h0
      · have hg : es.toList[0]? = some es[0] := by simp [h0]
        have hm := List.mem_of_getElem? hg
        obtain ⟨k, hk⟩ := hl _ hm
        have := h k
        rw [hq k] at this
        cases ht : es.toList with
        | nil => rw [ht] at hg; simp at hg
        | cons a t =>
          rw [ht] at hg this
          have hg : a = es[0] := by simpa using hg
          rw [getL_cons (n := k) (by rw [hg]; exact hk), if_pos rfl] at this
          simp at this
end
end Go.Proofs.YtdhhccpeikhilaaDoor
