/- The linked list of gaps, whole: which blocks hold it, and what each of its functions does to the list. -/
import Derived.Test.YtdhhccpeikhilaaDoorP1
namespace Go.Proofs.YtdhhccpeikhilaaDoor
open Go.RowKit

/-- The block of element i; the root's behind the last one. -/
def lk (bL : Nat) (ns : List Gap) (i : Nat) : Nat := match ns[i]? with | some g => g.b | none => bL
/-- The block before place i; the root's before the first one. -/
def lkp (bL : Nat) (ns : List Gap) (i : Nat) : Nat := if i = 0 then bL else lk bL ns (i - 1)

abbrev elemC (bL n p s e : Nat) : Array Value := #[pt n, pt p, pt bL, .int .i64 (s : Int), .int .i64 (e : Int)]
abbrev rootC (a b : Nat) (n : Nat) : Array Value := #[pt a, pt b, .pointer none, .int .i64 0, .int .i64 0, .int .i64 (n : Int)]

structure ListAt (w : World) (bL : Nat) (ns : List Gap) : Prop where
  root : Blk w bL (rootC (lk bL ns 0) (lkp bL ns ns.length) ns.length) 138
  node : ∀ (i : Nat) (g : Gap), ns[i]? = some g → Blk w g.b (elemC bL (lk bL ns (i + 1)) (lkp bL ns i) g.s g.e) 128
  inj : ∀ (i j : Nat) (g h : Gap), ns[i]? = some g → ns[j]? = some h → g.b = h.b → i = j

section
variable {w w' : World} {bL : Nat} {ns : List Gap}

theorem lk_some {i : Nat} {g : Gap} (h : ns[i]? = some g) : lk bL ns i = g.b := by simp [lk, h]
theorem lk_none {i : Nat} (h : ns.length ≤ i) : lk bL ns i = bL := by simp [lk, List.getElem?_eq_none h]

theorem ListAt.ne (h : ListAt w bL ns) {i : Nat} {g : Gap} (hg : ns[i]? = some g) : g.b ≠ bL :=
  (h.node i g hg).ne_of_type h.root (by decide)

theorem ListAt.same (h : ListAt w bL ns) (hb : w'.heap[bL]? = w.heap[bL]?) (hn : ∀ g ∈ ns, w'.heap[g.b]? = w.heap[g.b]?) : ListAt w' bL ns :=
  ⟨h.root.same hb, fun i g hg => (h.node i g hg).same (hn g (List.mem_of_getElem? hg)), h.inj⟩

/-- The blocks of a list. -/
def listS (bL : Nat) (ns : List Gap) (k : Nat) : Prop := k = bL ∨ ∃ g ∈ ns, k = g.b

theorem heap_setCell (w : World) (b i : Nat) (v : Value) (k : Nat) :
    (w.setCell ⟨b, i, none⟩ v).heap[k]? = if k = b then (w.heap[k]?).map (fun | .cells c e f => .cells (c.setIfInBounds i v) e f | o => o) else w.heap[k]? := by
  simp only [World.setCell, Array.getElem?_modify]
  by_cases h : k = b
  · subst h
    simp only [if_pos]
    cases w.heap[k]? with
    | none => rfl
    | some o => cases o <;> simp
  · rw [if_neg h, if_neg (by omega)]

theorem heap_alloc_if (w : World) (o : Obj) (k : Nat) : (w.alloc o).heap[k]? = if k = w.heap.size then some o else w.heap[k]? := by
  show (w.heap.push o)[k]? = _
  rw [Array.getElem?_push]
theorem heap_drew (w : World) (k : Nat) : (w.drew).heap[k]? = w.heap[k]? := rfl

/-- A gap's ends turned where it stands. -/
theorem ListAt.setStart (h : ListAt w bL ns) {i : Nat} {g : Gap} (hg : ns[i]? = some g) (s : Nat) :
    ListAt (w.setCell ⟨g.b, 3, none⟩ (.int .i64 (s : Int))) bL (ns.set i { g with s := s }) := by
  have hlk : ∀ j, lk bL (ns.set i { g with s := s }) j = lk bL ns j := fun j => by
    by_cases e : i = j
    · subst e
      have hlt : i < ns.length := (List.getElem?_eq_some_iff.1 hg).1
      rw [lk_some hg, lk_some (g := { g with s := s }) (by simp [hlt])]
    · simp [lk, List.getElem?_set_ne e]
  have hlkp : ∀ j, lkp bL (ns.set i { g with s := s }) j = lkp bL ns j := fun j => by simp only [lkp, hlk]
  refine ⟨?_, fun j q hq => ?_, fun j k p q hp hq e => ?_⟩
  · rw [hlk, hlkp, List.length_set]
    exact h.root.setOther _ _ (fun e => h.ne hg e.symm)
  · rw [hlk, hlkp]
    by_cases e : i = j
    · subst e
      have hlt : i < ns.length := (List.getElem?_eq_some_iff.1 hg).1
      have : q = { g with s := s } := by simpa [hlt] using hq.symm
      subst this
      exact (h.node i g hg).set 3 _
    · rw [List.getElem?_set_ne e] at hq
      exact (h.node j q hq).setOther _ _ (fun eb => e (h.inj i j g q hg hq eb.symm))
  · have key : ∀ (a : Nat) (r : Gap), (ns.set i { g with s := s })[a]? = some r → ∃ r' : Gap, ns[a]? = some r' ∧ r'.b = r.b := fun a r hr => by
      by_cases ea : i = a
      · subst ea
        have hlt : i < ns.length := (List.getElem?_eq_some_iff.1 hg).1
        have : r = { g with s := s } := by simpa [hlt] using hr.symm
        exact ⟨g, hg, by rw [this]⟩
      · rw [List.getElem?_set_ne ea] at hr; exact ⟨r, hr, rfl⟩
    obtain ⟨p', hp', ep⟩ := key j p hp
    obtain ⟨q', hq', eq⟩ := key k q hq
    exact h.inj j k p' q' hp' hq' (by rw [ep, eq, e])
theorem ListAt.setEnd (h : ListAt w bL ns) {i : Nat} {g : Gap} (hg : ns[i]? = some g) (s : Nat) :
    ListAt (w.setCell ⟨g.b, 4, none⟩ (.int .i64 (s : Int))) bL (ns.set i { g with e := s }) := by
  have hlk : ∀ j, lk bL (ns.set i { g with e := s }) j = lk bL ns j := fun j => by
    by_cases e : i = j
    · subst e
      have hlt : i < ns.length := (List.getElem?_eq_some_iff.1 hg).1
      rw [lk_some hg, lk_some (g := { g with e := s }) (by simp [hlt])]
    · simp [lk, List.getElem?_set_ne e]
  have hlkp : ∀ j, lkp bL (ns.set i { g with e := s }) j = lkp bL ns j := fun j => by simp only [lkp, hlk]
  refine ⟨?_, fun j q hq => ?_, fun j k p q hp hq e => ?_⟩
  · rw [hlk, hlkp, List.length_set]
    exact h.root.setOther _ _ (fun e => h.ne hg e.symm)
  · rw [hlk, hlkp]
    by_cases e : i = j
    · subst e
      have hlt : i < ns.length := (List.getElem?_eq_some_iff.1 hg).1
      have : q = { g with e := s } := by simpa [hlt] using hq.symm
      subst this
      exact (h.node i g hg).set 4 _
    · rw [List.getElem?_set_ne e] at hq
      exact (h.node j q hq).setOther _ _ (fun eb => e (h.inj i j g q hg hq eb.symm))
  · have key : ∀ (a : Nat) (r : Gap), (ns.set i { g with e := s })[a]? = some r → ∃ r' : Gap, ns[a]? = some r' ∧ r'.b = r.b := fun a r hr => by
      by_cases ea : i = a
      · subst ea
        have hlt : i < ns.length := (List.getElem?_eq_some_iff.1 hg).1
        have : r = { g with e := s } := by simpa [hlt] using hr.symm
        exact ⟨g, hg, by rw [this]⟩
      · rw [List.getElem?_set_ne ea] at hr; exact ⟨r, hr, rfl⟩
    obtain ⟨p', hp', ep⟩ := key j p hp
    obtain ⟨q', hq', eq⟩ := key k q hq
    exact h.inj j k p' q' hp' hq' (by rw [ep, eq, e])

theorem Blk.setIf {k p i : Nat} {c : Array Value} {T : TypeId} {v : Value} (h : Blk w k c T) : Blk (w.setCell ⟨p, i, none⟩ v) k (if k = p then c.setIfInBounds i v else c) T := by
  by_cases e : k = p
  · subst e; rw [if_pos rfl]; exact h.set i v
  · rw [if_neg e]; exact h.setOther _ _ e

/-- What a removal leaves, block by block. -/
theorem Blk.rem {k b bP bN : Nat} {len : Int} {c : Array Value} {T : TypeId} (h : Blk w k c T) : Blk (remW w bL b bP bN len) k
    (let c := if k = bP then c.setIfInBounds 0 (pt bN) else c
     let c := if k = bN then c.setIfInBounds 1 (pt bP) else c
     let c := if k = b then c.setIfInBounds 0 (.pointer none) else c
     let c := if k = b then c.setIfInBounds 1 (.pointer none) else c
     let c := if k = b then c.setIfInBounds 2 (.pointer none) else c
     if k = bL then c.setIfInBounds 5 (.int .i64 (len - 1)) else c) T :=
  (((((h.setIf).setIf).setIf).setIf).setIf).setIf

theorem lk_erase (i j : Nat) : lk bL (ns.eraseIdx i) j = if j < i then lk bL ns j else lk bL ns (j + 1) := by
  simp only [lk, List.getElem?_eraseIdx]; by_cases h : j < i <;> simp [h]
theorem lkp_erase (i j : Nat) : lkp bL (ns.eraseIdx i) j = if j ≤ i then lkp bL ns j else lk bL ns j := by
  unfold lkp; rw [lk_erase]; repeat' split
  all_goals first | rfl | omega | (congr 1; omega)

theorem ListAt.lk_inj (h : ListAt w bL ns) {i : Nat} {g : Gap} (hg : ns[i]? = some g) (j : Nat) : g.b = lk bL ns j ↔ i = j := by
  constructor
  · intro e
    unfold lk at e
    cases hj : ns[j]? with
    | none => rw [hj] at e; exact (h.ne hg e).elim
    | some q => rw [hj] at e; exact h.inj i j g q hg hj e
  · rintro rfl; exact (lk_some hg).symm
theorem ListAt.lkp_inj (h : ListAt w bL ns) {i : Nat} {g : Gap} (hg : ns[i]? = some g) (j : Nat) : g.b = lkp bL ns j ↔ i + 1 = j := by
  unfold lkp
  split
  · subst_vars; constructor
    · intro e; exact (h.ne hg e).elim
    · omega
  · rw [h.lk_inj hg]; omega

theorem ListAt.erase (h : ListAt w bL ns) {i : Nat} {g : Gap} (hg : ns[i]? = some g) (hi : i + 1 < ns.length) :
    ListAt (remW w bL g.b (lkp bL ns i) (lk bL ns (i + 1)) ns.length) bL (ns.eraseIdx i) := by
  have hlen : (ns.eraseIdx i).length = ns.length - 1 := by rw [List.length_eraseIdx, if_pos (by omega)]
  obtain ⟨gN, hgN⟩ : ∃ gN, ns[i + 1]? = some gN := ⟨_, List.getElem?_eq_getElem hi⟩
  have eN : lk bL ns (i + 1) = gN.b := lk_some hgN
  have node : ∀ (j k : Nat) (q : Gap), ns[k]? = some q → k ≠ i → k = (if j < i then j else j + 1) → Blk (remW w bL g.b (lkp bL ns i) (lk bL ns (i + 1)) ns.length) q.b (elemC bL (lk bL (ns.eraseIdx i) (j + 1)) (lkp bL (ns.eraseIdx i) j) q.s q.e) 128 := by
    intro j k q hq hki hk
    have hb := (h.node k q hq).rem (bL := bL) (b := g.b) (bP := lkp bL ns i) (bN := lk bL ns (i + 1)) (len := ns.length)
    have x1 : q.b ≠ bL := h.ne hq
    have x2 : q.b ≠ g.b := fun e => hki (h.inj k i q g hq hg e)
    simp only [if_neg x1, if_neg x2, h.lk_inj hq, h.lkp_inj hq] at hb
    rw [lk_erase, lkp_erase]
    by_cases c1 : k + 1 = i
    · have : j = k := by split at hk <;> omega
      subst this
      rw [if_pos c1, if_neg (by omega)] at hb
      rw [if_neg (by omega), if_pos (by omega), c1]
      simpa using hb
    · rw [if_neg c1] at hb
      by_cases c2 : k = i + 1
      · have : j = i := by split at hk <;> omega
        subst this
        rw [if_pos c2] at hb
        rw [if_neg (by omega), if_pos (by omega)]
        subst c2
        simpa using hb
      · rw [if_neg c2] at hb
        by_cases c3 : j < i
        · rw [if_pos c3] at hk
          subst hk
          rw [if_pos (by omega), if_pos (by omega)]
          exact hb
        · rw [if_neg c3] at hk
          subst hk
          rw [if_neg (by omega), if_neg (by omega)]
          exact hb
  refine ⟨?_, fun j q hq => ?_, fun j k p q hp hq e => ?_⟩
  · have hb := h.root.rem (bL := bL) (b := g.b) (bP := lkp bL ns i) (bN := lk bL ns (i + 1)) (len := ns.length)
    have x1 : bL ≠ g.b := fun e => h.ne hg e.symm
    have x2 : bL ≠ gN.b := fun e => h.ne hgN e.symm
    have x3 : bL = lkp bL ns i ↔ i = 0 := by
      unfold lkp; split
      · rename_i c; exact ⟨fun _ => c, fun _ => rfl⟩
      · have hlt : i < ns.length := by omega
        obtain ⟨q, hq⟩ : ∃ q, ns[i - 1]? = some q := ⟨_, List.getElem?_eq_getElem (by omega)⟩
        rw [lk_some hq]
        constructor
        · intro e; exact (h.ne hq e.symm).elim
        · omega
    have f1 : lkp bL (ns.eraseIdx i) (ns.length - 1) = lk bL ns (ns.length - 1) := by rw [lkp_erase, if_neg (by omega)]
    rw [hlen, f1, lk_erase]
    have e1 : lkp bL ns ns.length = lk bL ns (ns.length - 1) := by unfold lkp; rw [if_neg (by omega)]
    rw [e1] at hb
    have e2 : ((ns.length : Nat) : Int) - 1 = ((ns.length - 1 : Nat) : Int) := by omega
    simp only [eN, if_neg x1, if_neg x2, x3, if_true] at hb
    rw [eN]
    by_cases c : i = 0
    · rw [if_pos c] at hb
      rw [if_neg (by omega)]
      subst c
      rw [eN]
      simpa [e2] using hb
    · rw [if_neg c] at hb
      rw [if_pos (by omega)]
      simpa [e2] using hb
  · rw [List.getElem?_eraseIdx] at hq
    by_cases c : j < i
    · rw [if_pos c] at hq; exact node j j q hq (by omega) (by rw [if_pos c])
    · rw [if_neg c] at hq; exact node j (j + 1) q hq (by omega) (by rw [if_neg c])
  · rw [List.getElem?_eraseIdx] at hp hq
    by_cases c1 : j < i <;> by_cases c2 : k < i <;> simp only [c1, c2, if_true, if_false] at hp hq <;> have := h.inj _ _ _ _ hp hq e <;> omega

/-- What an insertion leaves, block by block. -/
theorem Blk.ins {k bE bA bX : Nat} {len : Int} {c : Array Value} {T : TypeId} (h : Blk w k c T) : Blk (insW w bL bE bA bX len) k
    (let c := if k = bE then c.setIfInBounds 1 (pt bA) else c
     let c := if k = bE then c.setIfInBounds 0 (pt bX) else c
     let c := if k = bA then c.setIfInBounds 0 (pt bE) else c
     let c := if k = bX then c.setIfInBounds 1 (pt bE) else c
     let c := if k = bE then c.setIfInBounds 2 (pt bL) else c
     if k = bL then c.setIfInBounds 5 (.int .i64 (len + 1)) else c) T :=
  (((((h.setIf).setIf).setIf).setIf).setIf).setIf

/-- The three blocks that InsertAfter lays. -/
abbrev insAW (w : World) (bL bA bX : Nat) (len s e : Int) : World := insVW (w.alloc (pairO s e)) bL bA bX len s e
theorem Blk.insA {k bA bX : Nat} {len s e : Int} {c : Array Value} {T : TypeId} (h : Blk w k c T) : Blk (insAW w bL bA bX len s e) k
    (let c := if k = bA then c.setIfInBounds 0 (pt (w.heap.size + 2)) else c
     let c := if k = bX then c.setIfInBounds 1 (pt (w.heap.size + 2)) else c
     if k = bL then c.setIfInBounds 5 (.int .i64 (len + 1)) else c) T := by
  have hlt := h.lt
  have := (((h.alloc (pairO s e)).alloc (pairO s e)).alloc (.cells #[.pointer none, .pointer none, .pointer none, .int .i64 s, .int .i64 e] 128)).ins (bL := bL) (bE := w.heap.size + 2) (bA := bA) (bX := bX) (len := len)
  have hne : k ≠ w.heap.size + 2 := by omega
  simp only [if_neg hne] at this
  unfold insAW insVW
  simpa using this
theorem Blk.insNew {bA bX : Nat} {len s e : Int} (hA : bA < w.heap.size) (hX : bX < w.heap.size) (hL : bL < w.heap.size) : Blk (insAW w bL bA bX len s e) (w.heap.size + 2)
    #[pt bX, pt bA, pt bL, .int .i64 s, .int .i64 e] 128 := by
  have := (Blk.newAt ((w.alloc (pairO s e)).alloc (pairO s e)) #[.pointer none, .pointer none, .pointer none, .int .i64 s, .int .i64 e] 128 (w.heap.size + 2) (by simp)).ins (bL := bL) (bE := w.heap.size + 2) (bA := bA) (bX := bX) (len := len)
  have h1 : ¬ w.heap.size + 2 = bA := by omega
  have h2 : ¬ w.heap.size + 2 = bX := by omega
  have h3 : ¬ w.heap.size + 2 = bL := by omega
  simp only [h1, h2, h3, if_true, if_false] at this
  unfold insAW insVW
  simpa using this

theorem lk_insert {x : Gap} (i j : Nat) (hi : i ≤ ns.length) : lk bL (ns.insertIdx i x) j = if j < i then lk bL ns j else if j = i then x.b else lk bL ns (j - 1) := by
  simp only [lk, List.getElem?_insertIdx]; by_cases h : j < i
  · simp [h]
  · by_cases h2 : j = i
    · subst h2; simp [hi]
    · simp [h, h2]
theorem lkp_insert {x : Gap} (i j : Nat) (hi : i ≤ ns.length) : lkp bL (ns.insertIdx i x) j = if j ≤ i then lkp bL ns j else if j = i + 1 then x.b else lkp bL ns (j - 1) := by
  unfold lkp; rw [lk_insert i _ hi]; repeat' split
  all_goals first | rfl | omega | (congr 1; omega)

theorem same_gap {k : Nat} {q g : Gap} (h : ns[k]? = some q) (h' : ns[k]? = some g) : q.b = g.b := congrArg Gap.b (Option.some.inj (h.symm.trans h'))
theorem get_insert {x : Gap} {i j : Nat} {q : Gap} (hi : i ≤ ns.length) (hq : (ns.insertIdx i x)[j]? = some q) : (j = i ∧ q = x) ∨ (j ≠ i ∧ ns[if j < i then j else j - 1]? = some q) := by
  rw [List.getElem?_insertIdx] at hq
  by_cases c : j < i
  · rw [if_pos c] at hq; exact .inr ⟨by omega, by rw [if_pos c]; exact hq⟩
  · rw [if_neg c] at hq
    by_cases c2 : j = i
    · subst c2
      rw [if_pos rfl, if_pos hi] at hq
      injection hq with hq
      exact .inl ⟨rfl, hq.symm⟩
    · rw [if_neg c2] at hq; exact .inr ⟨c2, by rw [if_neg c]; exact hq⟩

theorem ListAt.insert (h : ListAt w bL ns) {i : Nat} {g : Gap} (hg : ns[i]? = some g) (s e : Nat) :
    ListAt (insAW w bL g.b (lk bL ns (i + 1)) ns.length s e) bL (ns.insertIdx (i + 1) ⟨w.heap.size + 2, s, e⟩) := by
  have hi : i < ns.length := (List.getElem?_eq_some_iff.1 hg).1
  have hi' : i + 1 ≤ ns.length := hi
  have hlen : (ns.insertIdx (i + 1) ⟨w.heap.size + 2, s, e⟩).length = ns.length + 1 := by rw [List.length_insertIdx, if_pos hi']
  have hlt : ∀ j, lk bL ns j < w.heap.size := fun j => by
    unfold lk; cases hj : ns[j]? with
    | none => exact h.root.lt
    | some q => exact (h.node j q hj).lt
  have old : ∀ (j k : Nat) (q : Gap), ns[k]? = some q → j ≠ i + 1 → k = (if j < i + 1 then j else j - 1) → Blk (insAW w bL g.b (lk bL ns (i + 1)) ns.length s e) q.b (elemC bL (lk bL (ns.insertIdx (i + 1) ⟨w.heap.size + 2, s, e⟩) (j + 1)) (lkp bL (ns.insertIdx (i + 1) ⟨w.heap.size + 2, s, e⟩) j) q.s q.e) 128 := by
    intro j k q hq hki hk
    have x1 : q.b ≠ bL := h.ne hq
    have x2 : q.b = g.b ↔ k = i := ⟨fun e => h.inj k i q g hq hg e, fun e => same_gap hq (e ▸ hg)⟩
    have hb := (h.node k q hq).insA (bL := bL) (bA := g.b) (bX := lk bL ns (i + 1)) (len := ns.length) (s := s) (e := e)
    simp only [if_neg x1, x2, h.lk_inj hq] at hb
    rw [lk_insert _ _ hi', lkp_insert _ _ hi']
    by_cases c1 : k = i
    · have : j = i := by split at hk <;> omega
      subst this
      rw [if_pos c1, if_neg (by omega)] at hb
      rw [if_neg (by omega), if_pos rfl, if_pos (by omega)]
      subst c1
      simpa using hb
    · rw [if_neg c1] at hb
      by_cases c2 : k = i + 1
      · have : j = i + 2 := by split at hk <;> omega
        subst this
        rw [if_pos c2] at hb
        rw [if_neg (by omega), if_neg (by omega), if_neg (by omega), if_pos rfl]
        subst c2
        simpa using hb
      · rw [if_neg c2] at hb
        by_cases c3 : j < i + 1
        · rw [if_pos c3] at hk
          subst hk
          rw [if_pos (by omega), if_pos (by omega)]
          exact hb
        · rw [if_neg c3] at hk
          subst hk
          rw [if_neg (by omega), if_neg (by omega), if_neg (by omega), if_neg (by omega)]
          have e1 : j + 1 - 1 = j - 1 + 1 := by omega
          rw [e1]
          exact hb
  refine ⟨?_, fun j q hq => ?_, fun j k p q hp hq e => ?_⟩
  · have hb := h.root.insA (bL := bL) (bA := g.b) (bX := lk bL ns (i + 1)) (len := ns.length) (s := s) (e := e)
    have x1 : bL ≠ g.b := fun e => h.ne hg e.symm
    have x3 : bL = lk bL ns (i + 1) ↔ i + 1 = ns.length := by
      constructor
      · intro e
        cases hj : ns[i + 1]? with
        | none => have := List.getElem?_eq_none_iff.1 hj; omega
        | some q => rw [lk_some hj] at e; exact (h.ne hj e.symm).elim
      · intro e; rw [lk_none (by omega)]
    have f0 : lk bL (ns.insertIdx (i + 1) ⟨w.heap.size + 2, s, e⟩) 0 = lk bL ns 0 := by rw [lk_insert _ _ hi', if_pos (by omega)]
    rw [hlen, f0, lkp_insert _ _ hi', if_neg (by omega)]
    simp only [if_neg x1, x3, if_true] at hb
    by_cases c : i + 1 = ns.length
    · rw [if_pos c] at hb
      rw [if_pos (by omega)]
      simpa [rootC] using hb
    · rw [if_neg c] at hb
      rw [if_neg (by omega)]
      simpa [rootC] using hb
  · rcases get_insert hi' hq with ⟨rfl, rfl⟩ | ⟨hj, hq'⟩
    · rw [lk_insert _ _ hi', lkp_insert _ _ hi', if_neg (by omega), if_neg (by omega), if_pos (by omega)]
      have hn := Blk.insNew (w := w) (bL := bL) (bA := g.b) (bX := lk bL ns (i + 1)) (len := ns.length) (s := s) (e := e) (h.node i g hg).lt (hlt _) h.root.lt
      have e1 : lkp bL ns (i + 1) = g.b := by unfold lkp; rw [if_neg (by omega)]; exact lk_some hg
      have e3 : i + 1 + 1 - 1 = i + 1 := by omega
      rw [e1, e3]
      exact hn
    · exact old j _ q hq' hj rfl
  · rcases get_insert hi' hp with ⟨rfl, rfl⟩ | ⟨hj, hp'⟩ <;> rcases get_insert hi' hq with ⟨rfl, rfl⟩ | ⟨hk, hq'⟩
    · rfl
    · have := (h.node _ q hq').lt; simp only at e; omega
    · have := (h.node _ p hp').lt; simp only at e; omega
    · have := h.inj _ _ _ _ hp' hq' e
      split at this <;> split at this <;> omega

end
end Go.Proofs.YtdhhccpeikhilaaDoor
