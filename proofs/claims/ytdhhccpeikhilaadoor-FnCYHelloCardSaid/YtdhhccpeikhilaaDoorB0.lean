/- Small words for walks: a block of memory known whole, and how it fares under a store, a new block and a draw. -/
import Derived.Test.YtdhhccpeikhilaaDoorProg
import Derived.WalkKit
import Derived.WalkSpells
import Derived.WalkLawsBesides
namespace Go.Proofs.YtdhhccpeikhilaaDoor
open Go.RowKit

theorem ret_int {k : IntKind} {a b : Int} (h : a = b) : Ending.returned (.int k a) = .returned (.int k b) := by rw [h]
theorem ret_bool {a b : Bool} (h : a = b) : Ending.returned (.bool a) = .returned (.bool b) := by rw [h]

/-- Block b holds the cells c, of type T, none frozen. -/
def Blk (w : World) (b : Nat) (c : Array Value) (T : TypeId) : Prop := w.heap[b]? = some (.cells c T (0, 0))

section
variable {w w' : World} {b : Nat} {c c' : Array Value} {T T' : TypeId}

theorem Blk.cell (h : Blk w b c T) (i : Nat) : w.cell? ⟨b, i, none⟩ = c[i]? := by
  unfold Blk at h; simp [World.cell?, h]
theorem Blk.cellAt (h : Blk w b c T) (i : Nat) (v : Value) (hv : c[i]? = some v) : w.cell? ⟨b, i, none⟩ = some v := (h.cell i).trans hv
theorem Blk.free (h : Blk w b c T) (i : Nat) : w.frozen? ⟨b, i, none⟩ = false := by
  unfold Blk at h; simp [World.frozen?, h]
theorem Blk.lt (h : Blk w b c T) : b < w.heap.size := (Array.getElem?_eq_some_iff.1 h).1
theorem Blk.same (h : Blk w b c T) (e : w'.heap[b]? = w.heap[b]?) : Blk w' b c T := e.trans h
theorem Blk.drew (h : Blk w b c T) : Blk w.drew b c T := h
theorem Blk.alloc (h : Blk w b c T) (o : Obj) : Blk (w.alloc o) b c T := h.same (Below.heap_alloc _ _ _ h.lt)
theorem Blk.new (w : World) (c : Array Value) (T : TypeId) : Blk (w.alloc (.cells c T)) w.heap.size c T := by
  unfold Blk; exact heap_alloc_new w _
theorem Blk.newAt (w : World) (c : Array Value) (T : TypeId) (n : Nat) (hn : n = w.heap.size) : Blk (w.alloc (.cells c T)) n c T := by
  subst hn; exact Blk.new w c T
theorem Blk.set (h : Blk w b c T) (i : Nat) (v : Value) : Blk (w.setCell ⟨b, i, none⟩ v) b (c.setIfInBounds i v) T := by
  unfold Blk at *; simp only [World.setCell, Array.getElem?_modify, if_pos, h]; simp
theorem Blk.setOther (h : Blk w b c T) (p : Addr) (v : Value) (hne : b ≠ p.block) : Blk (w.setCell p v) b c T :=
  h.same (Below.heap_setCell _ _ _ _ hne)
theorem Blk.unique (h : Blk w b c T) (h' : Blk w b c' T') : c = c' ∧ T = T' := by
  have e := Option.some.inj (h.symm.trans h')
  injection e with h1 h2 h3
  exact ⟨h1, h2⟩
theorem Blk.ne_of_type {b' : Nat} (h : Blk w b c T) (h' : Blk w b' c' T') (hne : T ≠ T') : b ≠ b' := fun e => by
  subst e; exact hne (h.unique h').2
theorem Blk.grown {row : Option Nat} (h : Blk w b c T) (hg : w.grownBy w' row) (hne : some b ≠ row) : Blk w' b c T := h.same (hg.block b h.lt hne)
end

/-- WHAT A CALL LEAVES OF OLD MEMORY: block k is as it was, if it lies below B, or holds cells of a type that is not in the list Ts, or of which the number is not in the list ks .. -/
structure Fr (S : Nat → Prop) (w w' : World) : Prop where
  os : w'.os = w.os
  tape : w'.tape = w.tape
  output : w'.output = w.output
  size : w.heap.size ≤ w'.heap.size
  block : ∀ k, k < w.heap.size → ¬ S k → w'.heap[k]? = w.heap[k]?

section
variable {S S' : Nat → Prop} {w w' w'' : World}
theorem Fr.refl (S : Nat → Prop) (w : World) : Fr S w w := ⟨rfl, rfl, rfl, Nat.le_refl _, fun _ _ _ => rfl⟩
theorem Fr.trans (h : Fr S w w') (h' : Fr S w' w'') : Fr S w w'' :=
  ⟨h'.os.trans h.os, h'.tape.trans h.tape, h'.output.trans h.output, Nat.le_trans h.size h'.size,
    fun k hk hs => (h'.block k (Nat.lt_of_lt_of_le hk h.size) hs).trans (h.block k hk hs)⟩
theorem Fr.mono (h : Fr S w w') (hS : ∀ k, k < w.heap.size → S k → S' k) : Fr S' w w' :=
  ⟨h.os, h.tape, h.output, h.size, fun k hk hs => h.block k hk (fun e => hs (hS k hk e))⟩
theorem Fr.drew (h : Fr S w w') : Fr S w w'.drew := ⟨h.os, h.tape, h.output, h.size, h.block⟩
theorem Fr.alloc (h : Fr S w w') (o : Obj) : Fr S w (w'.alloc o) :=
  ⟨h.os, h.tape, h.output, by have := h.size; simp; omega,
    fun k hk hs => (Below.heap_alloc _ _ _ (Nat.lt_of_lt_of_le hk h.size)).trans (h.block k hk hs)⟩
theorem Fr.setCell (h : Fr S w w') (p : Addr) (v : Value) (hp : S p.block ∨ w.heap.size ≤ p.block) : Fr S w (w'.setCell p v) :=
  ⟨h.os, h.tape, h.output, by have := h.size; simp; omega,
    fun k hk hs => (Below.heap_setCell _ _ _ _ (fun e => by rcases hp with hp | hp; exact hs (e ▸ hp); omega)).trans (h.block k hk hs)⟩
theorem Fr.grown {row : Option Nat} (h : Fr S w w') (hg : w'.grownBy w'' row) (hr : ∀ k, row = some k → S k ∨ w.heap.size ≤ k) : Fr S w w'' :=
  ⟨hg.os.trans h.os, hg.tape.trans h.tape, hg.output.trans h.output, Nat.le_trans h.size hg.size,
    fun k hk hs => (hg.block k (Nat.lt_of_lt_of_le hk h.size) (fun e => by rcases hr k e.symm with h1 | h1; exact hs h1; omega)).trans (h.block k hk hs)⟩
theorem Fr.blk {b : Nat} {c : Array Value} {T : TypeId} (h : Fr S w w') (hb : Blk w b c T) (hs : ¬ S b) : Blk w' b c T := hb.same (h.block b hb.lt hs)
theorem Fr.below {B : Nat} (h : Fr S w w') (hB : B ≤ w.heap.size) (hS : ∀ k, S k → B ≤ k) : Below B w w' :=
  ⟨h.os, h.tape, h.output, h.size, fun k hk => h.block k (by omega) (fun e => by have := hS k e; omega)⟩
theorem Fr.of_below {B : Nat} (h : Below B w w') (hS : ∀ k, B ≤ k → k < w.heap.size → S k) : Fr S w w' :=
  ⟨h.os, h.tape, h.output, h.size, fun k hk hs => h.block k (Nat.lt_of_not_le fun e => hs (hS k e hk))⟩
end

/-- Nothing old is written. -/
abbrev Grow (w w' : World) : Prop := Fr (fun _ => False) w w'
theorem Grow.to {S : Nat → Prop} {w w' : World} (h : Grow w w') : Fr S w w' := h.mono (fun _ _ e => e.elim)

end Go.Proofs.YtdhhccpeikhilaaDoor
