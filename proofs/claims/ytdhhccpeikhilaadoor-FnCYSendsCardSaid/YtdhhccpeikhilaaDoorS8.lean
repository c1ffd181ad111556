/- What push does to the gaps and the queue, in steps: words. -/
import Derived.Test.YtdhhccpeikhilaaDoorS7
import Derived.Deep.DeepCutAuto
import Derived.Deep.CutBlock
import Derived.Deep.LoopGhost
import Derived.BigQuiet
namespace Go.Proofs.YtdhhccpeikhilaaDoor
open Go.RowKit

/-- What push makes of the gap in which, or behind which, the frame starts. -/
def GapUp (gs : List Gap) (i : Nat) (gi : Gap) (A Z : Nat) (rep : Bool) (gs3 : List Gap) (adj : Bool) : Prop :=
  (A ≤ gi.s ∧ gi.e ≤ Z ∧ gs3 = gs.eraseIdx i ∧ adj = false) ∨ (A ≤ gi.s ∧ Z < gi.e ∧ gs3 = gs.set i { gi with s := Z } ∧ adj = false) ∨
  (gi.s < A ∧ rep = false ∧ gs3 = gs.set i { gi with e := A } ∧ adj = true) ∨ (gi.s < A ∧ rep = true ∧ gs3 = gs ∧ adj = false)

/-- .. and where it ends, in the same gap. -/
def GapEnd1 (N : Nat) (gs3 : List Gap) (i : Nat) (gi : Gap) (Z2 : Nat) (adj : Bool) (gs6 : List Gap) : Prop :=
  (Z2 ≠ gi.e ∧ adj = true ∧ ∃ b, N ≤ b ∧ gs6 = gs3.insertIdx (i + 1) ⟨b, Z2, gi.e⟩) ∨ ((Z2 = gi.e ∨ adj = false) ∧ gs6 = gs3)

/-- What push does to the gaps and the queue, where the frame starts and ends in one gap. -/
def Push1 (N : Nat) (gs : List Gap) (q : Q) (l : List UInt8) (a n : Nat) (gi : Gap) (i : Nat) (inE : Bool) (gs6 : List Gap) (q6 : Q) : Prop :=
  ∃ (q1 : Q) (pos : Nat) (rep cut : Bool) (Z A : Nat) (gs3 : List Gap) (adj : Bool) (Z2 : Nat), L1End (a + n) q a q1 pos rep cut Z ∧ A = (if decide (gi.s ≤ a) = false ∧ rep = false then gi.s else a) ∧
    GapUp gs i gi A Z rep gs3 adj ∧ Z2 = (if inE = false ∧ A ≠ gi.e ∧ gi.e < Z then gi.e else Z) ∧ GapEnd1 N gs3 i gi Z2 adj gs6 ∧ q6 = putQ q1 A (seg l a A Z2)

/-- What stands ahead of the gaps behind gap i, then. -/
def HeadUp (gs : List Gap) (i : Nat) (gi : Gap) (A Z : Nat) (rep : Bool) (hd : List Gap) (adj : Bool) : Prop :=
  (A ≤ gi.s ∧ gi.e ≤ Z ∧ hd = gs.take i ∧ adj = false) ∨ (A ≤ gi.s ∧ Z < gi.e ∧ hd = gs.take i ++ [{ gi with s := Z }] ∧ adj = false) ∨
  (gi.s < A ∧ rep = false ∧ hd = gs.take i ++ [{ gi with e := A }] ∧ adj = true) ∨ (gi.s < A ∧ rep = true ∧ hd = gs.take i ++ [gi] ∧ adj = false)

theorem GapUp.head {gs gs3 : List Gap} {i : Nat} {gi : Gap} {A Z : Nat} {rep adj : Bool} (h : GapUp gs i gi A Z rep gs3 adj) (hgi : gs[i]? = some gi) : ∃ hd, HeadUp gs i gi A Z rep hd adj ∧ gs3 = hd ++ gs.drop (i + 1) := by
  have hlt : i < gs.length := (List.getElem?_eq_some_iff.1 hgi).1
  have hget : gs[i] = gi := (List.getElem?_eq_some_iff.1 hgi).2
  rcases h with ⟨a1, a2, rfl, a3⟩ | ⟨a1, a2, rfl, a3⟩ | ⟨a1, a2, rfl, a3⟩ | ⟨a1, a2, rfl, a3⟩
  · exact ⟨_, .inl ⟨a1, a2, rfl, a3⟩, List.eraseIdx_eq_take_drop_succ _ _⟩
  · exact ⟨_, .inr (.inl ⟨a1, a2, rfl, a3⟩), by rw [List.set_eq_take_append_cons_drop, if_pos hlt]; simp⟩
  · exact ⟨_, .inr (.inr (.inl ⟨a1, a2, rfl, a3⟩)), by rw [List.set_eq_take_append_cons_drop, if_pos hlt]; simp⟩
  · exact ⟨_, .inr (.inr (.inr ⟨a1, a2, rfl, a3⟩)), by rw [List.append_assoc, List.singleton_append, ← hget, List.getElem_cons_drop, List.take_append_drop]⟩

theorem GapUp.sub {gs gs3 : List Gap} {i : Nat} {gi : Gap} {A Z : Nat} {rep adj : Bool} {bL : Nat} (h : GapUp gs i gi A Z rep gs3 adj) (hgi : gs[i]? = some gi) (k : Nat) (hk : listS bL gs3 k) : listS bL gs k := by
  have hset : ∀ g : Gap, g.b = gi.b → listS bL (gs.set i g) k → listS bL gs k := by
    rintro g e (h | ⟨g', hg', rfl⟩)
    · exact .inl h
    · rcases List.mem_or_eq_of_mem_set hg' with h | rfl
      · exact .inr ⟨g', h, rfl⟩
      · rw [e]; exact listS_mem hgi
  rcases h with ⟨_, _, rfl, _⟩ | ⟨_, _, rfl, _⟩ | ⟨_, _, rfl, _⟩ | ⟨_, _, rfl, _⟩
  · rcases hk with h | ⟨g', hg', rfl⟩
    · exact .inl h
    · exact .inr ⟨g', List.mem_of_mem_eraseIdx hg', rfl⟩
  · exact hset { gi with s := Z } rfl hk
  · exact hset { gi with e := A } rfl hk
  · exact hk

theorem pushS_rlist {w : World} {r bL : Nat} {gs : List Gap} {q : Q} (hq : QAt w r q) (hL : ListAt w bL gs) : ¬ listS bL gs r := by
  rintro (e | ⟨g, hg, e⟩)
  · exact hq.ne_blk hL.root e
  · obtain ⟨j, hj⟩ := List.mem_iff_getElem?.1 hg
    exact hq.ne_blk (hL.node j g hj) e

end Go.Proofs.YtdhhccpeikhilaaDoor
