/- What the frame sorter's push does, in steps: words for its walk. -/
import Derived.Test.YtdhhccpeikhilaaDoorS5
import Derived.Laws.CopyOwn
import Derived.Deep.OwnRows
import Derived.Lib.Hide
namespace Go.Proofs.YtdhhccpeikhilaaDoor
open Go.RowKit

/-- The loop over the entries from a on: what is left of the queue, how far it went, whether an entry went. -/
inductive L1 (z : Nat) (q0 : Q) (a : Nat) : Q → Nat → Bool → Prop
  | start : L1 z q0 a q0 a false
  | next {q pos rep d} (h : L1 z q0 a q pos rep) (hd : q pos = some d) (hc : pos + d.length < z ∨ (rep = true ∧ pos + d.length = z)) : L1 z q0 a (rmQ q pos) (pos + d.length) true

/-- .. at its end: at a place without an entry, or cut at one that goes on. -/
def L1End (z : Nat) (q0 : Q) (a : Nat) (q : Q) (pos : Nat) (rep cut : Bool) (z1 : Nat) : Prop :=
  L1 z q0 a q pos rep ∧ ((q pos = none ∧ cut = false ∧ z1 = z) ∨ (∃ d, q pos = some d ∧ z ≤ pos + d.length ∧ ¬ (rep = true ∧ pos + d.length = z) ∧ rep = true ∧ cut = true ∧ z1 = pos))

theorem L1.le {z a : Nat} {q0 q : Q} {pos : Nat} {rep : Bool} (haz : a < z) (h : L1 z q0 a q pos rep) (hok : QOk q0) : a ≤ pos ∧ pos ≤ z ∧ (rep = true → a < pos) ∧ (rep = false → pos = a ∧ q = q0) ∧ QOk q := by
  induction h with
  | start => exact ⟨Nat.le_refl _, by omega, by simp, fun _ => ⟨rfl, rfl⟩, hok⟩
  | next h hd hc ih =>
    obtain ⟨h1, h2, h3, h4, h5⟩ := ih
    have := (h5 _ _ hd).1
    have := List.length_pos_iff.2 this
    exact ⟨by omega, by omega, fun _ => by omega, by simp, h5.rm _⟩

/-- The bytes of a frame at a, from A to z. -/
def seg (l : List UInt8) (a A z : Nat) : List UInt8 := (l.drop (A - a)).take (z - A)
theorem seg_length (l : List UInt8) (a A z : Nat) (h1 : a ≤ A) (h2 : A ≤ z) (h3 : z ≤ a + l.length) : (seg l a A z).length = z - A := by
  unfold seg; rw [List.length_take, List.length_drop]; omega

/-- What stands when push has found its two gaps and there is something new. -/
structure PushIn (w : World) (bS r bL a n cap : Nat) (p : Option Addr) (gs : List Gap) (q : Q) (l : List UInt8) (c : Array Value) (T : TypeId) (g0 gi gj : Gap) (i j : Nat) (inE : Bool) : Prop where
  hS : Blk w bS c T
  h0 : c[0]? = some (.map (some r))
  h2 : c[2]? = some (pt bL)
  hT : T ≠ 138
  hT2 : T ≠ 128
  hT5 : T ≠ 5
  hL : ListAt w bL gs
  hq : QAt w r q
  hok : QOk q
  hl : Rd w (.slice p n cap) l
  hn : l.length = n
  hnp : 0 < n
  ha : a + n ≤ 16384
  hlen : gs.length ≤ 900
  hg0 : gs[0]? = some g0
  hfr : g0.s < a + n
  hs : Sorted gs
  hb : ∀ g ∈ gs, g.e ≤ 4611686018427387903
  hi : StartGap gs a i gi
  hj : EndAt gs i (a + n) j gj inE
  hnew : gi.s < a + n

theorem PushIn.bounds {w : World} {bS r bL a n cap : Nat} {p : Option Addr} {gs : List Gap} {q : Q} {l : List UInt8} {c : Array Value} {T : TypeId} {g0 gi gj : Gap} {i j : Nat} {inE : Bool}
    (h : PushIn w bS r bL a n cap p gs q l c T g0 gi gj i j inE) : ∀ g ∈ gs, g.e ≤ 4611686018427387903 ∧ g.s ≤ g.e := fun g hg => by
  obtain ⟨k, hk⟩ := List.mem_iff_getElem?.1 hg
  exact ⟨h.hb g hg, by have := h.hs.1 k g hk; omega⟩

theorem QAt.drewN {w : World} {r : Nat} {q : Q} (h : QAt w r q) (n : Nat) : QAt (w.drewN n) r q := h.keep rfl (fun _ _ => rfl)

/-- What push may write of old memory: the map and the list. -/
def pushS (r bL : Nat) (gs : List Gap) (k : Nat) : Prop := k = r ∨ listS bL gs k
theorem pushS_noBytes {w : World} {r bL : Nat} {gs : List Gap} {q : Q} (hq : QAt w r q) (hL : ListAt w bL gs) : ∀ k, pushS r bL gs k → ¬ BytesBlk w k := by
  rintro k (rfl | rfl | ⟨g, hg, rfl⟩)
  · exact hq.noBytes
  · exact hL.root.noBytes (by decide)
  · obtain ⟨j, hj⟩ := List.mem_iff_getElem?.1 hg
    exact (hL.node j g hj).noBytes (by decide)
theorem pushS_ne {w : World} {r bL : Nat} {gs : List Gap} {q : Q} (hq : QAt w r q) (hL : ListAt w bL gs) {b : Nat} {c : Array Value} {T : TypeId} (hb : Blk w b c T) (h1 : T ≠ 138) (h2 : T ≠ 128) : ¬ pushS r bL gs b := by
  rintro (rfl | rfl | ⟨g, hg, rfl⟩)
  · exact hq.ne_blk hb rfl
  · exact h1 (hb.unique hL.root).2
  · obtain ⟨j, hj⟩ := List.mem_iff_getElem?.1 hg
    exact h2 (hb.unique (hL.node j g hj)).2

theorem Rd.seg {w : World} {p : Option Addr} {n cap : Nat} {l : List UInt8} (h : Rd w (.slice p n cap) l) (hn : l.length = n) (k : Nat) (hk : k ≤ n) : Rd w (.slice p k cap) (l.take k) := h.take k (by omega)
end Go.Proofs.YtdhhccpeikhilaaDoor
