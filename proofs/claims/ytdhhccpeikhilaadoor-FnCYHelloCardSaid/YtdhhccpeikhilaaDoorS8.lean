/- What the frame sorter's push does, in steps: words for its walk. Copying bytes into a row of the call's own. What push does to the gaps and the queue, in steps: words. -/
import Derived.Test.YtdhhccpeikhilaaDoorS5
import Derived.Laws.CopyOwn
import Derived.Deep.OwnRows
import Derived.Lib.Hide
import Derived.Deep.DeepCutAuto
import Derived.Deep.CutBlock
import Derived.Deep.LoopGhost
import Derived.BigQuiet
namespace Go.Proofs.YtdhhccpeikhilaaDoor
open Go.RowKit

/-- The loop over the entries from a on: what is left of the queue, how far it went, whether an entry went. -/
inductive L1 (z : Nat) (q0 : Q) (a : Nat) : Q → Nat → Bool → Prop
  | start : L1 z q0 a q0 a false
  | next {q pos rep d} (h : L1 z q0 a q pos rep) (hd : q pos = some d) (hc : pos + d.length < z ∨ (rep = true ∧ pos + d.length = z)) : L1 z q0 a (rmQ q pos) (pos + d.length) true

/-- .. at its end: at a place without an entry, or cut at one that goes on. -/
def L1End (z : Nat) (q0 : Q) (a : Nat) (q : Q) (pos : Nat) (rep cut : Bool) (z1 : Nat) : Prop :=
  L1 z q0 a q pos rep ∧ ((q pos = none ∧ cut = false ∧ z1 = z) ∨ (∃ d, q pos = some d ∧ z ≤ pos + d.length ∧ ¬ (rep = true ∧ pos + d.length = z) ∧ rep = true ∧ cut = true ∧ z1 = pos))

theorem L1.le {z a : Nat} {q0 q : Q} {pos : Nat} {rep : Bool} (haz : a < z) (h : L1 z q0 a q pos rep) (hok : QOk q0) : a ≤ pos ∧ pos ≤ z ∧ (rep = true → a < pos) ∧ (rep = false → pos = a ∧ q = q0) ∧ QOk q := by
  induction h with
  | start => exact ⟨Nat.le_refl _, by omega, by simp, fun _ => ⟨rfl, rfl⟩, hok⟩
  | next h hd hc ih =>
    obtain ⟨h1, h2, h3, h4, h5⟩ := ih
    have := (h5 _ _ hd).1
    have := List.length_pos_iff.2 this
    exact ⟨by omega, by omega, fun _ => by omega, by simp, h5.rm _⟩

/-- The bytes of a frame at a, from A to z. -/
def seg (l : List UInt8) (a A z : Nat) : List UInt8 := (l.drop (A - a)).take (z - A)
theorem seg_length (l : List UInt8) (a A z : Nat) (h1 : a ≤ A) (h2 : A ≤ z) (h3 : z ≤ a + l.length) : (seg l a A z).length = z - A := by
  unfold seg; rw [List.length_take, List.length_drop]; omega

/-- What stands when push has found its two gaps and there is something new. -/
structure PushIn (w : World) (bS r bL a n cap : Nat) (p : Option Addr) (gs : List Gap) (q : Q) (l : List UInt8) (c : Array Value) (T : TypeId) (g0 gi gj : Gap) (i j : Nat) (inE : Bool) : Prop where
  hS : Blk w bS c T
  h0 : c[0]? = some (.map (some r))
  h2 : c[2]? = some (pt bL)
  hT : T ≠ 138
  hT2 : T ≠ 128
  hT5 : T ≠ 5
  hL : ListAt w bL gs
  hq : QAt w r q
  hok : QOk q
  hl : Rd w (.slice p n cap) l
  hn : l.length = n
  hnp : 0 < n
  ha : a + n ≤ 16384
  hlen : gs.length ≤ 900
  hg0 : gs[0]? = some g0
  hfr : g0.s < a + n
  hs : Sorted gs
  hb : ∀ g ∈ gs, g.e ≤ 4611686018427387903
  hi : StartGap gs a i gi
  hj : EndAt gs i (a + n) j gj inE
  hnew : gi.s < a + n

theorem PushIn.bounds {w : World} {bS r bL a n cap : Nat} {p : Option Addr} {gs : List Gap} {q : Q} {l : List UInt8} {c : Array Value} {T : TypeId} {g0 gi gj : Gap} {i j : Nat} {inE : Bool}
    (h : PushIn w bS r bL a n cap p gs q l c T g0 gi gj i j inE) : ∀ g ∈ gs, g.e ≤ 4611686018427387903 ∧ g.s ≤ g.e := fun g hg => by
  obtain ⟨k, hk⟩ := List.mem_iff_getElem?.1 hg
  exact ⟨h.hb g hg, by have := h.hs.1 k g hk; omega⟩

theorem QAt.drewN {w : World} {r : Nat} {q : Q} (h : QAt w r q) (n : Nat) : QAt (w.drewN n) r q := h.keep rfl (fun _ _ => rfl)

/-- What push may write of old memory: the map and the list. -/
def pushS (r bL : Nat) (gs : List Gap) (k : Nat) : Prop := k = r ∨ listS bL gs k
theorem pushS_noBytes {w : World} {r bL : Nat} {gs : List Gap} {q : Q} (hq : QAt w r q) (hL : ListAt w bL gs) : ∀ k, pushS r bL gs k → ¬ BytesBlk w k := by
  rintro k (rfl | rfl | ⟨g, hg, rfl⟩)
  · exact hq.noBytes
  · exact hL.root.noBytes (by decide)
  · obtain ⟨j, hj⟩ := List.mem_iff_getElem?.1 hg
    exact (hL.node j g hj).noBytes (by decide)
theorem pushS_ne {w : World} {r bL : Nat} {gs : List Gap} {q : Q} (hq : QAt w r q) (hL : ListAt w bL gs) {b : Nat} {c : Array Value} {T : TypeId} (hb : Blk w b c T) (h1 : T ≠ 138) (h2 : T ≠ 128) : ¬ pushS r bL gs b := by
  rintro (rfl | rfl | ⟨g, hg, rfl⟩)
  · exact hq.ne_blk hb rfl
  · exact h1 (hb.unique hL.root).2
  · obtain ⟨j, hj⟩ := List.mem_iff_getElem?.1 hg
    exact h2 (hb.unique (hL.node j g hj)).2

theorem Rd.seg {w : World} {p : Option Addr} {n cap : Nat} {l : List UInt8} (h : Rd w (.slice p n cap) l) (hn : l.length = n) (k : Nat) (hk : k ≤ n) : Rd w (.slice p k cap) (l.take k) := h.take k (by omega)
end Go.Proofs.YtdhhccpeikhilaaDoor
namespace Go.Proofs.YtdhhccpeikhilaaDoor
open Go.RowKit

theorem info5 : (Tryd.prog.info? 5).map (fun i => (i.zero, i.size, i.bytes)) = some (some (.int .u8 0), 1, 1) := by kernel_rfl

/-- The bytes of a slice, made anew. -/
theorem wpList_copyNew {w : World} {ops : Array Oper} {rest : List Oper} {o : Oper} {a : Act} {Q : Exit → Act → World → Prop} (hgd : o.guard = none) (d s : Operand)
    (ho : o.op = .call { callee := .builtin .copy, args := #[d, s], argTypes := #[26, 26] }) (g : Nat) (hg : g + 1 = w.heap.size) (cur : Array Value) (hcur : w.heap[g]? = some (.cells cur 5 (0, 0))) (l : List UInt8) (hsz : cur.size = l.length) (sv : Value) (hr : Rd w sv l) (m : Nat) (hm : l.length = m)
    (hd : a.eval d = .slice (some ⟨g, 0, none⟩) m m) (hs : a.eval s = sv) (hcap : l.length ≤ 9223372036854775807)
    (h : ∀ w', Rd w' (.slice (some ⟨g, 0, none⟩) m m) l → Fr (fun k => k = g) w w' → wpList Tryd.prog ops Q rest (a.put o.dst (goInt m)) w') : wpList Tryd.prog ops Q (o :: rest) a w := by
  subst hm
  obtain ⟨p, c, rfl, h1, h2, h3⟩ := hr
  have hlen : (l.map u8).length = l.length := List.length_map _
  refine wpList_copy_splice hgd d s 26 26 ho 5 Tryd.underlying26 ?_ (some ⟨g, 0, none⟩) p l.length l.length l.length c hd hs g 0 cur.toList 5 (by simpa using hcur) (l.map u8) ?_ ?_ ?_ ?_ g w ⟨rfl, rfl, rfl, Nat.le_refl _, fun _ _ => rfl⟩ (Nat.le_refl _) ?_
  · have := info5
    cases hi : Tryd.prog.info? 5 with
    | none => rw [hi] at this; cases this
    | some i => rw [hi] at this; simp only [Option.map_some, Option.some.injEq, Prod.mk.injEq] at this ⊢; exact this.2.1
  · rw [hlen]; exact (Nat.min_self _).symm
  · intro hp
    rw [hlen] at hp
    obtain ⟨b, o', rfl, hr⟩ := h3 (fun e => by rw [e] at hp; exact Nat.lt_irrefl _ hp)
    refine ⟨rfl, _, rfl, fun j v hv => ?_⟩
    rw [List.getElem?_map] at hv
    obtain ⟨x, hx, rfl⟩ := Option.map_eq_some_iff.1 hv
    have := hr.2 j x hx
    simp only [Addr.add]
    split
    · subst_vars; exact this
    · exact this
  · rw [hlen, Nat.zero_add]; simpa using Nat.le_of_eq hsz.symm
  · intro v hv
    obtain ⟨x, _, rfl⟩ := List.mem_map.1 hv
    rfl
  · intro w' hw' hb
    have hw' := hw'.out
    rw [hlen]
    have hsp : splice cur.toList 0 (l.map u8) = l.map u8 := by simp [splice, hsz]
    rw [hsp] at hw'
    refine h w' ⟨_, _, rfl, Nat.le_refl _, hcap, fun _ => ⟨g, 0, rfl, ⟨_, _, hw'⟩, fun i x hx => ?_⟩⟩ ⟨hb.os, hb.tape, hb.output, hb.size, fun k hk hne => hb.block k (by have : k ≠ g := hne; omega)⟩
    simp only [World.cell?, hw', Nat.zero_add]
    simp [hx]

theorem ListAt.fr {w w' : World} {bL : Nat} {gs : List Gap} {S : Nat → Prop} (h : ListAt w bL gs) (hf : Fr S w w') (hS : ∀ k, S k → ¬ listS bL gs k) : ListAt w' bL gs :=
  h.same (hf.block bL h.root.lt (fun e => hS _ e (.inl rfl))) (fun g hg => by
    obtain ⟨k, hk⟩ := List.mem_iff_getElem?.1 hg
    exact hf.block g.b (h.node k g hk).lt (fun e => hS _ e (.inr ⟨g, hg, rfl⟩)))
end Go.Proofs.YtdhhccpeikhilaaDoor
namespace Go.Proofs.YtdhhccpeikhilaaDoor
open Go.RowKit

/-- What push makes of the gap in which, or behind which, the frame starts. -/
def GapUp (gs : List Gap) (i : Nat) (gi : Gap) (A Z : Nat) (rep : Bool) (gs3 : List Gap) (adj : Bool) : Prop :=
  (A ≤ gi.s ∧ gi.e ≤ Z ∧ gs3 = gs.eraseIdx i ∧ adj = false) ∨ (A ≤ gi.s ∧ Z < gi.e ∧ gs3 = gs.set i { gi with s := Z } ∧ adj = false) ∨
  (gi.s < A ∧ rep = false ∧ gs3 = gs.set i { gi with e := A } ∧ adj = true) ∨ (gi.s < A ∧ rep = true ∧ gs3 = gs ∧ adj = false)

/-- .. and where it ends, in the same gap. -/
def GapEnd1 (N : Nat) (gs3 : List Gap) (i : Nat) (gi : Gap) (Z2 : Nat) (adj : Bool) (gs6 : List Gap) : Prop :=
  (Z2 ≠ gi.e ∧ adj = true ∧ ∃ b, N ≤ b ∧ gs6 = gs3.insertIdx (i + 1) ⟨b, Z2, gi.e⟩) ∨ ((Z2 = gi.e ∨ adj = false) ∧ gs6 = gs3)

/-- What push does to the gaps and the queue, where the frame starts and ends in one gap. -/
def Push1 (N : Nat) (gs : List Gap) (q : Q) (l : List UInt8) (a n : Nat) (gi : Gap) (i : Nat) (inE : Bool) (gs6 : List Gap) (q6 : Q) : Prop :=
  ∃ (q1 : Q) (pos : Nat) (rep cut : Bool) (Z A : Nat) (gs3 : List Gap) (adj : Bool) (Z2 : Nat), L1End (a + n) q a q1 pos rep cut Z ∧ A = (if decide (gi.s ≤ a) = false ∧ rep = false then gi.s else a) ∧
    GapUp gs i gi A Z rep gs3 adj ∧ Z2 = (if inE = false ∧ A ≠ gi.e ∧ gi.e < Z then gi.e else Z) ∧ GapEnd1 N gs3 i gi Z2 adj gs6 ∧ q6 = putQ q1 A (seg l a A Z2)

/-- What stands ahead of the gaps behind gap i, then. -/
def HeadUp (gs : List Gap) (i : Nat) (gi : Gap) (A Z : Nat) (rep : Bool) (hd : List Gap) (adj : Bool) : Prop :=
  (A ≤ gi.s ∧ gi.e ≤ Z ∧ hd = gs.take i ∧ adj = false) ∨ (A ≤ gi.s ∧ Z < gi.e ∧ hd = gs.take i ++ [{ gi with s := Z }] ∧ adj = false) ∨
  (gi.s < A ∧ rep = false ∧ hd = gs.take i ++ [{ gi with e := A }] ∧ adj = true) ∨ (gi.s < A ∧ rep = true ∧ hd = gs.take i ++ [gi] ∧ adj = false)

theorem GapUp.head {gs gs3 : List Gap} {i : Nat} {gi : Gap} {A Z : Nat} {rep adj : Bool} (h : GapUp gs i gi A Z rep gs3 adj) (hgi : gs[i]? = some gi) : ∃ hd, HeadUp gs i gi A Z rep hd adj ∧ gs3 = hd ++ gs.drop (i + 1) := by
  have hlt : i < gs.length := (List.getElem?_eq_some_iff.1 hgi).1
  have hget : gs[i] = gi := (List.getElem?_eq_some_iff.1 hgi).2
  rcases h with ⟨a1, a2, rfl, a3⟩ | ⟨a1, a2, rfl, a3⟩ | ⟨a1, a2, rfl, a3⟩ | ⟨a1, a2, rfl, a3⟩
  · exact ⟨_, .inl ⟨a1, a2, rfl, a3⟩, List.eraseIdx_eq_take_drop_succ _ _⟩
  · exact ⟨_, .inr (.inl ⟨a1, a2, rfl, a3⟩), by rw [List.set_eq_take_append_cons_drop, if_pos hlt]; simp⟩
  · exact ⟨_, .inr (.inr (.inl ⟨a1, a2, rfl, a3⟩)), by rw [List.set_eq_take_append_cons_drop, if_pos hlt]; simp⟩
  · exact ⟨_, .inr (.inr (.inr ⟨a1, a2, rfl, a3⟩)), by rw [List.append_assoc, List.singleton_append, ← hget, List.getElem_cons_drop, List.take_append_drop]⟩

theorem GapUp.sub {gs gs3 : List Gap} {i : Nat} {gi : Gap} {A Z : Nat} {rep adj : Bool} {bL : Nat} (h : GapUp gs i gi A Z rep gs3 adj) (hgi : gs[i]? = some gi) (k : Nat) (hk : listS bL gs3 k) : listS bL gs k := by
  have hset : ∀ g : Gap, g.b = gi.b → listS bL (gs.set i g) k → listS bL gs k := by
    rintro g e (h | ⟨g', hg', rfl⟩)
    · exact .inl h
    · rcases List.mem_or_eq_of_mem_set hg' with h | rfl
      · exact .inr ⟨g', h, rfl⟩
      · rw [e]; exact listS_mem hgi
  rcases h with ⟨_, _, rfl, _⟩ | ⟨_, _, rfl, _⟩ | ⟨_, _, rfl, _⟩ | ⟨_, _, rfl, _⟩
  · rcases hk with h | ⟨g', hg', rfl⟩
    · exact .inl h
    · exact .inr ⟨g', List.mem_of_mem_eraseIdx hg', rfl⟩
  · exact hset { gi with s := Z } rfl hk
  · exact hset { gi with e := A } rfl hk
  · exact hk

theorem pushS_rlist {w : World} {r bL : Nat} {gs : List Gap} {q : Q} (hq : QAt w r q) (hL : ListAt w bL gs) : ¬ listS bL gs r := by
  rintro (e | ⟨g, hg, e⟩)
  · exact hq.ne_blk hL.root e
  · obtain ⟨j, hj⟩ := List.mem_iff_getElem?.1 hg
    exact hq.ne_blk (hL.node j g hj) e

end Go.Proofs.YtdhhccpeikhilaaDoor
