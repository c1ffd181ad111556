/- What a CRYPTO stream that receives does, act by act. No walk here. -/
import Derived.Test.YtdhhccpeikhilaaDoorC9
namespace Go.Proofs.YtdhhccpeikhilaaDoor
open Go.RowKit

/-- The states st 0, st 1, .. lead from s0 to s, an act and what is seen of it from each to the next. -/
def Ran {S : Type} (R : S → Stp → Sn → S → Prop) (s0 : S) (xs : List Stp) (ys : List Sn) (s : S) : Prop :=
  ∃ st : Nat → S, st 0 = s0 ∧ st ys.length = s ∧ ∀ (i : Nat) (y : Sn), ys[i]? = some y → ∃ x, xs[i]? = some x ∧ R (st i) x y (st (i + 1))
theorem Ran.nil {S : Type} (R : S → Stp → Sn → S → Prop) (s0 : S) (xs : List Stp) : Ran R s0 xs [] s0 := ⟨fun _ => s0, rfl, rfl, fun i y h => by simp at h⟩
theorem Ran.snoc {S : Type} {R : S → Stp → Sn → S → Prop} {s0 s s' : S} {xs : List Stp} {ys : List Sn} {x : Stp} {y : Sn} (h : Ran R s0 xs ys s) (hx : xs[ys.length]? = some x) (hr : R s x y s') : Ran R s0 xs (ys ++ [y]) s' := by
  obtain ⟨st, h1, h2, h3⟩ := h
  refine ⟨fun i => if i ≤ ys.length then st i else s', (if_pos (Nat.zero_le _)).trans h1, by rw [List.length_append, List.length_singleton]; exact if_neg (by omega), fun i z hz => ?_⟩
  show ∃ x, xs[i]? = some x ∧ R (if i ≤ ys.length then st i else s') x z (if i + 1 ≤ ys.length then st (i + 1) else s')
  rcases Nat.lt_or_ge i ys.length with c | c
  · rw [List.getElem?_append_left c] at hz
    rw [if_pos (by omega), if_pos (by omega)]
    exact h3 i z hz
  · have hl := (List.getElem?_eq_some_iff.1 hz).1
    rw [List.length_append, List.length_singleton] at hl
    have e : i = ys.length := by omega
    subst e
    rw [List.getElem?_append_right (Nat.le_refl _), Nat.sub_self, List.getElem?_cons_zero] at hz
    injection hz with hz; subst hz
    rw [if_pos (Nat.le_refl _), if_neg (by omega), h2]
    exact ⟨x, hx, hr⟩

/-- What is read, how far it went, whether it is finished, the gaps, what waits. -/
structure RS where
  rp : Nat
  hi : Nat
  fin : Bool
  gs : List Gap
  q : Q

/-- An act of the receiving side. -/
def RStep (s : RS) (x : Stp) (y : Sn) (s' : RS) : Prop :=
  y.has = false ∧ y.off = 0 ∧
  ((x.kind = 0 ∧ y.is = false ∧ y.data = [] ∧ ((16384 < x.off + x.data.length ∧ y.code = 13 ∧ s' = s) ∨
    (x.off + x.data.length ≤ 16384 ∧ s.fin = true ∧ s.hi < x.off + x.data.length ∧ y.code = 10 ∧ s' = s) ∨
    (x.off + x.data.length ≤ 16384 ∧ s.fin = true ∧ x.off + x.data.length ≤ s.hi ∧ y.code = 0 ∧ s' = s) ∨
    (x.off + x.data.length ≤ 16384 ∧ s.fin = false ∧ y.code = 0 ∧ s'.fin = false ∧ s'.rp = s.rp ∧ s'.hi = max s.hi (x.off + x.data.length) ∧ Took s.rp x.off x.data.length x.data s.q s'.gs s'.q ∧ Exact s.rp x.off x.data.length x.data s.q s'.q))) ∨
   (x.kind = 1 ∧ y.code = 0 ∧ ((∃ d, s.q s.rp = some d ∧ y.is = true ∧ y.data = d ∧ s' = { s with rp := s.rp + d.length, q := rmQ s.q s.rp }) ∨ (s.q s.rp = none ∧ y.is = false ∧ y.data = [] ∧ s' = s))) ∨
   (x.kind = 2 ∧ y.is = false ∧ y.data = [] ∧ (((∃ k, s.q k ≠ none) ∧ y.code = 10 ∧ s' = s) ∨ ((∀ k, s.q k = none) ∧ y.code = 0 ∧ s' = { s with fin := true }))))

/-- Such an act. -/
def RecvOk (x : Stp) : Prop := x.off ≤ 1000000 ∧ x.data.length ≤ 1000000 ∧ (x.kind = 0 ∧ 0 < x.data.length ∨ x.kind = 1 ∨ x.kind = 2)

/-- The error that a step gives, and its code. -/
def ErrIs (w : World) (ev : Value) (code : Nat) : Prop := (ev = .nilIface ∧ code = 0) ∨ (∃ be c, ev = .iface 74 (pt be) ∧ Blk w be c 79 ∧ c[1]? = some (.int .u64 (code : Int)) ∧ code ≤ 1000)

theorem Grow.trans' {w0 w w' : World} {S : Nat → Prop} (h : Grow w0 w) (hF : Fr S w w') (hS : ∀ k, S k → w0.heap.size ≤ k) : Grow w0 w' :=
  ⟨hF.os.trans h.os, hF.tape.trans h.tape, hF.output.trans h.output, Nat.le_trans h.size hF.size, fun k hk _ =>
    (hF.block k (Nat.lt_of_lt_of_le hk h.size) (fun e => by have := hS k e; omega)).trans (h.block k hk (fun e => e))⟩
theorem Grow.bytes {w w' : World} (h : Grow w w') : KeepB w w' := Fr.bytes h (fun _ h => h.elim)
theorem RowAt.grow {α : Type} {cs : α → Value → List Value} {dat : α → List UInt8} {e size : Nat} {w w' : World} {v : Value} {xs : List α} (h : RowAt cs dat e size w v xs) (hg : Grow w w') : RowAt cs dat e size w' v xs := by
  exact h.keep (fun b hb => hg.block b (h.lt hb) (fun e => e)) hg.bytes
/-- The state in memory. -/
structure RecvAt (w : World) (x b r bL : Nat) (s : RS) : Prop where
  door : Blk w x #[.pointer none, pt b] 86
  cry : CryAt w b r bL s.rp s.hi s.fin 0 (.slice none 0 0) s.gs s.q
  good : Good s.rp s.gs s.q

abbrev rs0 (g : Nat) : RS := ⟨0, 0, false, [⟨g, 0, 4611686018427387903⟩], fun _ => none⟩

/-- .. its blocks new since w0. -/
structure RecvIn (w0 wx : World) (x b r bL : Nat) (s : RS) (m : Nat) : Prop where
  grow : Grow w0 wx
  ok : Blk wx w0.heap.size #[.bool false] 4
  st : RecvAt wx x b r bL s
  nb : w0.heap.size < x ∧ w0.heap.size < b ∧ w0.heap.size < r ∧ w0.heap.size < bL ∧ ∀ g ∈ s.gs, w0.heap.size < g.b
  len : s.gs.length ≤ m

theorem CryAt.grow {w w' : World} {b r bL rp hi : Nat} {fin : Bool} {wo : Nat} {wb : Value} {gs : List Gap} {q : Nat → Option (List UInt8)} (h : CryAt w b r bL rp hi fin wo wb gs q) (hg : Grow w w') : CryAt w' b r bL rp hi fin wo wb gs q :=
  ⟨hg.blk h.blk (fun e => e), h.L.fr hg (fun _ e => e.elim), h.Q.fr hg (fun e => e) (fun _ e => e.elim)⟩
theorem RecvAt.keepG {w w' : World} {x b r bL : Nat} {s : RS} (h : RecvAt w x b r bL s) (hg : Grow w w') : RecvAt w' x b r bL s := ⟨hg.blk h.door (fun e => e), h.cry.grow hg, h.good⟩
theorem RecvIn.keepG {w0 w w' : World} {x b r bL m : Nat} {s : RS} (h : RecvIn w0 w x b r bL s m) (hg : Grow w w') : RecvIn w0 w' x b r bL s m :=
  ⟨h.grow.trans hg, hg.blk h.ok (fun e => e), h.st.keepG hg, h.nb, h.len⟩

/-- Blocks of cells are as they were, but for those of a stream, a list, an element. -/
def KeepT (w w' : World) : Prop := ∀ (k : Nat) (c : Array Value) (T : TypeId) (f : Nat × Nat), w.heap[k]? = some (Obj.cells c T f) → T ≠ 99 → T ≠ 138 → T ≠ 128 → w'.heap[k]? = w.heap[k]?
theorem KeepT.blk {w w' : World} (h : KeepT w w') {b : Nat} {c : Array Value} {T : TypeId} (hb : Blk w b c T) (h1 : T ≠ 99) (h2 : T ≠ 138) (h3 : T ≠ 128) : Blk w' b c T := hb.same (h b c T _ hb h1 h2 h3)
theorem KeepT.bytes {w w' : World} (h : KeepT w w') : KeepB w w' := fun b ⟨c, f, hb⟩ => h b c 5 f hb (by decide) (by decide) (by decide)
theorem KeepT.row {w w' : World} (h : KeepT w w') {α : Type} {cs : α → Value → List Value} {dat : α → List UInt8} {e size : Nat} {v : Value} {xs : List α} (hr : RowAt cs dat e size w v xs) (h1 : e ≠ 99) (h2 : e ≠ 138) (h3 : e ≠ 128) : RowAt cs dat e size w' v xs :=
  hr.keep (fun b hb => by obtain ⟨c, f, hc⟩ := hr.1 b hb; exact h b c e f hc h1 h2 h3) h.bytes
theorem KeepT.of_fr {w w' : World} {b r bL rp hi : Nat} {fin : Bool} {wo : Nat} {wb : Value} {gs : List Gap} {q : Nat → Option (List UInt8)} (hC : CryAt w b r bL rp hi fin wo wb gs q) (hF : Fr (fun k => k = b ∨ pushS r bL gs k) w w') : KeepT w w' := by
  intro k c T f hk h1 h2 h3
  refine hF.block k (Array.getElem?_eq_some_iff.1 hk).1 ?_
  have ne : ∀ {k' : Nat} {c' : Array Value} {T' : TypeId}, Blk w k' c' T' → T ≠ T' → k ≠ k' := fun {k' c' T'} h' hT e => by
    subst e
    have := Option.some.inj (hk.symm.trans h')
    injection this with _ e4 _
    exact hT e4
  rintro (e | e | e | ⟨g, hg, e⟩)
  · exact ne hC.blk h1 e
  · subst e
    obtain ⟨qv, ⟨es, cl, hm, _⟩, _⟩ := hC.Q
    rw [hk] at hm; cases hm
  · exact ne hC.L.root h2 e
  · obtain ⟨j, hj⟩ := List.mem_iff_getElem?.1 hg
    exact ne (hC.L.node j g hj) h3 e
theorem Grow.keepT {w w' : World} (h : Grow w w') : KeepT w w' := fun k _ _ _ hk _ _ _ => h.block k (Array.getElem?_eq_some_iff.1 hk).1 (fun e => e)

theorem RecvIn.step {w0 w w' : World} {x b r bL m m' : Nat} {s s' : RS} (h : RecvIn w0 w x b r bL s m) (hF : Fr (fun k => k = b ∨ pushS r bL s.gs k) w w') (hC : CryAt w' b r bL s'.rp s'.hi s'.fin 0 (.slice none 0 0) s'.gs s'.q) (hG : Good s'.rp s'.gs s'.q)
    (hN : Fresh w.heap.size s.gs s'.gs) (hl : s'.gs.length ≤ m') : RecvIn w0 w' x b r bL s' m' ∧ KeepT w w' := by
  have hK := KeepT.of_fr h.st.cry hF
  have hok := h.ok.lt
  refine ⟨⟨?_, hK.blk h.ok (by decide) (by decide) (by decide), ⟨hK.blk h.st.door (by decide) (by decide) (by decide), hC, hG⟩, ⟨h.nb.1, h.nb.2.1, h.nb.2.2.1, h.nb.2.2.2.1, fun g hg => ?_⟩, hl⟩, hK⟩
  · refine ⟨hF.os.trans h.grow.os, hF.tape.trans h.grow.tape, hF.output.trans h.grow.output, Nat.le_trans h.grow.size hF.size, fun k hk _ => ?_⟩
    refine (hF.block k (Nat.lt_of_lt_of_le hk h.grow.size) ?_).trans (h.grow.block k hk (fun e => e))
    obtain ⟨_, n2, n3, n4, n5⟩ := h.nb
    rintro (e | e | e | ⟨g, hg, e⟩)
    · omega
    · omega
    · omega
    · have := n5 g hg; omega
  · rcases hN g hg with ⟨g0, hg0, e⟩ | e
    · have := h.nb.2.2.2.2 g0 hg0; omega
    · omega

theorem recv_handle (w0 w : World) (x b r bL m bf A M : Nat) (s : RS) (p : Option Addr) (cap : Nat) (D : List UInt8) (h : RecvIn w0 w x b r bL s m) (hm : m ≤ 900) (hf : Blk w bf #[.int .i64 (A : Int), .slice p D.length cap] 69) (hd : Rd w (.slice p D.length cap) D)
    (hp : 0 < D.length) (hA : A ≤ 1000000) (hD : D.length ≤ 1000000) :
    Calls Tryd.prog 25 #[pt x, pt bf] w fun e w' => ∃ ev s' code, e = .returned ev ∧ ErrIs w' ev code ∧ RStep s ⟨0, A, M, D⟩ ⟨false, false, 0, [], code⟩ s' ∧ RecvIn w0 w' x b r bL s' (m + 1) ∧ KeepT w w' := by
  have hl := h.len
  refine Handle_of w x b _ h.st.door (R := fun e w' => ∃ ev s' code, e = .returned ev ∧ ErrIs w' ev code ∧ RStep s ⟨0, A, M, D⟩ ⟨false, false, 0, [], code⟩ s' ∧ RecvIn w0 w' x b r bL s' (m + 1) ∧ KeepT w w') ?_ (fun e w' ⟨ev, _, _, h, _⟩ => ⟨ev, h⟩)
  have same : ∀ w', Grow w w' → RecvIn w0 w' x b r bL s (m + 1) ∧ KeepT w w' := fun w' hg => ⟨⟨(h.keepG hg).grow, (h.keepG hg).ok, (h.keepG hg).st, h.nb, by omega⟩, hg.keepT⟩
  rcases Nat.lt_or_ge 16384 (A + D.length) with c | c
  · refine (handle_far w b bf A D.length p cap hf hA hD c).mono ?_
    rintro e w' ⟨hg, be, cc, rfl, h1, h2⟩
    exact ⟨_, s, 13, rfl, .inr ⟨be, cc, rfl, h1, h2, by omega⟩, ⟨rfl, rfl, .inl ⟨rfl, rfl, rfl, .inl ⟨c, rfl, rfl⟩⟩⟩, same w' hg⟩
  · obtain ⟨rp, hi, fin, gs, q⟩ := s
    cases fin with
    | true =>
      rcases Nat.lt_or_ge hi (A + D.length) with c2 | c2
      · refine (handle_late w b r bL rp hi 0 bf A D.length _ p cap h.st.cry.blk hf c c2).mono ?_
        rintro e w' ⟨hg, be, cc, rfl, h1, h2⟩
        exact ⟨_, _, 10, rfl, .inr ⟨be, cc, rfl, h1, h2, by omega⟩, ⟨rfl, rfl, .inl ⟨rfl, rfl, rfl, .inr (.inl ⟨c, rfl, c2, rfl, rfl⟩)⟩⟩, same w' hg⟩
      · refine (handle_old w b r bL rp hi 0 bf A D.length _ p cap h.st.cry.blk hf c c2).mono ?_
        rintro e w' ⟨rfl, hg⟩
        exact ⟨_, _, 0, rfl, .inl ⟨rfl, rfl⟩, ⟨rfl, rfl, .inl ⟨rfl, rfl, rfl, .inr (.inr (.inl ⟨c, rfl, c2, rfl, rfl⟩))⟩⟩, same w' hg⟩
    | false =>
      refine (handle_push w b r bL rp hi 0 bf A D.length _ p cap gs q D h.st.cry hf c h.st.good hd rfl hp (by have : gs.length ≤ m := hl; omega)).mono ?_
      rintro e w' ⟨rfl, gs6, q6, hT, hN, hX, hlen, hC, hF⟩
      exact ⟨_, ⟨rp, max hi (A + D.length), false, gs6, q6⟩, 0, rfl, .inl ⟨rfl, rfl⟩, ⟨rfl, rfl, .inl ⟨rfl, rfl, rfl, .inr (.inr (.inr ⟨c, rfl, rfl, rfl, rfl, rfl, hT, hX⟩))⟩⟩, h.step (s' := ⟨rp, max hi (A + D.length), false, gs6, q6⟩) hF hC hT.1 hN (by have : gs.length ≤ m := hl; show gs6.length ≤ m + 1; omega)⟩

theorem recv_data (w0 w : World) (x b r bL m A M : Nat) (s : RS) (D : List UInt8) (h : RecvIn w0 w x b r bL s m) :
    Calls Tryd.prog 26 #[pt x] w fun e w' => ∃ dv d s', e = .returned dv ∧ Rd w' dv d ∧ RStep s ⟨1, A, M, D⟩ ⟨decide (0 < d.length), false, 0, d, 0⟩ s' ∧ d.length ≤ 16384 ∧ RecvIn w0 w' x b r bL s' m ∧ KeepT w w' := by
  refine Data_of w x b h.st.door (R := fun e w' => ∃ dv d s', e = .returned dv ∧ Rd w' dv d ∧ RStep s ⟨1, A, M, D⟩ ⟨decide (0 < d.length), false, 0, d, 0⟩ s' ∧ d.length ≤ 16384 ∧ RecvIn w0 w' x b r bL s' m ∧ KeepT w w') ?_ (fun e w' ⟨ev, _, _, h, _⟩ => ⟨ev, h⟩)
  obtain ⟨rp, hi, fin, gs, q⟩ := s
  cases hq : q rp with
  | none =>
    refine (data_none w b r bL rp hi 0 fin _ gs q h.st.cry hq).mono ?_
    rintro e w' ⟨rfl, hg⟩
    exact ⟨_, [], ⟨rp, hi, fin, gs, q⟩, rfl, ⟨none, 0, rfl, Nat.le_refl _, by omega, fun h => (h rfl).elim⟩, ⟨rfl, rfl, .inr (.inl ⟨rfl, rfl, .inr ⟨hq, rfl, rfl, rfl⟩⟩)⟩, by simp, h.keepG hg, hg.keepT⟩
  | some d =>
    have hpos : 0 < d.length := h.st.good.ap.pos hq
    have hmx := (h.st.good.ge rp d hq).2
    refine (data_some w b r bL rp hi 0 fin _ gs q d h.st.cry h.st.good hq).mono ?_
    rintro e w' ⟨dv, rfl, hr, hC, hF⟩
    exact ⟨dv, d, ⟨rp + d.length, hi, fin, gs, rmQ q rp⟩, rfl, hr, ⟨rfl, rfl, .inr (.inl ⟨rfl, rfl, .inl ⟨d, hq, decide_eq_true hpos, rfl, rfl⟩⟩)⟩, by omega, h.step (s' := ⟨rp + d.length, hi, fin, gs, rmQ q rp⟩) (hF.mono (fun k _ hk => hk.imp id (fun e => .inl e))) hC (h.st.good.pop hq) (Fresh.refl _ _) h.len⟩

theorem recv_finish (w0 w : World) (x b r bL m A M : Nat) (s : RS) (D : List UInt8) (h : RecvIn w0 w x b r bL s m) :
    Calls Tryd.prog 27 #[pt x] w fun e w' => ∃ ev s' code, e = .returned ev ∧ ErrIs w' ev code ∧ RStep s ⟨2, A, M, D⟩ ⟨false, false, 0, [], code⟩ s' ∧ RecvIn w0 w' x b r bL s' m ∧ KeepT w w' := by
  refine Finish_of w x b h.st.door (R := fun e w' => ∃ ev s' code, e = .returned ev ∧ ErrIs w' ev code ∧ RStep s ⟨2, A, M, D⟩ ⟨false, false, 0, [], code⟩ s' ∧ RecvIn w0 w' x b r bL s' m ∧ KeepT w w') ?_ (fun e w' ⟨ev, _, _, h, _⟩ => ⟨ev, h⟩)
  obtain ⟨rp, hi, fin, gs, q⟩ := s
  by_cases hq : ∃ k, q k ≠ none
  · refine (finish_more w b r bL rp hi 0 fin _ gs q h.st.cry hq).mono ?_
    rintro e w' ⟨hg, be, cc, rfl, h1, h2⟩
    exact ⟨_, _, 10, rfl, .inr ⟨be, cc, rfl, h1, h2, by omega⟩, ⟨rfl, rfl, .inr (.inr ⟨rfl, rfl, rfl, .inl ⟨hq, rfl, rfl⟩⟩)⟩, h.keepG hg, hg.keepT⟩
  · have hq' : ∀ k, q k = none := fun k => Classical.byContradiction fun hk => hq ⟨k, hk⟩
    refine (finish_done w b r bL rp hi 0 fin _ gs q h.st.cry hq').mono ?_
    rintro e w' ⟨rfl, hC, hF⟩
    exact ⟨_, ⟨rp, hi, true, gs, q⟩, 0, rfl, .inl ⟨rfl, rfl⟩, ⟨rfl, rfl, .inr (.inr ⟨rfl, rfl, rfl, .inr ⟨hq', rfl, rfl⟩⟩)⟩, h.step (s' := ⟨rp, hi, true, gs, q⟩) (hF.mono (fun k _ hk => .inl hk)) hC h.st.good (Fresh.refl _ _) h.len⟩

theorem recv_has (w0 w : World) (x b r bL m : Nat) (s : RS) (h : RecvIn w0 w x b r bL s m) :
    Calls Tryd.prog 30 #[pt x] w fun e w' => e = .returned (.bool false) ∧ w = w' := by
  refine Has_of w x b h.st.door (R := fun e w' => e = .returned (.bool false) ∧ w = w') ?_ (fun e w' h => ⟨_, h.1⟩)
  exact has_plain w b r bL s.rp s.hi 0 s.fin _ [] h.st.cry.blk (Own.nil w 5 1)

theorem RecvIn.set {w0 w : World} {x b r bL m : Nat} {s : RS} (h : RecvIn w0 w x b r bL s m) {k : Nat} {c : Array Value} (hB : Blk w k c 41) (hk : w0.heap.size ≤ k) (i : Nat) (v : Value) : RecvIn w0 (w.setCell ⟨k, i, none⟩ v) x b r bL s m := by
  have hF : Fr (fun j => j = k) w (w.setCell ⟨k, i, none⟩ v) := (Fr.refl _ _).setCell _ _ (.inl rfl)
  refine ⟨h.grow.setCell _ _ (.inr hk), h.ok.setOther _ _ (h.ok.ne_of_type hB (by decide)), ⟨h.st.door.setOther _ _ (h.st.door.ne_of_type hB (by decide)), ⟨h.st.cry.blk.setOther _ _ (h.st.cry.blk.ne_of_type hB (by decide)), ?_, ?_⟩, h.st.good⟩, h.nb, h.len⟩
  · exact h.st.cry.L.fr hF (fun j hj hk => pushS_ne h.st.cry.Q h.st.cry.L hB (by decide) (by decide) (.inr (show listS bL s.gs k from (show j = k from hj) ▸ hk)))
  · exact h.st.cry.Q.setCell _ _ hB (by decide)
theorem RowAt.set {α : Type} {cs : α → Value → List Value} {dat : α → List UInt8} {e size : Nat} {w : World} {v : Value} {xs : List α} (h : RowAt cs dat e size w v xs) {k : Nat} {c : Array Value} {T : TypeId} (hB : Blk w k c T) (hT : T ≠ 5) (hk : ∀ j, v.ownBlock = some j → j ≠ k) (i : Nat) (u : Value) : RowAt cs dat e size (w.setCell ⟨k, i, none⟩ u) v xs :=
  h.keep (fun j hj => Below.heap_setCell _ _ _ _ (hk j hj)) (Fr.bytes (S := fun j => j = k) ((Fr.refl _ _).setCell _ _ (.inl rfl)) (fun j hj => by rw [show j = k from hj]; exact hB.noBytes hT))
theorem Rd.set {w : World} {v : Value} {l : List UInt8} (h : Rd w v l) {k : Nat} {c : Array Value} {T : TypeId} (hB : Blk w k c T) (hT : T ≠ 5) (i : Nat) (u : Value) : Rd (w.setCell ⟨k, i, none⟩ u) v l :=
  h.keep (Fr.bytes (S := fun j => j = k) ((Fr.refl _ _).setCell _ _ (.inl rfl)) (fun j hj => by rw [show j = k from hj]; exact hB.noBytes hT))

theorem RecvIn.row {w0 w w' : World} {x b r bL m : Nat} {s : RS} (h : RecvIn w0 w x b r bL s m) {α : Type} {cs : α → Value → List Value} {dat : α → List UInt8} {size : Nat} {v : Value} {xs : List α} (hr : RowAt cs dat 41 size w v xs) (hv : ∀ k, v.ownBlock = some k → w0.heap.size < k)
    (hF : Fr (fun k => v.ownBlock = some k ∧ ¬ BytesBlk w k) w w') : RecvIn w0 w' x b r bL s m := by
  have ne : ∀ {k : Nat} {c : Array Value} {T : TypeId}, Blk w k c T → T ≠ 41 → ¬ (v.ownBlock = some k ∧ ¬ BytesBlk w k) := fun {k c T} hb hT ⟨h1, _⟩ => by
    obtain ⟨cur, f, h2⟩ := hr.1 k h1
    have := Option.some.inj (h2.symm.trans hb)
    injection this with _ e4 _
    exact hT e4.symm
  have nr : ¬ (v.ownBlock = some r ∧ ¬ BytesBlk w r) := fun ⟨h1, _⟩ => by
    obtain ⟨cur, f, h2⟩ := hr.1 r h1
    obtain ⟨qv, ⟨es, cl, hm, _⟩, _⟩ := h.st.cry.Q
    rw [h2] at hm; cases hm
  refine ⟨h.grow.trans' hF (fun k hk => Nat.le_of_lt (hv k hk.1)), hF.blk h.ok (ne h.ok (by decide)), ⟨hF.blk h.st.door (ne h.st.door (by decide)), ⟨hF.blk h.st.cry.blk (ne h.st.cry.blk (by decide)), ?_, ?_⟩, h.st.good⟩, h.nb, h.len⟩
  · refine h.st.cry.L.fr hF (fun k hk hl => ?_)
    rcases hl with e | ⟨g, hg, e⟩
    · subst e; exact ne h.st.cry.L.root (by decide) hk
    · obtain ⟨j, hj⟩ := List.mem_iff_getElem?.1 hg
      subst e; exact ne (h.st.cry.L.node j g hj) (by decide) hk
  · exact h.st.cry.Q.fr hF nr (fun k hk => hk.2)

/-- One more is seen. -/
theorem wpList_appendSeen (w : World) {ops : Array Oper} {rest : List Oper} {o : Oper} {a : Act} {Q : Exit → Act → World → Prop} (hgd : o.guard = none) (s x : Operand)
    (ho : o.op = .call { callee := .builtin .append, args := #[s, x], argTypes := #[36, 36] }) (sv : Value) (ys : List Sn) (y : Sn) (d : Value) (k : Nat) (hrow : SeenAt w sv ys) (hB : Blk w k #[.bool y.is, .bool y.has, .int .i64 (y.off : Int), d, .int .i64 (y.code : Int)] 41) (hlen : ys.length ≤ 1000000)
    (hd : Rd w d y.data) (hs : a.eval s = sv) (hx : a.eval x = .slice (some ⟨k, 0, none⟩) 1 1)
    (h : ∀ v' w', SeenAt w' v' (ys ++ [y]) → Fr (fun k => sv.ownBlock = some k ∧ ¬ BytesBlk w k) w w' → (∀ k, v'.ownBlock = some k → sv.ownBlock = some k ∨ w.heap.size ≤ k) → wpList Tryd.prog ops Q rest (a.put o.dst v') w') : wpList Tryd.prog ops Q (o :: rest) a w := by
  obtain ⟨i, hi, hzz⟩ := Option.map_eq_some_iff.1 info41
  simp only [Prod.mk.injEq] at hzz
  obtain ⟨hz, hsz, hb⟩ := hzz
  obtain ⟨pd, cd, rfl, _⟩ := id hd
  refine wpList_appendRow (cs := snC) (dat := Sn.data) Tryd.underlying36 hi hz hsz hb rfl (by omega) (by omega) w hgd s x ho sv _ ys y _ hrow ?_ hlen (by decide) hd hs hx h
  refine Src.ofSlice w Tryd.underlying36 _ 1 1 _ rfl (fun j u hj => ?_) (fun u hu => ?_)
  · have := hB.cellAt j u (by rw [← hj]; simp)
    simpa [Addr.add_lit] using this
  · simp only [snC, List.mem_cons, List.not_mem_nil, or_false] at hu
    rcases hu with rfl | rfl | rfl | rfl | rfl <;> rfl

theorem ta_nil (w : World) : Sem.run Tryd.prog (Instr.typeAssert .nilIface 64 74 true) w = .ok (.tuple #[.pointer none, .bool false]) w := by kernel_rfl
theorem ta_err (w : World) (p : Option Addr) : Sem.run Tryd.prog (Instr.typeAssert (.iface 74 (.pointer p)) 64 74 true) w = .ok (.tuple #[.pointer p, .bool true]) w := by kernel_rfl
end Go.Proofs.YtdhhccpeikhilaaDoor
