/- The queue as a whole. -/
import Derived.Test.YtgdkbflhgcchfaaA8
namespace Go.Proofs.Ytgdkbflhgcchfaa
open Go.RowKit

abbrev Lv := List (Nat × List UInt8) × List Ct
/-- The queue as the statements see it. -/
structure St where
  ini : Option Lv
  hs : Option Lv
  app : Lv
namespace St
def lv (st : St) (n : Nat) : Option Lv := if n = 0 then st.ini else if n = 1 then st.hs else some st.app
def set (st : St) (n : Nat) (L : Lv) : St := if n = 0 then { st with ini := some L } else if n = 1 then { st with hs := some L } else { st with app := L }
def drop (st : St) (n : Nat) : St := if n = 0 then { st with ini := none } else if n = 1 then { st with hs := none } else st
def push (L : Lv) (c : Ct) : Lv := match c with
  | .crypto a d => (L.1 ++ [(a, d)], L.2)
  | c => (L.1, L.2 ++ [c])
def lost (st : St) (n : Nat) (c : Ct) : St := match st.lv n with
  | none => st
  | some L => st.set n (push L c)
def get (st : St) (n M : Nat) : Option Ct × St := match st.lv n with
  | none => (none, st)
  | some L => ((nextF M L.1 L.2).1, st.set n (nextF M L.1 L.2).2)
def has (st : St) (n : Nat) : Bool := match st.lv n with
  | none => false
  | some L => decide (L.1 ≠ [] ∨ L.2 ≠ [])
end St
/-- Sizes of a level's frames. -/
def LOk (N : Nat) (L : Lv) : Prop := (∀ x ∈ L.1, x.1 + x.2.length ≤ 10000000000 ∧ x.2.length ≤ 400) ∧ (∀ c ∈ L.2, c.Ok ∧ c.ty ≠ 6) ∧ L.1.length ≤ N ∧ L.2.length ≤ N
def SOk (N : Nat) (st : St) : Prop := ∀ n L, st.lv n = some L → LOk N L

/-- What a level's rows reach. -/
def fp (cv ov : Value) (cl : List CE) (ol : List OE) (k : Nat) : Prop := cv.ownBlock = some k ∨ ov.ownBlock = some k ∨ (∃ x ∈ cl, x.p = k) ∨ (∃ x ∈ ol, x.p = k)
section
variable {w w' : World} {cv ov : Value} {F : Nat → Prop} {cl : List CE} {ol : List OE}
theorem LvE.fp (h : LvE w cv ov F cl ol) : LvE w cv ov (fp cv ov cl ol) cl ol :=
  ⟨h.crow, h.orow, h.cat, h.oat, h.nodup, fun k e => ⟨.inl e, (h.cF k e).2⟩, fun k e => ⟨.inr (.inl e), (h.oF k e).2⟩, fun x hx => .inr (.inr (.inl ⟨x, hx, rfl⟩)), fun x hx => .inr (.inr (.inr ⟨x, hx, rfl⟩))⟩
theorem LvE.fpF (h : LvE w cv ov F cl ol) : ∀ k, Ytgdkbflhgcchfaa.fp cv ov cl ol k → F k := by
  rintro k (e | e | ⟨x, hx, rfl⟩ | ⟨x, hx, rfl⟩)
  · exact (h.cF k e).1
  · exact (h.oF k e).1
  · exact h.cpF x hx
  · exact h.opF x hx
theorem LvE.typed (h : LvE w cv ov F cl ol) : ∀ k, Ytgdkbflhgcchfaa.fp cv ov cl ol k → ∃ cur T f, w.heap[k]? = some (Obj.cells cur T f) ∧ qT T = true ∧ rT T = false := by
  rintro k (e | e | ⟨x, hx, rfl⟩ | ⟨x, hx, rfl⟩)
  · obtain ⟨_, cur, f, h1⟩ := h.cF k e; exact ⟨cur, _, f, h1, rfl, rfl⟩
  · obtain ⟨_, cur, f, h1⟩ := h.oF k e; exact ⟨cur, _, f, h1, rfl, rfl⟩
  · obtain ⟨dv, _, h1⟩ := h.cat x hx; exact ⟨_, _, _, h1, rfl, rfl⟩
  · obtain ⟨C, T, h1, h2, h3⟩ := (h.oat x hx).1.typed; exact ⟨_, _, _, h1, h3, h2⟩
end
/-- A level behind a pointer. -/
def Lev (w : World) (v : Value) (F : Nat → Prop) : Option Lv → Prop
  | none => v = .pointer none ∧ ∀ k, ¬ F k
  | some L => ∃ b cv ov cl ol, v = pt b ∧ Blk w b #[cv, ov] 179 ∧ LvE w cv ov (fp cv ov cl ol) cl ol ∧ (cl.map CE.pr, ol.map OE.c) = L ∧ ∀ k, F k ↔ k = b ∨ fp cv ov cl ol k
theorem Lev.typed {w : World} {v : Value} {F : Nat → Prop} {L : Option Lv} (h : Lev w v F L) : ∀ k, F k → ∃ cur T f, w.heap[k]? = some (Obj.cells cur T f) ∧ qT T = true ∧ T ≠ 181 := by
  intro k hk
  cases L with
  | none => exact (h.2 k hk).elim
  | some L =>
    obtain ⟨b, cv, ov, cl, ol, rfl, hB, hL, _, hF⟩ := h
    rcases (hF k).1 hk with rfl | e
    · exact ⟨_, _, _, hB, rfl, by decide⟩
    · obtain ⟨cur, T, f, h1, h2, h3⟩ := hL.typed k e
      exact ⟨cur, T, f, h1, h2, fun e => by subst e; cases h3⟩
theorem Lev.keep {w w' : World} {v : Value} {F : Nat → Prop} {L : Option Lv} (h : Lev w v F L) (hF : ∀ k, F k → w'.heap[k]? = w.heap[k]?) (hk : KeepB w w') : Lev w' v F L := by
  cases L with
  | none => exact h
  | some L =>
    obtain ⟨b, cv, ov, cl, ol, rfl, hB, hL, hM, hF2⟩ := h
    exact ⟨b, cv, ov, cl, ol, rfl, hB.same (hF b ((hF2 b).2 (.inl rfl))), hL.keep (fun k e => hF k ((hF2 k).2 (.inr e))) hk, hM, hF2⟩
/-- THE QUEUE in memory, by the door at block X; F is what it reaches. -/
def Qat (w : World) (X : Nat) (F : Nat → Prop) (st : St) : Prop :=
  ∃ Q v0 v1 c2 o2 cl ol, ∃ F0 F1 F2 : Nat → Prop, Blk w X #[pt Q] 103 ∧ Blk w Q #[v0, v1, c2, o2] 181 ∧ Lev w v0 F0 st.ini ∧ Lev w v1 F1 st.hs ∧ LvE w c2 o2 (fp c2 o2 cl ol) cl ol ∧ (cl.map CE.pr, ol.map OE.c) = st.app ∧
    (∀ k, F2 k ↔ fp c2 o2 cl ol k) ∧ (∀ k, F0 k → ¬ F1 k ∧ ¬ F2 k) ∧ (∀ k, F1 k → ¬ F2 k) ∧ ∀ k, F k ↔ k = Q ∨ F0 k ∨ F1 k ∨ F2 k
theorem Qat.typed {w : World} {X : Nat} {F : Nat → Prop} {st : St} (h : Qat w X F st) : ∀ k, F k → ∃ cur T f, w.heap[k]? = some (Obj.cells cur T f) ∧ qT T = true := by
  obtain ⟨Q, v0, v1, c2, o2, cl, ol, F0, F1, F2, hX, hQ, h0, h1, h2, hA, hF2, d01, d12, hF⟩ := h
  intro k hk
  rcases (hF k).1 hk with rfl | e | e | e
  · exact ⟨_, _, _, hQ, rfl⟩
  · obtain ⟨cur, T, f, a, b, _⟩ := h0.typed k e; exact ⟨cur, T, f, a, b⟩
  · obtain ⟨cur, T, f, a, b, _⟩ := h1.typed k e; exact ⟨cur, T, f, a, b⟩
  · obtain ⟨cur, T, f, a, b, _⟩ := h2.typed k ((hF2 k).1 e); exact ⟨cur, T, f, a, b⟩
theorem Qat.noBytes {w : World} {X : Nat} {F : Nat → Prop} {st : St} (h : Qat w X F st) {k : Nat} (hk : F k) : ¬ BytesBlk w k := by
  obtain ⟨cur, T, f, h1, h2⟩ := h.typed k hk
  rintro ⟨c, f', hb⟩
  have := Option.some.inj (h1.symm.trans hb)
  injection this with _ x _
  subst x; cases h2
theorem Qat.lt {w : World} {X : Nat} {F : Nat → Prop} {st : St} (h : Qat w X F st) {k : Nat} (hk : F k) : k < w.heap.size := by
  obtain ⟨cur, T, f, h1, _⟩ := h.typed k hk
  exact (Array.getElem?_eq_some_iff.1 h1).1
theorem Qat.notBlk {w : World} {X : Nat} {F : Nat → Prop} {st : St} (h : Qat w X F st) {b : Nat} {C : Array Value} {T : TypeId} (hb : Blk w b C T) (hT : qT T = false) : ¬ F b := fun hk => by
  obtain ⟨cur, T', f, h1, h2⟩ := h.typed b hk
  have := Option.some.inj (h1.symm.trans hb)
  injection this with _ x _
  rw [x, hT] at h2; cases h2
theorem Qat.keep {w w' : World} {X : Nat} {F : Nat → Prop} {st : St} (h : Qat w X F st) (hF : ∀ k, F k ∨ k = X → w'.heap[k]? = w.heap[k]?) (hk : KeepB w w') : Qat w' X F st := by
  obtain ⟨Q, v0, v1, c2, o2, cl, ol, F0, F1, F2, hX, hQ, h0, h1, h2, hA, hF2, d01, d12, hFF⟩ := h
  have e0 : ∀ k, F0 k → w'.heap[k]? = w.heap[k]? := fun k e => hF k (.inl ((hFF k).2 (.inr (.inl e))))
  have e1 : ∀ k, F1 k → w'.heap[k]? = w.heap[k]? := fun k e => hF k (.inl ((hFF k).2 (.inr (.inr (.inl e)))))
  have e2 : ∀ k, fp c2 o2 cl ol k → w'.heap[k]? = w.heap[k]? := fun k e => hF k (.inl ((hFF k).2 (.inr (.inr (.inr ((hF2 k).2 e))))))
  exact ⟨Q, v0, v1, c2, o2, cl, ol, F0, F1, F2, hX.same (hF X (.inr rfl)), hQ.same (hF Q (.inl ((hFF Q).2 (.inl rfl)))), h0.keep e0 hk, h1.keep e1 hk, h2.keep e2 hk, hA, hF2, d01, d12, hFF⟩
theorem Qat.grow {w w' : World} {X : Nat} {F : Nat → Prop} {st : St} (h : Qat w X F st) (hG : Grow w w') : Qat w' X F st :=
  h.keep (fun k hk => hG.block k (by rcases hk with hk | rfl; exact h.lt hk; obtain ⟨Q, v0, v1, c2, o2, cl, ol, F0, F1, F2, hX, _⟩ := h; exact hX.lt) (fun e => e)) hG.bytes
theorem Qat.new {w : World} {X : Nat} {F : Nat → Prop} {st : St} (h : Qat w X F st) : ∀ k, w.heap.size ≤ k → ¬ F k := fun k hk e => by have := h.lt e; omega
/-- What an act on the queue leaves; what it newly reaches is in G. -/
def QOutG (G : Nat → Prop) (w w' : World) (X : Nat) (F : Nat → Prop) (st' : St) : Prop := ∃ F', Qat w' X F' st' ∧ Fr F w w' ∧ ∀ k, F' k → F k ∨ G k
/-- .. where that is new. -/
abbrev QOut (w w' : World) (X : Nat) (F : Nat → Prop) (st' : St) : Prop := QOutG (fun k => w.heap.size ≤ k) w w' X F st'
section
variable {w w' : World} {X Q : Nat} {F0 F1 F2 F : Nat → Prop} {v0 v1 c2 o2 : Value} {cl : List CE} {ol : List OE} {st : St}
/-- A new state of the first level. -/
theorem upd0 {G : Nat → Prop} (hG : ∀ k, G k → ¬ F k) {v0' : Value} {F0' : Nat → Prop} {L : Option Lv} (hX : Blk w X #[pt Q] 103) (hQ : Blk w Q #[v0, v1, c2, o2] 181) (h0 : Lev w v0 F0 st.ini) (h1 : Lev w v1 F1 st.hs) (h2 : LvE w c2 o2 (fp c2 o2 cl ol) cl ol) (hA : (cl.map CE.pr, ol.map OE.c) = st.app)
    (hF2 : ∀ k, F2 k ↔ fp c2 o2 cl ol k) (d01 : ∀ k, F0 k → ¬ F1 k ∧ ¬ F2 k) (d12 : ∀ k, F1 k → ¬ F2 k) (hFF : ∀ k, F k ↔ k = Q ∨ F0 k ∨ F1 k ∨ F2 k)
    (hQ' : Blk w' Q #[v0', v1, c2, o2] 181) (h0' : Lev w' v0' F0' L) (hF : Fr (fun k => k = Q ∨ F0 k) w w') (hsub : ∀ k, F0' k → F0 k ∨ G k) : QOutG G w w' X F { st with ini := L } := by
  have hXQ : X ≠ Q := hX.ne_of_type hQ (by decide)
  have hX0 : ¬ F0 X := fun e => by
    obtain ⟨cur, T, f, a, b, _⟩ := h0.typed X e
    have := Option.some.inj (a.symm.trans hX)
    injection this with _ x _
    subst x; cases b
  have hb : KeepB w w' := hF.bytes (fun k hk hb => by
    rcases hk with rfl | e
    · exact hQ.noBytes (by decide) hb
    · obtain ⟨cur, T, f, a, b, _⟩ := h0.typed k e
      obtain ⟨c, f', hb⟩ := hb
      have := Option.some.inj (a.symm.trans hb)
      injection this with _ x _
      subst x; cases b)
  have l1 : ∀ k, F1 k → k < w.heap.size := fun k e => by obtain ⟨cur, T, f, a, _⟩ := h1.typed k e; exact (Array.getElem?_eq_some_iff.1 a).1
  have l2 : ∀ k, F2 k → k < w.heap.size := fun k e => by obtain ⟨cur, T, f, a, _⟩ := h2.typed k ((hF2 k).1 e); exact (Array.getElem?_eq_some_iff.1 a).1
  have n1 : ∀ k, F1 k → k ≠ Q := fun k e1 e => by
    subst e
    obtain ⟨cur, T, f, a, _, b⟩ := h1.typed k e1
    have := Option.some.inj (a.symm.trans hQ)
    injection this with _ x _
    exact b x
  have n2 : ∀ k, F2 k → k ≠ Q := fun k e1 e => by
    subst e
    obtain ⟨cur, T, f, a, _, b⟩ := h2.typed k ((hF2 k).1 e1)
    have := Option.some.inj (a.symm.trans hQ)
    injection this with _ x _
    subst x; cases b
  refine ⟨fun k => k = Q ∨ F0' k ∨ F1 k ∨ F2 k, ⟨Q, v0', v1, c2, o2, cl, ol, F0', F1, F2, hF.blk hX (fun e => e.elim hXQ hX0), hQ', h0', h1.keep (fun k e => hF.block k (l1 k e) (fun c => c.elim (n1 k e) (fun c => (d01 k c).1 e))) hb, h2.keep (fun k e => hF.block k (l2 k ((hF2 k).2 e)) (fun c => c.elim (n2 k ((hF2 k).2 e)) (fun c => (d01 k c).2 ((hF2 k).2 e)))) hb, hA, hF2, fun k e => ?_, d12, fun k => Iff.rfl⟩, hF.mono (fun k _ e => (hFF k).2 (e.imp id .inl)), fun k e => ?_⟩
  · rcases hsub k e with h | h
    · exact d01 k h
    · exact ⟨fun e => hG k h ((hFF k).2 (.inr (.inr (.inl e)))), fun e => hG k h ((hFF k).2 (.inr (.inr (.inr e))))⟩
  · rcases e with e | e | e | e
    · exact .inl ((hFF k).2 (.inl e))
    · exact (hsub k e).imp (fun h => (hFF k).2 (.inr (.inl h))) id
    · exact .inl ((hFF k).2 (.inr (.inr (.inl e))))
    · exact .inl ((hFF k).2 (.inr (.inr (.inr e))))
/-- A new state of the second level. -/
theorem upd1 {G : Nat → Prop} (hG : ∀ k, G k → ¬ F k) {v1' : Value} {F1' : Nat → Prop} {L : Option Lv} (hX : Blk w X #[pt Q] 103) (hQ : Blk w Q #[v0, v1, c2, o2] 181) (h0 : Lev w v0 F0 st.ini) (h1 : Lev w v1 F1 st.hs) (h2 : LvE w c2 o2 (fp c2 o2 cl ol) cl ol) (hA : (cl.map CE.pr, ol.map OE.c) = st.app)
    (hF2 : ∀ k, F2 k ↔ fp c2 o2 cl ol k) (d01 : ∀ k, F0 k → ¬ F1 k ∧ ¬ F2 k) (d12 : ∀ k, F1 k → ¬ F2 k) (hFF : ∀ k, F k ↔ k = Q ∨ F0 k ∨ F1 k ∨ F2 k)
    (hQ' : Blk w' Q #[v0, v1', c2, o2] 181) (h1' : Lev w' v1' F1' L) (hF : Fr (fun k => k = Q ∨ F1 k) w w') (hsub : ∀ k, F1' k → F1 k ∨ G k) : QOutG G w w' X F { st with hs := L } := by
  have hXQ : X ≠ Q := hX.ne_of_type hQ (by decide)
  have hX1 : ¬ F1 X := fun e => by
    obtain ⟨cur, T, f, a, b, _⟩ := h1.typed X e
    have := Option.some.inj (a.symm.trans hX)
    injection this with _ x _
    subst x; cases b
  have hb : KeepB w w' := hF.bytes (fun k hk hb => by
    rcases hk with rfl | e
    · exact hQ.noBytes (by decide) hb
    · obtain ⟨cur, T, f, a, b, _⟩ := h1.typed k e
      obtain ⟨c, f', hb⟩ := hb
      have := Option.some.inj (a.symm.trans hb)
      injection this with _ x _
      subst x; cases b)
  have l0 : ∀ k, F0 k → k < w.heap.size := fun k e => by obtain ⟨cur, T, f, a, _⟩ := h0.typed k e; exact (Array.getElem?_eq_some_iff.1 a).1
  have l2 : ∀ k, F2 k → k < w.heap.size := fun k e => by obtain ⟨cur, T, f, a, _⟩ := h2.typed k ((hF2 k).1 e); exact (Array.getElem?_eq_some_iff.1 a).1
  have n0 : ∀ k, F0 k → k ≠ Q := fun k e1 e => by
    subst e
    obtain ⟨cur, T, f, a, _, b⟩ := h0.typed k e1
    have := Option.some.inj (a.symm.trans hQ)
    injection this with _ x _
    exact b x
  have n2 : ∀ k, F2 k → k ≠ Q := fun k e1 e => by
    subst e
    obtain ⟨cur, T, f, a, _, b⟩ := h2.typed k ((hF2 k).1 e1)
    have := Option.some.inj (a.symm.trans hQ)
    injection this with _ x _
    subst x; cases b
  refine ⟨fun k => k = Q ∨ F0 k ∨ F1' k ∨ F2 k, ⟨Q, v0, v1', c2, o2, cl, ol, F0, F1', F2, hF.blk hX (fun e => e.elim hXQ hX1), hQ', h0.keep (fun k e => hF.block k (l0 k e) (fun c => c.elim (n0 k e) (fun c => (d01 k e).1 c))) hb, h1', h2.keep (fun k e => hF.block k (l2 k ((hF2 k).2 e)) (fun c => c.elim (n2 k ((hF2 k).2 e)) (fun c => d12 k c ((hF2 k).2 e)))) hb, hA, hF2, fun k e => ⟨fun c => ?_, (d01 k e).2⟩, fun k e => ?_, fun k => Iff.rfl⟩, hF.mono (fun k _ e => (hFF k).2 (e.imp id (fun e => .inr (.inl e)))), fun k e => ?_⟩
  · rcases hsub k c with h | h
    · exact (d01 k e).1 h
    · exact hG k h ((hFF k).2 (.inr (.inl e)))
  · rcases hsub k e with h | h
    · exact d12 k h
    · exact fun e => hG k h ((hFF k).2 (.inr (.inr (.inr e))))
  · rcases e with e | e | e | e
    · exact .inl ((hFF k).2 (.inl e))
    · exact .inl ((hFF k).2 (.inr (.inl e)))
    · exact (hsub k e).imp (fun h => (hFF k).2 (.inr (.inr (.inl h)))) id
    · exact .inl ((hFF k).2 (.inr (.inr (.inr e))))
/-- A new state of the last level. -/
theorem upd2 {G : Nat → Prop} (hG : ∀ k, G k → ¬ F k) {c2' o2' : Value} {F2' : Nat → Prop} {cl' : List CE} {ol' : List OE} {L : Lv} (hX : Blk w X #[pt Q] 103) (hQ : Blk w Q #[v0, v1, c2, o2] 181) (h0 : Lev w v0 F0 st.ini) (h1 : Lev w v1 F1 st.hs) (h2 : LvE w c2 o2 (fp c2 o2 cl ol) cl ol)
    (hF2 : ∀ k, F2 k ↔ fp c2 o2 cl ol k) (d01 : ∀ k, F0 k → ¬ F1 k ∧ ¬ F2 k) (d12 : ∀ k, F1 k → ¬ F2 k) (hFF : ∀ k, F k ↔ k = Q ∨ F0 k ∨ F1 k ∨ F2 k)
    (hQ' : Blk w' Q #[v0, v1, c2', o2'] 181) (h2' : LvE w' c2' o2' F2' cl' ol') (hA : (cl'.map CE.pr, ol'.map OE.c) = L) (hF : Fr (fun k => k = Q ∨ F2 k) w w') (hsub : ∀ k, F2' k → F2 k ∨ G k) : QOutG G w w' X F { st with app := L } := by
  have hXQ : X ≠ Q := hX.ne_of_type hQ (by decide)
  have hX2 : ¬ F2 X := fun e => by
    obtain ⟨cur, T, f, a, b, _⟩ := h2.typed X ((hF2 X).1 e)
    have := Option.some.inj (a.symm.trans hX)
    injection this with _ x _
    subst x; cases b
  have hb : KeepB w w' := hF.bytes (fun k hk hb => by
    rcases hk with rfl | e
    · exact hQ.noBytes (by decide) hb
    · obtain ⟨cur, T, f, a, b, _⟩ := h2.typed k ((hF2 k).1 e)
      obtain ⟨c, f', hb⟩ := hb
      have := Option.some.inj (a.symm.trans hb)
      injection this with _ x _
      subst x; cases b)
  have l0 : ∀ k, F0 k → k < w.heap.size := fun k e => by obtain ⟨cur, T, f, a, _⟩ := h0.typed k e; exact (Array.getElem?_eq_some_iff.1 a).1
  have l1 : ∀ k, F1 k → k < w.heap.size := fun k e => by obtain ⟨cur, T, f, a, _⟩ := h1.typed k e; exact (Array.getElem?_eq_some_iff.1 a).1
  have n0 : ∀ k, F0 k → k ≠ Q := fun k e1 e => by
    subst e
    obtain ⟨cur, T, f, a, _, b⟩ := h0.typed k e1
    have := Option.some.inj (a.symm.trans hQ)
    injection this with _ x _
    exact b x
  have n1 : ∀ k, F1 k → k ≠ Q := fun k e1 e => by
    subst e
    obtain ⟨cur, T, f, a, _, b⟩ := h1.typed k e1
    have := Option.some.inj (a.symm.trans hQ)
    injection this with _ x _
    exact b x
  have hs2 : ∀ k, fp c2' o2' cl' ol' k → F2 k ∨ G k := fun k e => hsub k (h2'.fpF k e)
  refine ⟨fun k => k = Q ∨ F0 k ∨ F1 k ∨ fp c2' o2' cl' ol' k, ⟨Q, v0, v1, c2', o2', cl', ol', F0, F1, fp c2' o2' cl' ol', hF.blk hX (fun e => e.elim hXQ hX2), hQ', h0.keep (fun k e => hF.block k (l0 k e) (fun c => c.elim (n0 k e) (fun c => (d01 k e).2 c))) hb, h1.keep (fun k e => hF.block k (l1 k e) (fun c => c.elim (n1 k e) (fun c => d12 k e c))) hb, h2'.fp, hA, fun k => Iff.rfl, fun k e => ⟨(d01 k e).1, fun c => ?_⟩, fun k e c => ?_, fun k => Iff.rfl⟩, hF.mono (fun k _ e => (hFF k).2 (e.imp id (fun e => .inr (.inr e)))), fun k e => ?_⟩
  · rcases hs2 k c with h | h
    · exact (d01 k e).2 h
    · exact hG k h ((hFF k).2 (.inr (.inl e)))
  · rcases hs2 k c with h | h
    · exact d12 k e h
    · exact hG k h ((hFF k).2 (.inr (.inr (.inl e))))
  · rcases e with e | e | e | e
    · exact .inl ((hFF k).2 (.inl e))
    · exact .inl ((hFF k).2 (.inr (.inl e)))
    · exact .inl ((hFF k).2 (.inr (.inr (.inl e))))
    · exact (hs2 k e).imp (fun h => (hFF k).2 (.inr (.inr (.inr h)))) id
end
end Go.Proofs.Ytgdkbflhgcchfaa
