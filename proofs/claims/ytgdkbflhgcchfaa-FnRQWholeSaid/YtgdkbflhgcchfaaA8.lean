/- A level of the queue in memory; what is taken from it: GetFrame. -/
import Derived.Test.YtgdkbflhgcchfaaA7
namespace Go.Proofs.Ytgdkbflhgcchfaa
open Go.RowKit

/-- A type that is none of the rows' and frames'. -/
def rT (T : TypeId) : Bool := T == 179 || T == 181
/-- A pointer to a struct. -/
abbrev pt (b : Nat) : Value := .pointer (some ⟨b, 0, none⟩)
/-- What is behind the first element. -/
abbrev tl (rb off n cap : Nat) : Value := .slice (if cap = 1 then some ⟨rb, off, none⟩ else some ⟨rb, off + 1, none⟩) n (cap - 1)
theorem Own.head {w : World} {v x : Value} {e : TypeId} {n : Nat} {xs : List Value} (h : Own w v e 1 (n + 1) (x :: xs)) :
    ∃ rb off cap, v = .slice (some ⟨rb, off, none⟩) (n + 1) cap ∧ n + 1 ≤ cap ∧ cap ≤ 9223372036854775807 ∧ w.cell? ⟨rb, off, none⟩ = some x ∧ rb < w.heap.size ∧ Own w (tl rb off n cap) e 1 n xs := by
  obtain ⟨h1, p, cap, rfl, h2, h3, h4⟩ := h
  rcases h4 with h4 | ⟨b, off, cur, rfl, h5, h6, h7⟩
  · omega
  · simp only [List.length_cons] at h1
    refine ⟨b, off, cap, rfl, h2, h3, ?_, (Array.getElem?_eq_some_iff.1 h5).1, by omega, _, _, rfl, by omega, by omega, ?_⟩
    · have := h7 0 x rfl
      simpa [World.cell?, h5] using this
    · by_cases c : cap = 1
      · exact .inl (by omega)
      · rw [if_neg c]
        refine .inr ⟨b, off + 1, cur, rfl, h5, by omega, fun j u hj => ?_⟩
        have := h7 (j + 1) u (by simpa using hj)
        rwa [show off + 1 + j = off + (j + 1) from by omega]
theorem tl_own (rb off n cap : Nat) : (tl rb off n cap).ownBlock = some rb := by
  unfold tl; split <;> rfl

/-- The frame at block p is CRYPTO data d at offset a. -/
def CrAt (w : World) (p a : Nat) (d : List UInt8) : Prop := ∃ dv, Rd w dv d ∧ Blk w p #[.int .i64 (a : Int), dv] 122
theorem CrAt.keep {w w' : World} {p a : Nat} {d : List UInt8} (h : CrAt w p a d) (hp : w'.heap[p]? = w.heap[p]?) (hk : KeepB w w') : CrAt w' p a d := by
  obtain ⟨dv, h1, h2⟩ := h; exact ⟨dv, h1.keep hk, h2.same hp⟩
theorem CrAt.frame {w : World} {p a : Nat} {d : List UInt8} (h : CrAt w p a d) : FrC w p (.crypto a d) (.iface 120 (pt p)) := ⟨rfl, h⟩
/-- Types of which the queue's blocks are. -/
def qT (T : TypeId) : Bool := T != 5 && T != 44 && T != 35 && T != 103 && T != 4
/-- An entry of the crypto row, of the others' row. -/
structure CE where (p : Nat) (a : Nat) (d : List UInt8)
structure OE where (p : Nat) (fv : Value) (c : Ct)
/-- A level: the two rows, and what they point to, all within F. -/
structure LvE (w : World) (cv ov : Value) (F : Nat → Prop) (cl : List CE) (ol : List OE) : Prop where
  crow : Own w cv 120 1 cl.length (cl.map fun x => pt x.p)
  orow : Own w ov 84 1 ol.length (ol.map fun x => x.fv)
  cat : ∀ x ∈ cl, CrAt w x.p x.a x.d
  oat : ∀ x ∈ ol, FrC w x.p x.c x.fv ∧ x.c.ty ≠ 6
  nodup : (cl.map fun x => x.p).Nodup
  cF : ∀ k, cv.ownBlock = some k → F k ∧ ∃ cur f, w.heap[k]? = some (Obj.cells cur 120 f)
  oF : ∀ k, ov.ownBlock = some k → F k ∧ ∃ cur f, w.heap[k]? = some (Obj.cells cur 84 f)
  cpF : ∀ x ∈ cl, F x.p
  opF : ∀ x ∈ ol, F x.p
section
variable {w w' : World} {cv ov : Value} {F : Nat → Prop} {cl : List CE} {ol : List OE}
theorem LvE.keep (h : LvE w cv ov F cl ol) (hF : ∀ k, F k → w'.heap[k]? = w.heap[k]?) (hk : KeepB w w') : LvE w' cv ov F cl ol :=
  ⟨h.crow.keep (fun k hk2 => hF k (h.cF k hk2).1), h.orow.keep (fun k hk2 => hF k (h.oF k hk2).1), fun x hx => (h.cat x hx).keep (hF _ (h.cpF x hx)) hk, fun x hx => ⟨(h.oat x hx).1.keep (hF _ (h.opF x hx)) hk, (h.oat x hx).2⟩, h.nodup,
    fun k hk2 => ⟨(h.cF k hk2).1, by rw [hF k (h.cF k hk2).1]; exact (h.cF k hk2).2⟩, fun k hk2 => ⟨(h.oF k hk2).1, by rw [hF k (h.oF k hk2).1]; exact (h.oF k hk2).2⟩, h.cpF, h.opF⟩
theorem LvE.mono {F' : Nat → Prop} (h : LvE w cv ov F cl ol) (hF : ∀ k, F k → F' k) : LvE w cv ov F' cl ol :=
  ⟨h.crow, h.orow, h.cat, h.oat, h.nodup, fun k hk => ⟨hF k (h.cF k hk).1, (h.cF k hk).2⟩, fun k hk => ⟨hF k (h.oF k hk).1, (h.oF k hk).2⟩, fun x hx => hF _ (h.cpF x hx), fun x hx => hF _ (h.opF x hx)⟩
theorem LvE.nil (w : World) (F : Nat → Prop) : LvE w (.slice none 0 0) (.slice none 0 0) F [] [] :=
  ⟨Own.nil w 120 1, Own.nil w 84 1, (fun _ h => nomatch h), (fun _ h => nomatch h), List.nodup_nil, (fun _ h => nomatch h), (fun _ h => nomatch h), (fun _ h => nomatch h), (fun _ h => nomatch h)⟩
end

/-- Level lvl of the queue at block Q has its rows in block b, from o on. -/
def Sel (w : World) (Q lvl b o : Nat) : Prop := (lvl = 1 ∧ o = 0 ∧ w.cell? ⟨Q, 0, none⟩ = some (pt b)) ∨ (lvl = 2 ∧ o = 0 ∧ w.cell? ⟨Q, 1, none⟩ = some (pt b)) ∨ (lvl = 4 ∧ o = 2 ∧ b = Q)

theorem LvE.tailC {w : World} {rb off n cap : Nat} {ov : Value} {F : Nat → Prop} {x : CE} {cl : List CE} {ol : List OE} (hL : LvE w (.slice (some ⟨rb, off, none⟩) n cap) ov F (x :: cl) ol) (hO : Own w (tl rb off cl.length cap) 120 1 cl.length (cl.map fun x => pt x.p)) : LvE w (tl rb off cl.length cap) ov F cl ol :=
  ⟨hO, hL.orow, fun y hy => hL.cat y (List.mem_cons_of_mem _ hy), hL.oat, (List.nodup_cons.1 hL.nodup).2, fun k hk => hL.cF k (by rw [tl_own] at hk; exact hk), hL.oF, fun y hy => hL.cpF y (List.mem_cons_of_mem _ hy), hL.opF⟩
theorem LvE.tailO {w : World} {rb off n cap : Nat} {cv : Value} {F : Nat → Prop} {x : OE} {cl : List CE} {ol : List OE} (hL : LvE w cv (.slice (some ⟨rb, off, none⟩) n cap) F cl (x :: ol)) (hO : Own w (tl rb off ol.length cap) 84 1 ol.length (ol.map fun x => x.fv)) : LvE w cv (tl rb off ol.length cap) F cl ol :=
  ⟨hL.crow, hO, hL.cat, fun y hy => hL.oat y (List.mem_cons_of_mem _ hy), hL.nodup, hL.cF, fun k hk => hL.oF k (by rw [tl_own] at hk; exact hk), hL.cpF, fun y hy => hL.opF y (List.mem_cons_of_mem _ hy)⟩
theorem FrC.typed {w : World} {p : Nat} {c : Ct} {fv : Value} (h : FrC w p c fv) : ∃ C T, Blk w p C T ∧ rT T = false ∧ qT T = true := by
  cases c
  case ping => exact ⟨_, _, h.2, rfl, rfl⟩
  case done => exact ⟨_, _, h.2, rfl, rfl⟩
  case reset => exact ⟨_, _, h.2, rfl, rfl⟩
  case stop => exact ⟨_, _, h.2, rfl, rfl⟩
  case maxStream => exact ⟨_, _, h.2, rfl, rfl⟩
  case maxData => exact ⟨_, _, h.2, rfl, rfl⟩
  case maxStreams => exact ⟨_, _, h.2, rfl, rfl⟩
  case retire => exact ⟨_, _, h.2, rfl, rfl⟩
  case token => obtain ⟨_, dv, _, h2⟩ := h; exact ⟨_, _, h2, rfl, rfl⟩
  case crypto => obtain ⟨_, dv, _, h2⟩ := h; exact ⟨_, _, h2, rfl, rfl⟩
/-- Only the queue's structs were written. -/
def KeepR (w w' : World) : Prop := ∀ (k : Nat) (cur : Array Value) (T : TypeId) (f : Nat × Nat), w.heap[k]? = some (Obj.cells cur T f) → rT T = false → w'.heap[k]? = w.heap[k]?
theorem KeepR.bytes {w w' : World} (h : KeepR w w') : KeepB w w' := fun k ⟨c, f, hb⟩ => h k c 5 f hb rfl
theorem CrAt.keepR {w w' : World} {p a : Nat} {d : List UInt8} (h : CrAt w p a d) (hk : KeepR w w') : CrAt w' p a d := by
  obtain ⟨dv, h1, h2⟩ := h; exact ⟨dv, h1.keep hk.bytes, h2.same (hk _ _ _ _ h2 rfl)⟩
theorem FrC.keepR {w w' : World} {p : Nat} {c : Ct} {fv : Value} (h : FrC w p c fv) (hk : KeepR w w') : FrC w' p c fv := by
  obtain ⟨C, T, hb, hr, _⟩ := h.typed
  exact h.keep (hk _ _ _ _ hb hr) hk.bytes
theorem LvE.keepR {w w' : World} {cv ov : Value} {F : Nat → Prop} {cl : List CE} {ol : List OE} (h : LvE w cv ov F cl ol) (hk : KeepR w w') : LvE w' cv ov F cl ol :=
  have hc : ∀ k, cv.ownBlock = some k → w'.heap[k]? = w.heap[k]? := fun k e => by obtain ⟨_, cur, f, h1⟩ := h.cF k e; exact hk _ _ _ _ h1 rfl
  have ho : ∀ k, ov.ownBlock = some k → w'.heap[k]? = w.heap[k]? := fun k e => by obtain ⟨_, cur, f, h1⟩ := h.oF k e; exact hk _ _ _ _ h1 rfl
  ⟨h.crow.keep hc, h.orow.keep ho, fun x hx => (h.cat x hx).keepR hk, fun x hx => ⟨(h.oat x hx).1.keepR hk, (h.oat x hx).2⟩, h.nodup,
    fun k e => ⟨(h.cF k e).1, by rw [hc k e]; exact (h.cF k e).2⟩, fun k e => ⟨(h.oF k e).1, by rw [ho k e]; exact (h.oF k e).2⟩, h.cpF, h.opF⟩
theorem KeepR.grow {w w' : World} (h : Grow w w') : KeepR w w' := fun k _ _ _ hk _ => h.block k (Array.getElem?_eq_some_iff.1 hk).1 (fun e => e)
theorem KeepR.set {w w' : World} (h : KeepR w w') {b : Nat} {C : Array Value} {T : TypeId} (hB : Blk w' b C T) (hT : rT T = true) (i : Nat) (v : Value) : KeepR w (w'.setCell ⟨b, i, none⟩ v) := fun k cur T' f hk hr => by
  refine (Below.heap_setCell _ _ _ _ (fun e => ?_)).trans (h k cur T' f hk hr)
  have e : k = b := e
  subst e
  have := Option.some.inj ((h k cur T' f hk hr).trans hk |>.symm.trans hB)
  injection this with _ x _
  rw [x, hT] at hr; cases hr
theorem set_same {C : Array Value} {i : Nat} {v : Value} (h : C[i]? = some v) : C.setIfInBounds i v = C := by
  apply Array.ext_getElem?
  intro j
  by_cases e : i = j
  · subst e
    rw [Array.getElem?_setIfInBounds_self_of_lt (Array.getElem?_eq_some_iff.1 h).1, h]
  · rw [Array.getElem?_setIfInBounds_ne e]
/-- An entry as the statement sees it. -/
abbrev CE.pr (x : CE) : Nat × List UInt8 := (x.a, x.d)
/-- The next frame of a level, of at most M bytes. -/
def nextO (M : Nat) (cs : List (Nat × List UInt8)) : List Ct → Option Ct × List (Nat × List UInt8) × List Ct
  | [] => (none, cs, [])
  | c :: os => if c.enc.length ≤ M then (some c, cs, os) else (none, cs, c :: os)
def nextF (M : Nat) : List (Nat × List UInt8) → List Ct → Option Ct × List (Nat × List UInt8) × List Ct
  | [], os => nextO M [] os
  | x :: cs, os => if 1 + vlen x.1 + vlen x.2.length + x.2.length ≤ M then (some (.crypto x.1 x.2), cs, os)
    else if room x.1 M = 0 then nextO M (x :: cs) os else (some (.crypto x.1 (x.2.take (room x.1 M))), (x.1 + room x.1 M, x.2.drop (room x.1 M)) :: cs, os)
/-- What GetFrame leaves and gives. -/
def GetOut (w w' : World) (b o : Nat) (C : Array Value) (T : TypeId) (F : Nat → Prop) (M : Nat) (cl : List CE) (ol : List OE) (ret : Value) : Prop :=
  ∃ cv' ov' cl' ol', Blk w' b ((C.setIfInBounds o cv').setIfInBounds (o + 1) ov') T ∧ LvE w' cv' ov' F cl' ol' ∧ Fr (fun k => k = b ∨ F k) w w' ∧
    ∃ r, nextF M (cl.map CE.pr) (ol.map OE.c) = (r, cl'.map CE.pr, ol'.map OE.c) ∧ (r = none → ret = .nilIface) ∧ (∀ c, r = some c → ∃ p, FrC w' p c ret)
theorem whole_end {w w1 : World} {b o rb off cap : Nat} {C : Array Value} {T : TypeId} {F : Nat → Prop} {ov V : Value} {x : CE} {cl : List CE} {ol : List OE} {M : Nat} (hB : Blk w b C T) (hov : C[o + 1]? = some ov) (hL : LvE w (.slice (some ⟨rb, off, none⟩) (cl.length + 1) cap) ov F (x :: cl) ol)
    (hO : Own w (tl rb off cl.length cap) 120 1 cl.length (cl.map fun x => pt x.p)) (hG : Grow w w1) (hT : rT T = true) (hfit : 1 + vlen x.a + vlen x.d.length + x.d.length ≤ M) (hV : V = tl rb off cl.length cap) :
    GetOut w (w1.setCell ⟨b, o, none⟩ V) b o C T F M (x :: cl) ol (.iface 120 (pt x.p)) := by
  subst hV
  have hB1 := hG.blk hB (fun e => e)
  have hk := (KeepR.grow hG).set hB1 hT o (tl rb off cl.length cap)
  refine ⟨tl rb off cl.length cap, ov, cl, ol, ?_, (hL.tailC hO).keepR hk, (Grow.to hG).setCell _ _ (.inl (.inl rfl)), some (.crypto x.a x.d), ?_, (fun e => nomatch e), ?_⟩
  · have := hB1.set o (tl rb off cl.length cap)
    rwa [set_same (v := ov)]
    rw [Array.getElem?_setIfInBounds_ne (by omega), hov]
  · simp only [List.map_cons, nextF]
    rw [if_pos hfit]
  · intro c hc
    injection hc with hc
    subst hc
    exact ⟨x.p, ((hL.cat x List.mem_cons_self).keepR hk).frame⟩
/-- Nothing was taken. -/
theorem none_end {w w1 : World} {b o : Nat} {C : Array Value} {T : TypeId} {F : Nat → Prop} {cv ov : Value} {cl : List CE} {ol : List OE} {M : Nat} (hB : Blk w b C T) (hcv : C[o]? = some cv) (hov : C[o + 1]? = some ov) (hL : LvE w cv ov F cl ol) (hG : Grow w w1) (hn : nextF M (cl.map CE.pr) (ol.map OE.c) = (none, cl.map CE.pr, ol.map OE.c)) :
    GetOut w w1 b o C T F M cl ol .nilIface := by
  refine ⟨cv, ov, cl, ol, ?_, hL.keepR (KeepR.grow hG), Grow.to hG, none, hn, (fun _ => rfl), (fun _ e => nomatch e)⟩
  rw [set_same hcv, set_same hov]
  exact hG.blk hB (fun e => e)
theorem other_end {w w1 : World} {b o rb off cap : Nat} {C : Array Value} {T : TypeId} {F : Nat → Prop} {cv V : Value} {x : OE} {cl : List CE} {ol : List OE} {M : Nat} (hB : Blk w b C T) (hcv : C[o]? = some cv) (hL : LvE w cv (.slice (some ⟨rb, off, none⟩) (ol.length + 1) cap) F cl (x :: ol))
    (hO : Own w (tl rb off ol.length cap) 84 1 ol.length (ol.map fun x => x.fv)) (hG : Grow w w1) (hT : rT T = true) (hn : nextF M (cl.map CE.pr) (x.c :: ol.map OE.c) = (some x.c, cl.map CE.pr, ol.map OE.c)) (hV : V = tl rb off ol.length cap) :
    GetOut w (w1.setCell ⟨b, o + 1, none⟩ V) b o C T F M cl (x :: ol) x.fv := by
  subst hV
  have hB1 := hG.blk hB (fun e => e)
  have hk := (KeepR.grow hG).set hB1 hT (o + 1) (tl rb off ol.length cap)
  refine ⟨cv, tl rb off ol.length cap, cl, ol, ?_, (hL.tailO hO).keepR hk, (Grow.to hG).setCell _ _ (.inl (.inl rfl)), some x.c, hn, (fun e => nomatch e), ?_⟩
  · rw [set_same hcv]
    exact hB1.set (o + 1) _
  · intro c hc
    injection hc with hc
    subst hc
    exact ⟨x.p, (hL.oat x List.mem_cons_self).1.keepR hk⟩
theorem FrC.not122 {w : World} {p : Nat} {c : Ct} {fv : Value} (h : FrC w p c fv) (hc : c.ty ≠ 6) : ∃ C T, Blk w p C T ∧ T ≠ 122 := by
  cases c
  case ping => exact ⟨_, _, h.2, by decide⟩
  case done => exact ⟨_, _, h.2, by decide⟩
  case reset => exact ⟨_, _, h.2, by decide⟩
  case stop => exact ⟨_, _, h.2, by decide⟩
  case maxStream => exact ⟨_, _, h.2, by decide⟩
  case maxData => exact ⟨_, _, h.2, by decide⟩
  case maxStreams => exact ⟨_, _, h.2, by decide⟩
  case retire => exact ⟨_, _, h.2, by decide⟩
  case token => obtain ⟨_, dv, _, h2⟩ := h; exact ⟨_, _, h2, by decide⟩
  case crypto => exact (hc rfl).elim
theorem split_end {w w1 : World} {b o k n : Nat} {C : Array Value} {T : TypeId} {F : Nat → Prop} {cv ov s s' : Value} {x : CE} {cl : List CE} {ol : List OE} {M : Nat} (hB : Blk w b C T) (hcv : C[o]? = some cv) (hov : C[o + 1]? = some ov) (hL : LvE w cv ov F (x :: cl) ol) (hT : rT T = true)
    (hfit : ¬ (1 + vlen x.a + vlen x.d.length + x.d.length ≤ M)) (hn : room x.a M = n) (hn0 : n ≠ 0) (h1 : Blk w1 k #[.int .i64 (x.a : Int), s] 122) (h2 : Rd w1 s (x.d.take n)) (h3 : Blk w1 x.p #[.int .i64 ((x.a + n : Nat) : Int), s'] 122) (h4 : Rd w1 s' (x.d.drop n)) (hF : Fr (fun j => j = x.p) w w1) :
    GetOut w w1 b o C T F M (x :: cl) ol (.iface 120 (pt k)) := by
  obtain ⟨dv, _, hx⟩ := hL.cat x List.mem_cons_self
  have hbx : b ≠ x.p := hB.ne_of_type hx (fun e => by subst e; cases hT)
  have hkb : KeepB w w1 := hF.bytes (fun j hj => by rw [show j = x.p from hj]; exact hx.noBytes (by decide))
  have hrow : ∀ (k : Nat) (cur : Array Value) (T' : TypeId) (f : Nat × Nat), w.heap[k]? = some (Obj.cells cur T' f) → T' ≠ 122 → w1.heap[k]? = w.heap[k]? := fun k cur T' f hk hT' => hF.block k (Array.getElem?_eq_some_iff.1 hk).1 (fun e => by
    have e : k = x.p := e
    subst e
    have := Option.some.inj (hk.symm.trans hx)
    injection this with _ y _
    exact hT' y)
  have hc : ∀ k, cv.ownBlock = some k → w1.heap[k]? = w.heap[k]? := fun k e => by obtain ⟨_, cur, f, h1⟩ := hL.cF k e; exact hrow _ _ _ _ h1 (by decide)
  have ho : ∀ k, ov.ownBlock = some k → w1.heap[k]? = w.heap[k]? := fun k e => by obtain ⟨_, cur, f, h1⟩ := hL.oF k e; exact hrow _ _ _ _ h1 (by decide)
  have hnd := hL.nodup
  simp only [List.map_cons, List.nodup_cons] at hnd
  refine ⟨cv, ov, ⟨x.p, x.a + n, x.d.drop n⟩ :: cl, ol, ?_, ⟨hL.crow.keep hc, hL.orow.keep ho, ?_, ?_, hL.nodup, fun k e => ⟨(hL.cF k e).1, by rw [hc k e]; exact (hL.cF k e).2⟩, fun k e => ⟨(hL.oF k e).1, by rw [ho k e]; exact (hL.oF k e).2⟩, ?_, hL.opF⟩, hF.mono (fun j _ e => .inr ?_), some (.crypto x.a (x.d.take n)), ?_, (fun e => nomatch e), ?_⟩
  · rw [set_same hcv, set_same hov]
    exact hF.blk hB (fun e => hbx e)
  · intro y hy
    rcases List.mem_cons.1 hy with rfl | hy
    · exact ⟨s', h4, h3⟩
    · have hp : y.p ≠ x.p := fun e => hnd.1 (by rw [← e]; exact List.mem_map_of_mem hy)
      have hcy := hL.cat y (List.mem_cons_of_mem _ hy)
      exact hcy.keep (hF.block y.p (by obtain ⟨_, _, hb⟩ := hcy; exact hb.lt) hp) hkb
  · intro y hy
    obtain ⟨hf, hty⟩ := hL.oat y hy
    obtain ⟨C', T', hb, hT'⟩ := hf.not122 hty
    exact ⟨hf.keep (hrow _ _ _ _ hb hT') hkb, hty⟩
  · intro y hy
    rcases List.mem_cons.1 hy with rfl | hy
    · exact hL.cpF x List.mem_cons_self
    · exact hL.cpF y (List.mem_cons_of_mem _ hy)
  · rw [show j = x.p from e]; exact hL.cpF x List.mem_cons_self
  · simp only [List.map_cons, nextF]
    rw [if_neg hfit, hn, if_neg hn0]
  · intro c hc
    injection hc with hc
    subst hc
    exact ⟨k, CrAt.frame ⟨s, h2, h1⟩⟩
theorem room_lt {a M n : Nat} (hn : n ≤ 400) (h : ¬ (1 + vlen a + vlen n + n ≤ M)) : room a M ≤ n := by
  unfold room
  split
  · omega
  · split
    · rcases Nat.lt_or_ge n 64 with c | c
      · rw [vlen_lo c] at h; omega
      · omega
    · rcases Nat.lt_or_ge n 64 with c | c
      · rw [vlen_lo c] at h; omega
      · rcases Nat.lt_or_ge n 16384 with c2 | c2
        · rw [vlen_mid c c2] at h; omega
        · omega

set_option maxRecDepth 100000 in
set_option maxHeartbeats 4000000 in
theorem get_whole (w : World) (Q lvl b o M : Nat) (C : Array Value) (T : TypeId) (F : Nat → Prop) (cv ov : Value) (x : CE) (cl : List CE) (ol : List OE) (hQ : Q < w.heap.size) (hB : Blk w b C T) (hcv : C[o]? = some cv) (hov : C[o + 1]? = some ov) (hs : Sel w Q lvl b o) (hL : LvE w cv ov F (x :: cl) ol)
    (hT : rT T = true) (_ : M ≤ 100000) (hb : x.a + x.d.length ≤ 10000000000 ∧ x.d.length ≤ 400) (hfit : 1 + vlen x.a + vlen x.d.length + x.d.length ≤ M) :
    Calls Try.prog 36 #[pt Q, .int .u8 (lvl : Int), .int .i64 (M : Int), .int .u32 1] w fun e w' => ∃ ret, e = .returned ret ∧ GetOut w w' b o C T F M (x :: cl) ol ret := by
  have hlt := hB.lt
  obtain ⟨rb, off, cap, rfl, h1, h2, h3, h4, hO⟩ := hL.crow.head
  obtain ⟨dv, hdv, hxb⟩ := hL.cat x List.mem_cons_self
  have hS := Lib.hid (split_whole w x.p x.a M dv x.d hxb hdv (by omega) hb.2 hfit)
  have HS := Lib.hid hs
  clear hs
  go_enter Try.func36, Try.ntmps36
  go_upto_block 0 with fail
  go_cut [9] from 14 to 31 (fun s9 wx => s9 = .pointer (some ⟨b, o, none⟩) ∧ w = wx)
  case first =>
    rcases HS.out with ⟨rfl, rfl, hq⟩ | ⟨rfl, rfl, hq⟩ | ⟨rfl, rfl, rfl⟩
    all_goals (go_wp2_with fail; go_meet; exact ⟨rfl, rfl⟩)
  case rest =>
  obtain ⟨rfl, hwc⟩ := hcut
  subst hwc
  have c0 : w.cell? ⟨b, o, none⟩ = some (.slice (some ⟨rb, off, none⟩) (cl.length + 1) cap) := hB.cellAt o _ hcv
  have HB := Lib.hid hB
  have HL := Lib.hid hL
  have HO := Lib.hid hO
  have HV := Lib.hid hov
  have HFit := Lib.hid hfit
  have hC := Lib.hid hcv
  clear hB hL hO hdv hxb hov hcv hfit
  go_wp2_with fail
  refine hS.out.mono ?_
  rintro e w1 ⟨rfl, hG⟩
  have HG := Lib.hid hG
  have c1 : w1.cell? ⟨b, o, none⟩ = some (.slice (some ⟨rb, off, none⟩) (cl.length + 1) cap) := (hG.blk HB.out (fun e => e)).cellAt o _ hC.out
  have hlt1 := (hG.blk HB.out (fun e => e)).lt
  have hf1 := (hG.blk HB.out (fun e => e)).free
  clear hG
  go_wp2_with fail
  all_goals go_ret
  all_goals exact ⟨_, rfl, whole_end HB.out HV.out HL.out HO.out HG.out hT HFit.out (by unfold tl; split <;> simp <;> omega)⟩

set_option maxRecDepth 100000 in
set_option maxHeartbeats 4000000 in
theorem get_split (w : World) (Q lvl b o M : Nat) (C : Array Value) (T : TypeId) (F : Nat → Prop) (cv ov : Value) (x : CE) (cl : List CE) (ol : List OE) (hQ : Q < w.heap.size) (hB : Blk w b C T) (hcv : C[o]? = some cv) (hov : C[o + 1]? = some ov) (hs : Sel w Q lvl b o) (hL : LvE w cv ov F (x :: cl) ol)
    (hT : rT T = true) (hM2 : M ≤ 100000) (hb : x.a + x.d.length ≤ 10000000000 ∧ x.d.length ≤ 400) (hfit : ¬ (1 + vlen x.a + vlen x.d.length + x.d.length ≤ M)) (hr : room x.a M ≠ 0) :
    Calls Try.prog 36 #[pt Q, .int .u8 (lvl : Int), .int .i64 (M : Int), .int .u32 1] w fun e w' => ∃ ret, e = .returned ret ∧ GetOut w w' b o C T F M (x :: cl) ol ret := by
  have hlt := hB.lt
  obtain ⟨rb, off, cap, rfl, h1, h2, h3, h4, _⟩ := hL.crow.head
  obtain ⟨dv, hdv, hxb⟩ := hL.cat x List.mem_cons_self
  have hS := Lib.hid (split_part w x.p x.a M dv x.d hxb hdv (by omega) hb.2 hM2 hfit (room x.a M) rfl hr (room_lt hb.2 hfit))
  have HS := Lib.hid hs
  clear hs
  go_enter Try.func36, Try.ntmps36
  go_upto_block 0 with fail
  go_cut [9] from 14 to 31 (fun s9 wx => s9 = .pointer (some ⟨b, o, none⟩) ∧ w = wx)
  case first =>
    rcases HS.out with ⟨rfl, rfl, hq⟩ | ⟨rfl, rfl, hq⟩ | ⟨rfl, rfl, rfl⟩
    all_goals (go_wp2_with fail; go_meet; exact ⟨rfl, rfl⟩)
  case rest =>
  obtain ⟨rfl, hwc⟩ := hcut
  subst hwc
  have c0 : w.cell? ⟨b, o, none⟩ = some (.slice (some ⟨rb, off, none⟩) (cl.length + 1) cap) := hB.cellAt o _ hcv
  have HB := Lib.hid hB
  have HL := Lib.hid hL
  have HV := Lib.hid hov
  have hC := Lib.hid hcv
  have HFit := Lib.hid (And.intro hfit hr)
  clear hB hL hdv hxb hov hcv hfit hr
  go_wp2_with fail
  refine hS.out.mono ?_
  rintro e w1 ⟨k, s, s', rfl, hk, g1, g2, g3, g4, g5⟩
  have HE := Lib.hid (split_end HB.out hC.out HV.out HL.out hT HFit.out.1 rfl HFit.out.2 g1 g2 g3 g4 g5)
  clear hk g1 g2 g3 g4 g5
  go_wp2_with fail
  go_ret
  exact ⟨_, rfl, HE.out⟩

theorem wpList_invoke1 {w : World} {ops : Array Oper} {rest : List Oper} {o : Oper} {a : Act} {Q : Exit → Act → World → Prop} (hgd : o.guard = none) (x y : Operand) (name : String) (t : TypeId)
    (ho : o.op = .call { callee := .invoke x name, args := #[y], argTypes := #[t] }) {fv z : Value} {R : Value → World → Prop} (hI : Inv w fv name #[z] R) (hx : a.eval x = fv) (hy : a.eval y = z)
    (h : ∀ v' w', R v' w' → wpList Try.prog ops Q rest (a.put o.dst v') w') : wpList Try.prog ops Q (o :: rest) a w :=
  wpList_invoke hgd x name #[y] #[t] ho hI hx (by simp [hy]) h

set_option maxRecDepth 100000 in
set_option maxHeartbeats 4000000 in
theorem get_eNil (w : World) (Q lvl b o M : Nat) (C : Array Value) (T : TypeId) (F : Nat → Prop) (cv ov : Value)  (hQ : Q < w.heap.size) (hB : Blk w b C T) (hcv : C[o]? = some cv) (hov : C[o + 1]? = some ov) (hs : Sel w Q lvl b o) (hL : LvE w cv ov F [] [])
    (_ : M ≤ 100000)  :
    Calls Try.prog 36 #[pt Q, .int .u8 (lvl : Int), .int .i64 (M : Int), .int .u32 1] w fun e w' => ∃ ret, e = .returned ret ∧ GetOut w w' b o C T F M [] [] ret := by
  have hlt := hB.lt
  have HN : Hid (nextF M (List.map CE.pr []) (List.map OE.c []) = (none, List.map CE.pr [], List.map OE.c [])) := Lib.hid (by simp only [List.map_nil, nextF, nextO])
  obtain ⟨_, p0, cap0, rfl, _⟩ := hL.crow
  obtain ⟨_, p1, cap1, rfl, _⟩ := hL.orow
  have HS := Lib.hid hs
  clear hs
  go_enter Try.func36, Try.ntmps36
  go_upto_block 0 with fail
  go_cut [9] from 14 to 31 (fun s9 wx => s9 = .pointer (some ⟨b, o, none⟩) ∧ w = wx)
  case first =>
    rcases HS.out with ⟨rfl, rfl, hq⟩ | ⟨rfl, rfl, hq⟩ | ⟨rfl, rfl, rfl⟩
    all_goals (go_wp2_with fail; go_meet; exact ⟨rfl, rfl⟩)
  case rest =>
  obtain ⟨rfl, hwc⟩ := hcut
  subst hwc
  have c0 : w.cell? ⟨b, o, none⟩ = some (.slice p0 0 cap0) := hB.cellAt o _ hcv
  have c1 : w.cell? ⟨b, o + 1, none⟩ = some (.slice p1 0 cap1) := hB.cellAt (o + 1) _ hov
  have HB := Lib.hid hB
  have HL := Lib.hid hL
  have HV := Lib.hid hov
  have hC := Lib.hid hcv
  clear hB hL hov hcv
  go_wp2_with fail
  go_ret
  exact ⟨_, rfl, none_end HB.out hC.out HV.out HL.out (Fr.refl _ w) HN.out⟩

set_option maxRecDepth 100000 in
set_option maxHeartbeats 4000000 in
theorem get_eLong (w : World) (Q lvl b o M : Nat) (C : Array Value) (T : TypeId) (F : Nat → Prop) (cv ov : Value) (y : OE) (ol : List OE)  (hQ : Q < w.heap.size) (hB : Blk w b C T) (hcv : C[o]? = some cv) (hov : C[o + 1]? = some ov) (hs : Sel w Q lvl b o) (hL : LvE w cv ov F [] (y :: ol))
    (_ : M ≤ 100000) (hy : y.c.Ok) (hl : M < y.c.enc.length)  :
    Calls Try.prog 36 #[pt Q, .int .u8 (lvl : Int), .int .i64 (M : Int), .int .u32 1] w fun e w' => ∃ ret, e = .returned ret ∧ GetOut w w' b o C T F M [] (y :: ol) ret := by
  have hlt := hB.lt
  have HN : Hid (nextF M (List.map CE.pr []) (List.map OE.c (y :: ol)) = (none, List.map CE.pr [], List.map OE.c (y :: ol))) := Lib.hid (by simp only [List.map_cons, List.map_nil, nextF, nextO]; rw [if_neg (by omega)])
  obtain ⟨_, p0, cap0, rfl, _⟩ := hL.crow
  obtain ⟨rb2, off2, cap2, rfl, k1, k2, k3, k4, hO⟩ := hL.orow.head
  have HI := Lib.hid (fun (w' : World) (hg : Grow w w') => inv_length ((hL.oat y List.mem_cons_self).1.grow hg) hy)
  obtain ⟨Ty, hfv⟩ := (hL.oat y List.mem_cons_self).1.ne
  have HS := Lib.hid hs
  clear hs
  go_enter Try.func36, Try.ntmps36
  go_upto_block 0 with fail
  go_cut [9] from 14 to 31 (fun s9 wx => s9 = .pointer (some ⟨b, o, none⟩) ∧ w = wx)
  case first =>
    rcases HS.out with ⟨rfl, rfl, hq⟩ | ⟨rfl, rfl, hq⟩ | ⟨rfl, rfl, rfl⟩
    all_goals (go_wp2_with fail; go_meet; exact ⟨rfl, rfl⟩)
  case rest =>
  obtain ⟨rfl, hwc⟩ := hcut
  subst hwc
  have c0 : w.cell? ⟨b, o, none⟩ = some (.slice p0 0 cap0) := hB.cellAt o _ hcv
  have c1 : w.cell? ⟨b, o + 1, none⟩ = some (.slice (some ⟨rb2, off2, none⟩) (ol.length + 1) cap2) := hB.cellAt (o + 1) _ hov
  have HB := Lib.hid hB
  have HL := Lib.hid hL
  have HV := Lib.hid hov
  have hC := Lib.hid hcv
  have HO := Lib.hid hO
  have HK := Lib.hid k3
  have d1 : decide (M < y.c.enc.length) = true := decide_eq_true hl
  clear hB hL hov hcv hO hy hfv hl
  go_wp2_with (refine wpList_invoke1 rfl _ _ "Length" _ rfl (HI.out _ (Fr.refl _ w)) rfl rfl ?_; rintro _ w2 ⟨rfl, hG2⟩; have HG2 : Hid (Grow w w2) := Lib.hid (Fr.trans (Fr.refl _ w) hG2); have c2 : w2.cell? ⟨b, o + 1, none⟩ = some (.slice (some ⟨rb2, off2, none⟩) (ol.length + 1) cap2) := (HG2.out.blk HB.out (fun e => e)).cellAt (o + 1) _ HV.out; have hlt2 := (HG2.out.blk HB.out (fun e => e)).lt; have hf2 := (HG2.out.blk HB.out (fun e => e)).free; clear hG2)
  go_ret
  exact ⟨_, rfl, none_end HB.out hC.out HV.out HL.out HG2.out HN.out⟩

set_option maxRecDepth 100000 in
set_option maxHeartbeats 4000000 in
theorem get_eOne (w : World) (Q lvl b o M : Nat) (C : Array Value) (T : TypeId) (F : Nat → Prop) (cv ov : Value) (y : OE) (ol : List OE)  (hQ : Q < w.heap.size) (hB : Blk w b C T) (hcv : C[o]? = some cv) (hov : C[o + 1]? = some ov) (hs : Sel w Q lvl b o) (hL : LvE w cv ov F [] (y :: ol))
    (hT : rT T = true) (_ : M ≤ 100000) (hy : y.c.Ok) (hl : y.c.enc.length ≤ M)  :
    Calls Try.prog 36 #[pt Q, .int .u8 (lvl : Int), .int .i64 (M : Int), .int .u32 1] w fun e w' => ∃ ret, e = .returned ret ∧ GetOut w w' b o C T F M [] (y :: ol) ret := by
  have hlt := hB.lt
  have HN : Hid (nextF M (List.map CE.pr []) (y.c :: ol.map OE.c) = (some y.c, List.map CE.pr [], ol.map OE.c)) := Lib.hid (by simp only [List.map_nil, nextF, nextO]; rw [if_pos hl])
  obtain ⟨_, p0, cap0, rfl, _⟩ := hL.crow
  obtain ⟨rb2, off2, cap2, rfl, k1, k2, k3, k4, hO⟩ := hL.orow.head
  have HI := Lib.hid (fun (w' : World) (hg : Grow w w') => inv_length ((hL.oat y List.mem_cons_self).1.grow hg) hy)
  obtain ⟨Ty, hfv⟩ := (hL.oat y List.mem_cons_self).1.ne
  have HS := Lib.hid hs
  clear hs
  go_enter Try.func36, Try.ntmps36
  go_upto_block 0 with fail
  go_cut [9] from 14 to 31 (fun s9 wx => s9 = .pointer (some ⟨b, o, none⟩) ∧ w = wx)
  case first =>
    rcases HS.out with ⟨rfl, rfl, hq⟩ | ⟨rfl, rfl, hq⟩ | ⟨rfl, rfl, rfl⟩
    all_goals (go_wp2_with fail; go_meet; exact ⟨rfl, rfl⟩)
  case rest =>
  obtain ⟨rfl, hwc⟩ := hcut
  subst hwc
  have c0 : w.cell? ⟨b, o, none⟩ = some (.slice p0 0 cap0) := hB.cellAt o _ hcv
  have c1 : w.cell? ⟨b, o + 1, none⟩ = some (.slice (some ⟨rb2, off2, none⟩) (ol.length + 1) cap2) := hB.cellAt (o + 1) _ hov
  have HB := Lib.hid hB
  have HL := Lib.hid hL
  have HV := Lib.hid hov
  have hC := Lib.hid hcv
  have HO := Lib.hid hO
  have HK := Lib.hid k3
  have d1 : decide (M < y.c.enc.length) = false := decide_eq_false (by omega)
  clear hB hL hov hcv hO hy hfv hl
  go_wp2_with (refine wpList_invoke1 rfl _ _ "Length" _ rfl (HI.out _ (Fr.refl _ w)) rfl rfl ?_; rintro _ w2 ⟨rfl, hG2⟩; have HG2 : Hid (Grow w w2) := Lib.hid (Fr.trans (Fr.refl _ w) hG2); have c2 : w2.cell? ⟨b, o + 1, none⟩ = some (.slice (some ⟨rb2, off2, none⟩) (ol.length + 1) cap2) := (HG2.out.blk HB.out (fun e => e)).cellAt (o + 1) _ HV.out; have hlt2 := (HG2.out.blk HB.out (fun e => e)).lt; have hf2 := (HG2.out.blk HB.out (fun e => e)).free; clear hG2)
  all_goals go_ret
  all_goals exact ⟨_, rfl, other_end HB.out hC.out HL.out HO.out HG2.out hT HN.out (by unfold tl; split <;> simp <;> omega)⟩

set_option maxRecDepth 100000 in
set_option maxHeartbeats 4000000 in
theorem get_bNil (w : World) (Q lvl b o M : Nat) (C : Array Value) (T : TypeId) (F : Nat → Prop) (cv ov : Value) (x : CE) (cl : List CE)  (hQ : Q < w.heap.size) (hB : Blk w b C T) (hcv : C[o]? = some cv) (hov : C[o + 1]? = some ov) (hs : Sel w Q lvl b o) (hL : LvE w cv ov F (x :: cl) [])
    (hM2 : M ≤ 100000) (hb : x.a + x.d.length ≤ 10000000000 ∧ x.d.length ≤ 400) (hfit : ¬ (1 + vlen x.a + vlen x.d.length + x.d.length ≤ M)) (hr : room x.a M = 0)  :
    Calls Try.prog 36 #[pt Q, .int .u8 (lvl : Int), .int .i64 (M : Int), .int .u32 1] w fun e w' => ∃ ret, e = .returned ret ∧ GetOut w w' b o C T F M (x :: cl) [] ret := by
  have hlt := hB.lt
  have HN : Hid (nextF M (List.map CE.pr (x :: cl)) (List.map OE.c []) = (none, List.map CE.pr (x :: cl), List.map OE.c [])) := Lib.hid (by simp only [List.map_cons, List.map_nil, nextF, nextO]; rw [if_neg hfit, if_pos hr])
  obtain ⟨rb, off, cap, rfl, h1, h2, h3, h4, _⟩ := hL.crow.head
  obtain ⟨dv, hdv, hxb⟩ := hL.cat x List.mem_cons_self
  have hS := Lib.hid (split_none w x.p x.a M dv x.d hxb hdv (by omega) hb.2 hM2 hfit hr)
  obtain ⟨_, p1, cap1, rfl, _⟩ := hL.orow
  have HS := Lib.hid hs
  clear hs
  go_enter Try.func36, Try.ntmps36
  go_upto_block 0 with fail
  go_cut [9] from 14 to 31 (fun s9 wx => s9 = .pointer (some ⟨b, o, none⟩) ∧ w = wx)
  case first =>
    rcases HS.out with ⟨rfl, rfl, hq⟩ | ⟨rfl, rfl, hq⟩ | ⟨rfl, rfl, rfl⟩
    all_goals (go_wp2_with fail; go_meet; exact ⟨rfl, rfl⟩)
  case rest =>
  obtain ⟨rfl, hwc⟩ := hcut
  subst hwc
  have c0 : w.cell? ⟨b, o, none⟩ = some (.slice (some ⟨rb, off, none⟩) (cl.length + 1) cap) := hB.cellAt o _ hcv
  have HB := Lib.hid hB
  have HL := Lib.hid hL
  have HV := Lib.hid hov
  have hC := Lib.hid hcv
  clear hB hL hov hcv hdv hxb hfit hr
  go_wp2_with fail
  refine hS.out.mono ?_
  rintro e w1 ⟨rfl, hG⟩
  have HG := Lib.hid hG
  have hlt1 := (hG.blk HB.out (fun e => e)).lt
  have c1 : w1.cell? ⟨b, o + 1, none⟩ = some (.slice p1 0 cap1) := (hG.blk HB.out (fun e => e)).cellAt (o + 1) _ HV.out
  clear hG
  go_wp2_with fail
  go_ret
  exact ⟨_, rfl, none_end HB.out hC.out HV.out HL.out HG.out HN.out⟩

set_option maxRecDepth 100000 in
set_option maxHeartbeats 4000000 in
theorem get_bLong (w : World) (Q lvl b o M : Nat) (C : Array Value) (T : TypeId) (F : Nat → Prop) (cv ov : Value) (x : CE) (cl : List CE) (y : OE) (ol : List OE)  (hQ : Q < w.heap.size) (hB : Blk w b C T) (hcv : C[o]? = some cv) (hov : C[o + 1]? = some ov) (hs : Sel w Q lvl b o) (hL : LvE w cv ov F (x :: cl) (y :: ol))
    (hM2 : M ≤ 100000) (hb : x.a + x.d.length ≤ 10000000000 ∧ x.d.length ≤ 400) (hfit : ¬ (1 + vlen x.a + vlen x.d.length + x.d.length ≤ M)) (hr : room x.a M = 0) (hy : y.c.Ok) (hl : M < y.c.enc.length)  :
    Calls Try.prog 36 #[pt Q, .int .u8 (lvl : Int), .int .i64 (M : Int), .int .u32 1] w fun e w' => ∃ ret, e = .returned ret ∧ GetOut w w' b o C T F M (x :: cl) (y :: ol) ret := by
  have hlt := hB.lt
  have HN : Hid (nextF M (List.map CE.pr (x :: cl)) (List.map OE.c (y :: ol)) = (none, List.map CE.pr (x :: cl), List.map OE.c (y :: ol))) := Lib.hid (by simp only [List.map_cons, nextF, nextO]; rw [if_neg hfit, if_pos hr]; rw [if_neg (by omega)])
  obtain ⟨rb, off, cap, rfl, h1, h2, h3, h4, _⟩ := hL.crow.head
  obtain ⟨dv, hdv, hxb⟩ := hL.cat x List.mem_cons_self
  have hS := Lib.hid (split_none w x.p x.a M dv x.d hxb hdv (by omega) hb.2 hM2 hfit hr)
  obtain ⟨rb2, off2, cap2, rfl, k1, k2, k3, k4, hO⟩ := hL.orow.head
  have HI := Lib.hid (fun (w' : World) (hg : Grow w w') => inv_length ((hL.oat y List.mem_cons_self).1.grow hg) hy)
  obtain ⟨Ty, hfv⟩ := (hL.oat y List.mem_cons_self).1.ne
  have HS := Lib.hid hs
  clear hs
  go_enter Try.func36, Try.ntmps36
  go_upto_block 0 with fail
  go_cut [9] from 14 to 31 (fun s9 wx => s9 = .pointer (some ⟨b, o, none⟩) ∧ w = wx)
  case first =>
    rcases HS.out with ⟨rfl, rfl, hq⟩ | ⟨rfl, rfl, hq⟩ | ⟨rfl, rfl, rfl⟩
    all_goals (go_wp2_with fail; go_meet; exact ⟨rfl, rfl⟩)
  case rest =>
  obtain ⟨rfl, hwc⟩ := hcut
  subst hwc
  have c0 : w.cell? ⟨b, o, none⟩ = some (.slice (some ⟨rb, off, none⟩) (cl.length + 1) cap) := hB.cellAt o _ hcv
  have HB := Lib.hid hB
  have HL := Lib.hid hL
  have HV := Lib.hid hov
  have hC := Lib.hid hcv
  have HO := Lib.hid hO
  have HK := Lib.hid k3
  have d1 : decide (M < y.c.enc.length) = true := decide_eq_true hl
  clear hB hL hov hcv hO hy hfv hl hdv hxb hfit hr k3
  go_wp2_with fail
  refine hS.out.mono ?_
  rintro e w1 ⟨rfl, hG⟩
  have HG := Lib.hid hG
  have hlt1 := (hG.blk HB.out (fun e => e)).lt
  have c1 : w1.cell? ⟨b, o + 1, none⟩ = some (.slice (some ⟨rb2, off2, none⟩) (ol.length + 1) cap2) := (hG.blk HB.out (fun e => e)).cellAt (o + 1) _ HV.out
  have k5 : w1.cell? ⟨rb2, off2, none⟩ = some y.fv := (hG.cell k4).trans HK.out
  have k6 := Nat.lt_of_lt_of_le k4 hG.size
  clear hG
  go_wp2_with (refine wpList_invoke1 rfl _ _ "Length" _ rfl (HI.out _ HG.out) rfl rfl ?_; rintro _ w2 ⟨rfl, hG2⟩; have HG2 : Hid (Grow w w2) := Lib.hid (Fr.trans HG.out hG2); have c2 : w2.cell? ⟨b, o + 1, none⟩ = some (.slice (some ⟨rb2, off2, none⟩) (ol.length + 1) cap2) := (HG2.out.blk HB.out (fun e => e)).cellAt (o + 1) _ HV.out; have hlt2 := (HG2.out.blk HB.out (fun e => e)).lt; have hf2 := (HG2.out.blk HB.out (fun e => e)).free; clear hG2)
  go_ret
  exact ⟨_, rfl, none_end HB.out hC.out HV.out HL.out HG2.out HN.out⟩

set_option maxRecDepth 100000 in
set_option maxHeartbeats 4000000 in
theorem get_bOne (w : World) (Q lvl b o M : Nat) (C : Array Value) (T : TypeId) (F : Nat → Prop) (cv ov : Value) (x : CE) (cl : List CE) (y : OE) (ol : List OE)  (hQ : Q < w.heap.size) (hB : Blk w b C T) (hcv : C[o]? = some cv) (hov : C[o + 1]? = some ov) (hs : Sel w Q lvl b o) (hL : LvE w cv ov F (x :: cl) (y :: ol))
    (hT : rT T = true) (hM2 : M ≤ 100000) (hb : x.a + x.d.length ≤ 10000000000 ∧ x.d.length ≤ 400) (hfit : ¬ (1 + vlen x.a + vlen x.d.length + x.d.length ≤ M)) (hr : room x.a M = 0) (hy : y.c.Ok) (hl : y.c.enc.length ≤ M)  :
    Calls Try.prog 36 #[pt Q, .int .u8 (lvl : Int), .int .i64 (M : Int), .int .u32 1] w fun e w' => ∃ ret, e = .returned ret ∧ GetOut w w' b o C T F M (x :: cl) (y :: ol) ret := by
  have hlt := hB.lt
  have HN : Hid (nextF M (List.map CE.pr (x :: cl)) (y.c :: ol.map OE.c) = (some y.c, List.map CE.pr (x :: cl), ol.map OE.c)) := Lib.hid (by simp only [List.map_cons, nextF, nextO]; rw [if_neg hfit, if_pos hr]; rw [if_pos hl])
  obtain ⟨rb, off, cap, rfl, h1, h2, h3, h4, _⟩ := hL.crow.head
  obtain ⟨dv, hdv, hxb⟩ := hL.cat x List.mem_cons_self
  have hS := Lib.hid (split_none w x.p x.a M dv x.d hxb hdv (by omega) hb.2 hM2 hfit hr)
  obtain ⟨rb2, off2, cap2, rfl, k1, k2, k3, k4, hO⟩ := hL.orow.head
  have HI := Lib.hid (fun (w' : World) (hg : Grow w w') => inv_length ((hL.oat y List.mem_cons_self).1.grow hg) hy)
  obtain ⟨Ty, hfv⟩ := (hL.oat y List.mem_cons_self).1.ne
  have HS := Lib.hid hs
  clear hs
  go_enter Try.func36, Try.ntmps36
  go_upto_block 0 with fail
  go_cut [9] from 14 to 31 (fun s9 wx => s9 = .pointer (some ⟨b, o, none⟩) ∧ w = wx)
  case first =>
    rcases HS.out with ⟨rfl, rfl, hq⟩ | ⟨rfl, rfl, hq⟩ | ⟨rfl, rfl, rfl⟩
    all_goals (go_wp2_with fail; go_meet; exact ⟨rfl, rfl⟩)
  case rest =>
  obtain ⟨rfl, hwc⟩ := hcut
  subst hwc
  have c0 : w.cell? ⟨b, o, none⟩ = some (.slice (some ⟨rb, off, none⟩) (cl.length + 1) cap) := hB.cellAt o _ hcv
  have HB := Lib.hid hB
  have HL := Lib.hid hL
  have HV := Lib.hid hov
  have hC := Lib.hid hcv
  have HO := Lib.hid hO
  have HK := Lib.hid k3
  have d1 : decide (M < y.c.enc.length) = false := decide_eq_false (by omega)
  clear hB hL hov hcv hO hy hfv hl hdv hxb hfit hr k3
  go_wp2_with fail
  refine hS.out.mono ?_
  rintro e w1 ⟨rfl, hG⟩
  have HG := Lib.hid hG
  have hlt1 := (hG.blk HB.out (fun e => e)).lt
  have c1 : w1.cell? ⟨b, o + 1, none⟩ = some (.slice (some ⟨rb2, off2, none⟩) (ol.length + 1) cap2) := (hG.blk HB.out (fun e => e)).cellAt (o + 1) _ HV.out
  have k5 : w1.cell? ⟨rb2, off2, none⟩ = some y.fv := (hG.cell k4).trans HK.out
  have k6 := Nat.lt_of_lt_of_le k4 hG.size
  clear hG
  go_wp2_with (refine wpList_invoke1 rfl _ _ "Length" _ rfl (HI.out _ HG.out) rfl rfl ?_; rintro _ w2 ⟨rfl, hG2⟩; have HG2 : Hid (Grow w w2) := Lib.hid (Fr.trans HG.out hG2); have c2 : w2.cell? ⟨b, o + 1, none⟩ = some (.slice (some ⟨rb2, off2, none⟩) (ol.length + 1) cap2) := (HG2.out.blk HB.out (fun e => e)).cellAt (o + 1) _ HV.out; have hlt2 := (HG2.out.blk HB.out (fun e => e)).lt; have hf2 := (HG2.out.blk HB.out (fun e => e)).free; clear hG2)
  all_goals go_ret
  all_goals exact ⟨_, rfl, other_end HB.out hC.out HL.out HO.out HG2.out hT HN.out (by unfold tl; split <;> simp <;> omega)⟩

theorem get_any (w : World) (Q lvl b o M : Nat) (C : Array Value) (T : TypeId) (F : Nat → Prop) (cv ov : Value) (cl : List CE) (ol : List OE) (hQ : Q < w.heap.size) (hB : Blk w b C T) (hcv : C[o]? = some cv) (hov : C[o + 1]? = some ov) (hs : Sel w Q lvl b o) (hL : LvE w cv ov F cl ol)
    (hT : rT T = true) (hM2 : M ≤ 100000) (hcb : ∀ x ∈ cl, x.a + x.d.length ≤ 10000000000 ∧ x.d.length ≤ 400) (hob : ∀ y ∈ ol, y.c.Ok) :
    Calls Try.prog 36 #[pt Q, .int .u8 (lvl : Int), .int .i64 (M : Int), .int .u32 1] w fun e w' => ∃ ret, e = .returned ret ∧ GetOut w w' b o C T F M cl ol ret := by
  cases cl with
  | nil => cases ol with
    | nil => exact get_eNil w Q lvl b o M C T F cv ov hQ hB hcv hov hs hL hM2
    | cons y ol =>
      rcases Nat.lt_or_ge M y.c.enc.length with c | c
      · exact get_eLong w Q lvl b o M C T F cv ov y ol hQ hB hcv hov hs hL hM2 (hob y List.mem_cons_self) c
      · exact get_eOne w Q lvl b o M C T F cv ov y ol hQ hB hcv hov hs hL hT hM2 (hob y List.mem_cons_self) c
  | cons x cl =>
    have hx := hcb x List.mem_cons_self
    by_cases hfit : 1 + vlen x.a + vlen x.d.length + x.d.length ≤ M
    · exact get_whole w Q lvl b o M C T F cv ov x cl ol hQ hB hcv hov hs hL hT hM2 hx hfit
    · by_cases hr : room x.a M = 0
      · cases ol with
        | nil => exact get_bNil w Q lvl b o M C T F cv ov x cl hQ hB hcv hov hs hL hM2 hx hfit hr
        | cons y ol =>
          rcases Nat.lt_or_ge M y.c.enc.length with c | c
          · exact get_bLong w Q lvl b o M C T F cv ov x cl y ol hQ hB hcv hov hs hL hM2 hx hfit hr (hob y List.mem_cons_self) c
          · exact get_bOne w Q lvl b o M C T F cv ov x cl y ol hQ hB hcv hov hs hL hT hM2 hx hfit hr (hob y List.mem_cons_self) c
      · exact get_split w Q lvl b o M C T F cv ov x cl ol hQ hB hcv hov hs hL hT hM2 hx hfit hr

set_option maxRecDepth 100000 in
/-- A level that was dropped. -/
theorem get_nil (w : World) (Q lvl M : Nat) (_ : Q < w.heap.size) (hs : (lvl = 1 ∧ w.cell? ⟨Q, 0, none⟩ = some (.pointer none)) ∨ (lvl = 2 ∧ w.cell? ⟨Q, 1, none⟩ = some (.pointer none))) :
    Calls Try.prog 36 #[pt Q, .int .u8 (lvl : Int), .int .i64 (M : Int), .int .u32 1] w fun e w' => e = .returned .nilIface ∧ w = w' := by
  rcases hs with ⟨rfl, hq⟩ | ⟨rfl, hq⟩
  all_goals (
    go_enter Try.func36, Try.ntmps36
    go_wp2_with fail
    go_ret
    exact ⟨rfl, rfl⟩)
end Go.Proofs.Ytgdkbflhgcchfaa
