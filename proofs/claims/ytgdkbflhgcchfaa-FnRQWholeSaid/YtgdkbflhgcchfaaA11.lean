/- What is lost is queued. -/
import Derived.Test.YtgdkbflhgcchfaaA10
namespace Go.Proofs.Ytgdkbflhgcchfaa
open Go.RowKit

theorem info120 : (Try.prog.info? 120).map (fun i => (i.zero, i.size, i.bytes)) = some (some (.pointer none), 1, 8) := by kernel_rfl
theorem info84 : (Try.prog.info? 84).map (fun i => (i.zero, i.size, i.bytes)) = some (some .nilIface, 1, 16) := by kernel_rfl
/-- One more cell in a row. -/
theorem append_cell {w : World} {v x z : Value} {e t : TypeId} {n bytes : Nat} {xs : List Value} (hu : Try.prog.underlying t = some (.slice e)) (hinf : (Try.prog.info? e).map (fun i => (i.zero, i.size, i.bytes)) = some (some z, 1, bytes)) (hz : z.cells.size = 1) (hby : bytes ≤ 100)
    (h : Own w v e 1 n xs) (hx : x.oneCell' = true) (hn : n ≤ 100000) (hlt : ∀ k, v.ownBlock = some k → k < w.heap.size) (ty : TypeId) :
    ∃ v' w', (Builtin.append_ #[t, t] ty #[v, .slice (some ⟨w.heap.size, 0, none⟩) 1 1]).run Try.prog (w.alloc (.cells #[x] e)) = .ok v' w' ∧ Own w' v' e 1 (n + 1) (xs ++ [x]) ∧ Fr (fun k => v.ownBlock = some k) w w' ∧ (∀ k, v'.ownBlock = some k → v.ownBlock = some k ∨ (w.heap.size ≤ k ∧ k < w'.heap.size)) := by
  obtain ⟨i, hi, hzz⟩ := Option.map_eq_some_iff.1 hinf
  simp only [Prod.mk.injEq] at hzz
  obtain ⟨hz0, hs, hb⟩ := hzz
  have ho : Own (w.alloc (.cells #[x] e)) v e 1 n xs := h.keep (fun k hk => Below.heap_alloc _ _ _ (hlt k hk))
  have hsrc : Src Try.prog 1 t (.slice (some ⟨w.heap.size, 0, none⟩) 1 1) 1 [x] (w.alloc (.cells #[x] e)) := by
    refine Src.ofSlice (e' := e) _ hu _ _ _ _ rfl (fun j u hj => ?_) (fun u hu => by rw [List.mem_singleton.1 hu]; exact hx)
    cases j with
    | zero =>
      have hxu : x = u := Option.some.inj hj
      have := (Blk.new w #[x] e).cellAt 0 x rfl
      rw [← hxu]
      exact this
    | succ j => simp at hj
  have hbb : (n + 1) * bytes ≤ 140737488355328 := by
    have := Nat.mul_le_mul_left (n + 1) hby
    omega
  obtain ⟨v', w', hrun, g1, g2, g3⟩ := run_appendOwn (P := Try.prog) ho t t ty i z bytes hu hi hz0 hs hb hz _ 1 [x] hsrc (by omega) hbb (by omega)
  have hl := run_append_lt (P := Try.prog) ho t t ty i z bytes hu hi hz0 hs hb _ 1 [x] hsrc (by omega) hbb v' w' hrun
  refine ⟨v', w', hrun, g1, ((Fr.refl _ w).alloc _).trans g2, fun k hk => ?_⟩
  rcases g3 k hk with e1 | e1
  · exact .inl e1
  · exact (hl k hk).imp id (fun e2 => ⟨by rw [size_alloc] at e1; omega, e2⟩)
section
variable {w w1 : World} {cv ov v' : Value} {F : Nat → Prop} {cl : List CE} {ol : List OE} {p a : Nat} {d : List UInt8} {c : Ct} {fv : Value}
theorem FrC.blk {w : World} {p : Nat} {c : Ct} {fv : Value} (h : FrC w p c fv) : ∃ C T, Blk w p C T ∧ T ≠ 120 ∧ T ≠ 84 ∧ T ≠ 5 := by
  cases c
  case ping => exact ⟨_, _, h.2, by decide, by decide, by decide⟩
  case done => exact ⟨_, _, h.2, by decide, by decide, by decide⟩
  case reset => exact ⟨_, _, h.2, by decide, by decide, by decide⟩
  case stop => exact ⟨_, _, h.2, by decide, by decide, by decide⟩
  case maxStream => exact ⟨_, _, h.2, by decide, by decide, by decide⟩
  case maxData => exact ⟨_, _, h.2, by decide, by decide, by decide⟩
  case maxStreams => exact ⟨_, _, h.2, by decide, by decide, by decide⟩
  case retire => exact ⟨_, _, h.2, by decide, by decide, by decide⟩
  case token => obtain ⟨_, dv, _, h2⟩ := h; exact ⟨_, _, h2, by decide, by decide, by decide⟩
  case crypto => obtain ⟨_, dv, _, h2⟩ := h; exact ⟨_, _, h2, by decide, by decide, by decide⟩
/-- Only a row of type e was written. -/
theorem Fr.row {v : Value} {e : TypeId} (hF : Fr (fun k => v.ownBlock = some k) w w1) (hrow : ∀ k, v.ownBlock = some k → ∃ cur f, w.heap[k]? = some (Obj.cells cur e f)) : ∀ (k : Nat) (cur : Array Value) (T : TypeId) (f : Nat × Nat), w.heap[k]? = some (Obj.cells cur T f) → T ≠ e → w1.heap[k]? = w.heap[k]? := fun k cur T f hk hT =>
  hF.block k (Array.getElem?_eq_some_iff.1 hk).1 (fun e1 => by
    obtain ⟨cur', f', h1⟩ := hrow k e1
    have := Option.some.inj (hk.symm.trans h1)
    injection this with _ x _
    exact hT x)
theorem LvE.pushC (hL : LvE w cv ov F cl ol) (hp : ¬ F p) (hc : CrAt w p a d) (hO : Own w1 v' 120 1 (cl.length + 1) ((cl.map fun x => pt x.p) ++ [pt p])) (hF : Fr (fun k => cv.ownBlock = some k) w w1) (hv : ∀ k, v'.ownBlock = some k → cv.ownBlock = some k ∨ (w.heap.size ≤ k ∧ k < w1.heap.size)) :
    LvE w1 v' ov (fun k => F k ∨ k = p ∨ w.heap.size ≤ k) (cl ++ [⟨p, a, d⟩]) ol := by
  have hk := hF.row (e := 120) (fun k e => (hL.cF k e).2)
  have hkb : KeepB w w1 := fun k ⟨c, f, hb⟩ => hk k c 5 f hb (by decide)
  have ho : ∀ k, ov.ownBlock = some k → w1.heap[k]? = w.heap[k]? := fun k e => by obtain ⟨_, cur, f, h1⟩ := hL.oF k e; exact hk _ _ _ _ h1 (by decide)
  have hcr : ∀ {p a d}, CrAt w p a d → CrAt w1 p a d := fun ⟨dv, h1, h2⟩ => ⟨dv, h1.keep hkb, h2.same (hk _ _ _ _ h2 (by decide))⟩
  refine ⟨by simpa using hO, hL.orow.keep ho, fun x hx => ?_, fun x hx => ?_, ?_, fun k e => ⟨?_, ?_⟩, fun k e => ⟨.inl (hL.oF k e).1, by rw [ho k e]; exact (hL.oF k e).2⟩, fun x hx => ?_, fun x hx => .inl (hL.opF x hx)⟩
  · rcases List.mem_append.1 hx with h | h
    · exact hcr (hL.cat x h)
    · rw [List.mem_singleton.1 h]; exact hcr hc
  · obtain ⟨hf, ht⟩ := hL.oat x hx
    obtain ⟨C, T, hb, h1, _⟩ := hf.blk
    exact ⟨hf.keep (hk _ _ _ _ hb h1) hkb, ht⟩
  · rw [List.map_append, List.nodup_append]
    refine ⟨hL.nodup, by simp, fun y hy z hz e => ?_⟩
    obtain ⟨x, hx, rfl⟩ := List.mem_map.1 hy
    simp only [List.map_cons, List.map_nil, List.mem_singleton] at hz
    subst hz
    exact hp (e ▸ hL.cpF x hx)
  · rcases hv k e with h | h
    · exact .inl (hL.cF k h).1
    · exact .inr (.inr h.1)
  · obtain ⟨b, off, cur, e1, e2, _⟩ := hO.block (by omega)
    rw [e1] at e; injection e with e; subst e
    exact ⟨cur, _, e2⟩
  · rcases List.mem_append.1 hx with h | h
    · exact .inl (hL.cpF x h)
    · rw [List.mem_singleton.1 h]; exact .inr (.inl rfl)
theorem LvE.pushO (hL : LvE w cv ov F cl ol) (hc : FrC w p c fv) (hty : c.ty ≠ 6) (hO : Own w1 v' 84 1 (ol.length + 1) ((ol.map fun x => x.fv) ++ [fv])) (hF : Fr (fun k => ov.ownBlock = some k) w w1) (hv : ∀ k, v'.ownBlock = some k → ov.ownBlock = some k ∨ (w.heap.size ≤ k ∧ k < w1.heap.size)) :
    LvE w1 cv v' (fun k => F k ∨ k = p ∨ w.heap.size ≤ k) cl (ol ++ [⟨p, fv, c⟩]) := by
  have hk := hF.row (e := 84) (fun k e => (hL.oF k e).2)
  have hkb : KeepB w w1 := fun k ⟨c, f, hb⟩ => hk k c 5 f hb (by decide)
  have ho : ∀ k, cv.ownBlock = some k → w1.heap[k]? = w.heap[k]? := fun k e => by obtain ⟨_, cur, f, h1⟩ := hL.cF k e; exact hk _ _ _ _ h1 (by decide)
  have hcr : ∀ {p a d}, CrAt w p a d → CrAt w1 p a d := fun ⟨dv, h1, h2⟩ => ⟨dv, h1.keep hkb, h2.same (hk _ _ _ _ h2 (by decide))⟩
  have hfr : ∀ {p c fv}, FrC w p c fv → FrC w1 p c fv := fun hf => by
    obtain ⟨C, T, hb, _, h1, _⟩ := hf.blk
    exact hf.keep (hk _ _ _ _ hb h1) hkb
  refine ⟨hL.crow.keep ho, by simpa using hO, fun x hx => hcr (hL.cat x hx), fun x hx => ?_, hL.nodup, fun k e => ⟨.inl (hL.cF k e).1, by rw [ho k e]; exact (hL.cF k e).2⟩, fun k e => ⟨?_, ?_⟩, fun x hx => .inl (hL.cpF x hx), fun x hx => ?_⟩
  · rcases List.mem_append.1 hx with h | h
    · exact ⟨hfr (hL.oat x h).1, (hL.oat x h).2⟩
    · rw [List.mem_singleton.1 h]; exact ⟨hfr hc, hty⟩
  · rcases hv k e with h | h
    · exact .inl (hL.oF k h).1
    · exact .inr (.inr h.1)
  · obtain ⟨b, off, cur, e1, e2, _⟩ := hO.block (by omega)
    rw [e1] at e; injection e with e; subst e
    exact ⟨cur, _, e2⟩
  · rcases List.mem_append.1 hx with h | h
    · exact .inl (hL.opF x h)
    · rw [List.mem_singleton.1 h]; exact .inr (.inl rfl)
end
/-- What adding a frame leaves of a level. -/
def AddOut (w w' : World) (b o : Nat) (C : Array Value) (T : TypeId) (F : Nat → Prop) (cl : List CE) (ol : List OE) (p : Nat) (c : Ct) : Prop :=
  ∃ cv' ov' cl' ol', Blk w' b ((C.setIfInBounds o cv').setIfInBounds (o + 1) ov') T ∧ LvE w' cv' ov' (fun k => F k ∨ k = p ∨ w.heap.size ≤ k) cl' ol' ∧ Fr (fun k => k = b ∨ F k) w w' ∧ St.push (cl.map CE.pr, ol.map OE.c) c = (cl'.map CE.pr, ol'.map OE.c)
section
variable {w w1 w2 : World} {b o : Nat} {C : Array Value} {T : TypeId} {cv ov v' : Value} {F : Nat → Prop} {cl : List CE} {ol : List OE} {p a : Nat} {d : List UInt8} {c : Ct} {fv : Value}
theorem addC_end (hB : Blk w b C T) (hov : C[o + 1]? = some ov) (hL : LvE w cv ov F cl ol) (hT : rT T = true) (hp : ¬ F p) (hc : CrAt w p a d) (hO : Own w1 v' 120 1 (cl.length + 1) ((cl.map fun x => pt x.p) ++ [pt p])) (hF : Fr (fun k => cv.ownBlock = some k) w w1) (hv : ∀ k, v'.ownBlock = some k → cv.ownBlock = some k ∨ (w.heap.size ≤ k ∧ k < w1.heap.size)) :
    AddOut w (w1.setCell ⟨b, o, none⟩ v') b o C T F cl ol p (.crypto a d) := by
  have hrow : ∀ k, cv.ownBlock = some k → k ≠ b := fun k e e2 => by
    subst e2
    obtain ⟨_, cur, f, h1⟩ := hL.cF k e
    have := Option.some.inj (h1.symm.trans hB)
    injection this with _ x _
    subst x; cases hT
  have hB1 : Blk w1 b C T := hF.blk hB (fun e => hrow b e rfl)
  have hL1 := hL.pushC hp hc hO hF hv
  refine ⟨v', ov, cl ++ [⟨p, a, d⟩], ol, ?_, hL1.keepR ((KeepR.grow (Fr.refl _ _)).set hB1 hT o v'), (hF.mono (fun k _ e => .inr (hL.cF k e).1)).setCell _ _ (.inl (.inl rfl)), ?_⟩
  · rw [set_same (v := ov)]
    · exact hB1.set o v'
    · rw [Array.getElem?_setIfInBounds_ne (by omega), hov]
  · simp [St.push]
theorem addO_end (hB : Blk w b C T) (hcv : C[o]? = some cv) (hL : LvE w cv ov F cl ol) (hT : rT T = true) (hc : FrC w p c fv) (hty : c.ty ≠ 6) (hO : Own w1 v' 84 1 (ol.length + 1) ((ol.map fun x => x.fv) ++ [fv])) (hF : Fr (fun k => ov.ownBlock = some k) w w1) (hv : ∀ k, v'.ownBlock = some k → ov.ownBlock = some k ∨ (w.heap.size ≤ k ∧ k < w1.heap.size)) :
    AddOut w (w1.setCell ⟨b, o + 1, none⟩ v') b o C T F cl ol p c := by
  have hrow : ∀ k, ov.ownBlock = some k → k ≠ b := fun k e e2 => by
    subst e2
    obtain ⟨_, cur, f, h1⟩ := hL.oF k e
    have := Option.some.inj (h1.symm.trans hB)
    injection this with _ x _
    subst x; cases hT
  have hB1 : Blk w1 b C T := hF.blk hB (fun e => hrow b e rfl)
  have hL1 := hL.pushO hc hty hO hF hv
  refine ⟨cv, v', cl, ol ++ [⟨p, fv, c⟩], ?_, hL1.keepR ((KeepR.grow (Fr.refl _ _)).set hB1 hT (o + 1) v'), (hF.mono (fun k _ e => .inr (hL.oF k e).1)).setCell _ _ (.inl (.inl rfl)), ?_⟩
  · rw [set_same hcv]
    exact hB1.set (o + 1) v'
  · cases c
    case crypto => exact (hty rfl).elim
    all_goals simp [St.push]
theorem AddOut.ofDrew {w' : World} (h : AddOut w.drew w' b o C T F cl ol p c) : AddOut w w' b o C T F cl ol p c := by
  obtain ⟨cv', ov', cl', ol', h1, h2, h3, h4⟩ := h
  exact ⟨cv', ov', cl', ol', h1, h2, (Fr.refl _ w).drew.trans h3, h4⟩
end
theorem ta_yes (v : Value) (w : World) : (Instr.typeAssert (.iface 120 v) 84 120 true).run Try.prog w = .ok (.tuple #[v, .bool true]) w := by kernel_rfl
theorem ta_yes2 (v : Value) (w : World) : (Instr.typeAssert (.iface 120 v) 84 219 true).run Try.prog w = .ok (.tuple #[.pointer none, .bool false]) w := by kernel_rfl
theorem ta_ping (v : Value) (w : World) : (Instr.typeAssert (.iface 165 v) 84 120 true).run Try.prog w = .ok (.tuple #[.pointer none, .bool false]) w := by kernel_rfl
theorem tb_ping (v : Value) (w : World) : (Instr.typeAssert (.iface 165 v) 84 219 true).run Try.prog w = .ok (.tuple #[.pointer none, .bool false]) w := by kernel_rfl
theorem ta_done (v : Value) (w : World) : (Instr.typeAssert (.iface 162 v) 84 120 true).run Try.prog w = .ok (.tuple #[.pointer none, .bool false]) w := by kernel_rfl
theorem tb_done (v : Value) (w : World) : (Instr.typeAssert (.iface 162 v) 84 219 true).run Try.prog w = .ok (.tuple #[.pointer none, .bool false]) w := by kernel_rfl
theorem ta_reset (v : Value) (w : World) : (Instr.typeAssert (.iface 112 v) 84 120 true).run Try.prog w = .ok (.tuple #[.pointer none, .bool false]) w := by kernel_rfl
theorem tb_reset (v : Value) (w : World) : (Instr.typeAssert (.iface 112 v) 84 219 true).run Try.prog w = .ok (.tuple #[.pointer none, .bool false]) w := by kernel_rfl
theorem ta_stop (v : Value) (w : World) : (Instr.typeAssert (.iface 117 v) 84 120 true).run Try.prog w = .ok (.tuple #[.pointer none, .bool false]) w := by kernel_rfl
theorem tb_stop (v : Value) (w : World) : (Instr.typeAssert (.iface 117 v) 84 219 true).run Try.prog w = .ok (.tuple #[.pointer none, .bool false]) w := by kernel_rfl
theorem ta_maxStream (v : Value) (w : World) : (Instr.typeAssert (.iface 129 v) 84 120 true).run Try.prog w = .ok (.tuple #[.pointer none, .bool false]) w := by kernel_rfl
theorem tb_maxStream (v : Value) (w : World) : (Instr.typeAssert (.iface 129 v) 84 219 true).run Try.prog w = .ok (.tuple #[.pointer none, .bool false]) w := by kernel_rfl
theorem ta_maxData (v : Value) (w : World) : (Instr.typeAssert (.iface 126 v) 84 120 true).run Try.prog w = .ok (.tuple #[.pointer none, .bool false]) w := by kernel_rfl
theorem tb_maxData (v : Value) (w : World) : (Instr.typeAssert (.iface 126 v) 84 219 true).run Try.prog w = .ok (.tuple #[.pointer none, .bool false]) w := by kernel_rfl
theorem ta_maxStreams (v : Value) (w : World) : (Instr.typeAssert (.iface 132 v) 84 120 true).run Try.prog w = .ok (.tuple #[.pointer none, .bool false]) w := by kernel_rfl
theorem tb_maxStreams (v : Value) (w : World) : (Instr.typeAssert (.iface 132 v) 84 219 true).run Try.prog w = .ok (.tuple #[.pointer none, .bool false]) w := by kernel_rfl
theorem ta_retire (v : Value) (w : World) : (Instr.typeAssert (.iface 152 v) 84 120 true).run Try.prog w = .ok (.tuple #[.pointer none, .bool false]) w := by kernel_rfl
theorem tb_retire (v : Value) (w : World) : (Instr.typeAssert (.iface 152 v) 84 219 true).run Try.prog w = .ok (.tuple #[.pointer none, .bool false]) w := by kernel_rfl
theorem ta_token (v : Value) (w : World) : (Instr.typeAssert (.iface 123 v) 84 120 true).run Try.prog w = .ok (.tuple #[.pointer none, .bool false]) w := by kernel_rfl
theorem tb_token (v : Value) (w : World) : (Instr.typeAssert (.iface 123 v) 84 219 true).run Try.prog w = .ok (.tuple #[.pointer none, .bool false]) w := by kernel_rfl
theorem FrC.ta {w0 : World} {p : Nat} {c : Ct} {fv : Value} (h : FrC w0 p c fv) (hc : c.ty ≠ 6) (w : World) : (Instr.typeAssert fv 84 120 true).run Try.prog w = .ok (.tuple #[.pointer none, .bool false]) w ∧ (Instr.typeAssert fv 84 219 true).run Try.prog w = .ok (.tuple #[.pointer none, .bool false]) w := by
  cases c
  case ping => rw [h.1]; exact ⟨ta_ping _ w, tb_ping _ w⟩
  case done => rw [h.1]; exact ⟨ta_done _ w, tb_done _ w⟩
  case reset => rw [h.1]; exact ⟨ta_reset _ w, tb_reset _ w⟩
  case stop => rw [h.1]; exact ⟨ta_stop _ w, tb_stop _ w⟩
  case maxStream => rw [h.1]; exact ⟨ta_maxStream _ w, tb_maxStream _ w⟩
  case maxData => rw [h.1]; exact ⟨ta_maxData _ w, tb_maxData _ w⟩
  case maxStreams => rw [h.1]; exact ⟨ta_maxStreams _ w, tb_maxStreams _ w⟩
  case retire => rw [h.1]; exact ⟨ta_retire _ w, tb_retire _ w⟩
  case token => rw [h.1]; exact ⟨ta_token _ w, tb_token _ w⟩
  case crypto => exact (hc rfl).elim

end Go.Proofs.Ytgdkbflhgcchfaa
