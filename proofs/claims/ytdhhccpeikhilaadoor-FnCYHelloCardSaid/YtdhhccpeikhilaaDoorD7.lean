/- laws.cyAwake: two frames, the later one first, are read as one stream. -/
import Derived.Test.YtdhhccpeikhilaaDoorC11
import Derived.Test.YtdhhccpeikhilaaDoorD6
import Derived.Deep.RegionHeld3
namespace Go.Proofs.YtdhhccpeikhilaaDoor
open Go.RowKit

abbrev awakeX : List Stp := [⟨0, 2, 0, fB 2 2⟩, ⟨0, 0, 0, fB 0 2⟩, ⟨1, 0, 0, []⟩, ⟨1, 0, 0, []⟩, ⟨1, 0, 0, []⟩, ⟨2, 0, 0, []⟩]

theorem RStep.push {s s' : RS} {a : Nat} {l : List UInt8} {y : Sn} (h : RStep s ⟨0, a, 0, l⟩ y s') (hz : a + l.length ≤ 16384) (hf : s.fin = false) : s'.fin = false ∧ s'.rp = s.rp ∧ Exact s.rp a l.length l s.q s'.q := by
  obtain ⟨_, _, h⟩ := h
  rcases h with ⟨_, _, _, h⟩ | ⟨e, _⟩ | ⟨e, _⟩
  · rcases h with ⟨g1, _⟩ | ⟨_, g2, _⟩ | ⟨_, g2, _⟩ | ⟨_, _, _, g4, g5, _, _, g8⟩
    · simp only at g1; omega
    · rw [hf] at g2; cases g2
    · rw [hf] at g2; cases g2
    · exact ⟨g4, g5, g8⟩
  · simp at e
  · simp at e
theorem RStep.read {s s' : RS} {a m : Nat} {l d : List UInt8} {y : Sn} (h : RStep s ⟨1, a, m, l⟩ y s') (hd : s.q s.rp = some d) : y.data = d ∧ s' = { s with rp := s.rp + d.length, q := rmQ s.q s.rp } := by
  obtain ⟨_, _, h⟩ := h
  rcases h with ⟨e, _⟩ | ⟨_, _, h⟩ | ⟨e, _⟩
  · simp at e
  · rcases h with ⟨d', k1, _, k2, k3⟩ | ⟨k1, _⟩
    · have := Option.some.inj (hd.symm.trans k1); subst this; exact ⟨k2, k3⟩
    · rw [hd] at k1; cases k1
  · simp at e
theorem RStep.empty {s s' : RS} {a m : Nat} {l : List UInt8} {y : Sn} (h : RStep s ⟨1, a, m, l⟩ y s') (hd : s.q s.rp = none) : y.is = false ∧ s' = s := by
  obtain ⟨_, _, h⟩ := h
  rcases h with ⟨e, _⟩ | ⟨_, _, h⟩ | ⟨e, _⟩
  · simp at e
  · rcases h with ⟨d', k1, _⟩ | ⟨_, k2, _, k3⟩
    · rw [hd] at k1; cases k1
    · exact ⟨k2, k3⟩
  · simp at e
theorem RStep.fin {s s' : RS} {a m : Nat} {l : List UInt8} {y : Sn} (h : RStep s ⟨2, a, m, l⟩ y s') (hd : ∀ k, s.q k = none) : y.code = 0 := by
  obtain ⟨_, _, h⟩ := h
  rcases h with ⟨e, _⟩ | ⟨e, _⟩ | ⟨_, _, _, h⟩
  · simp at e
  · simp at e
  · rcases h with ⟨⟨k, hk⟩, _⟩ | ⟨_, k2, _⟩
    · exact (hk (hd k)).elim
    · exact k2

theorem awake_law {g : Nat} {ys : List Sn} {s : RS} (hR : Ran RStep (rs0 g) awakeX ys s) (hl : ys.length = 6) :
    ∃ y2 y3 y4 y5, ys[2]? = some y2 ∧ ys[3]? = some y3 ∧ ys[4]? = some y4 ∧ ys[5]? = some y5 ∧ y2.data = fB 0 2 ∧ y3.data = fB 2 2 ∧ y4.is = false ∧ y5.code = 0 := by
  obtain ⟨st, h0, _, hs⟩ := hR
  have get : ∀ i, i < 6 → ∃ y, ys[i]? = some y := fun i hi => ⟨_, List.getElem?_eq_getElem (by omega)⟩
  obtain ⟨y0, e0⟩ := get 0 (by omega)
  obtain ⟨y1, e1⟩ := get 1 (by omega)
  obtain ⟨y2, e2⟩ := get 2 (by omega)
  obtain ⟨y3, e3⟩ := get 3 (by omega)
  obtain ⟨y4, e4⟩ := get 4 (by omega)
  obtain ⟨y5, e5⟩ := get 5 (by omega)
  obtain ⟨x0, f0, r0⟩ := hs 0 y0 e0
  obtain ⟨x1, f1, r1⟩ := hs 1 y1 e1
  obtain ⟨x2, f2, r2⟩ := hs 2 y2 e2
  obtain ⟨x3, f3, r3⟩ := hs 3 y3 e3
  obtain ⟨x4, f4, r4⟩ := hs 4 y4 e4
  obtain ⟨x5, f5, r5⟩ := hs 5 y5 e5
  have f0 := Option.some.inj f0
  have f1 := Option.some.inj f1
  have f2 := Option.some.inj f2
  have f3 := Option.some.inj f3
  have f4 := Option.some.inj f4
  have f5 := Option.some.inj f5
  subst f0 f1 f2 f3 f4 f5
  rw [h0] at r0
  obtain ⟨a1, a2, a3⟩ := r0.push (by simp [fB_length]) rfl
  have q1 : (st 1).q = putQ (fun _ => none) 2 (fB 2 2) := a3 (Nat.zero_le _) (fun x _ _ => by rintro ⟨k, d, h, _⟩; cases h)
  have a2 : (st 1).rp = 0 := a2
  obtain ⟨b1, b2, b3⟩ := r1.push (by simp [fB_length]) a1
  rw [a2] at b2 b3
  have q2 : (st 2).q = putQ (st 1).q 0 (fB 0 2) := b3 (Nat.le_refl _) (fun x _ hx => by
    rw [q1]
    rintro ⟨k, d, h, h2, h3⟩
    rw [fB_length] at hx
    unfold putQ at h
    by_cases c : k = 2
    · omega
    · rw [if_neg c] at h; cases h)
  have q20 : (st 2).q (st 2).rp = some (fB 0 2) := by rw [b2, q2]; rfl
  obtain ⟨c1, c2⟩ := r2.read q20
  have r3rp : (st 3).rp = 2 := by rw [c2]; show (st 2).rp + (fB 0 2).length = 2; rw [b2, fB_length]
  have q3 : (st 3).q = rmQ (putQ (putQ (fun _ => none) 2 (fB 2 2)) 0 (fB 0 2)) 0 := by rw [c2]; show rmQ (st 2).q (st 2).rp = _; rw [b2, q2, q1]
  have q30 : (st 3).q (st 3).rp = some (fB 2 2) := by rw [r3rp, q3]; rfl
  obtain ⟨d1, d2⟩ := r3.read q30
  have q4 : ∀ k, (st 4).q k = none := fun k => by
    rw [d2]; show rmQ (st 3).q (st 3).rp k = none
    rw [r3rp, q3]
    unfold rmQ putQ
    by_cases k2 : k = 2
    · rw [if_pos k2]
    · rw [if_neg k2]
      by_cases k0 : k = 0
      · rw [if_pos k0]
      · rw [if_neg k0, if_neg k0, if_neg k2]
  obtain ⟨i1, i2⟩ := r4.empty (q4 _)
  exact ⟨y2, y3, y4, y5, e2, e3, e4, e5, c1, d1, i1, r5.fin (by rw [i2]; exact q4)⟩

theorem bytes_int (w : World) (z1 z2 : Int) (o n : Nat) (h1 : z1 = (o : Int)) (h2 : z2 = (n : Int)) (ho : o ≤ 1000000) (hn : n ≤ 1000000) :
    Calls Tryd.prog 7 #[.int .i64 z1, .int .i64 z2] w fun e w' => ∃ p c, e = .returned (.slice p n c) ∧ OwnB w' (.slice p n c) (fB o n) ∧ Grow w w' := by
  subst h1; subst h2
  refine (bytes_any w o n ho hn).mono ?_
  rintro e w' ⟨v, rfl, h3, h4, _⟩
  obtain ⟨_, p, c, rfl, _⟩ := id h3
  rw [fB_length] at *
  exact ⟨p, c, rfl, h3, h4⟩

/-- 's = append(s, x...)' as one step of a region that draws, behind a guard. -/
theorem step_appendBG {w : World} {ops : Array Oper} {o : Oper} {a : Act} {K : Act → World → Prop} {Q : Exit → Act → World → Prop} {E : Prop} (hw : Region.wanted o (yielded ops a.tmps) = true) (s x : Operand)
    (ho : o.op = .call { callee := .builtin .append, args := #[s, x], argTypes := #[26, 26] }) (sv xv : Value) (l m : List UInt8) (hown : OwnB w sv l) (hr : Rd w xv m) (hlen : l.length + m.length ≤ 1000000)
    (hs : a.eval s = sv) (hx : a.eval x = xv)
    (h : ∀ v' w', OwnB w' v' (l ++ m) → Fr (fun k => sv.ownBlock = some k) w w' → (∀ k, v'.ownBlock = some k → sv.ownBlock = some k ∨ w.heap.size ≤ k) → K (a.put o.dst v') w') :
    if Region.wanted o (yielded ops a.tmps) = true then Oper.wp Tryd.prog o a w K Q else E := by
  rw [if_pos hw]
  obtain ⟨v', w', hrun, h1, h2, h3⟩ := appendB hown hr hlen o.type
  unfold Oper.wp
  simp [execOp, ho, resolve, invoke, builtin, hs, hx, hrun, Result.andThen]
  exact h v' w' h1 h2 h3
theorem clone_int (w : World) (p : Option Addr) (c n : Nat) (l : List UInt8) (hn : l.length = n) (h : Rd w (.slice p n c) l) (hl : n ≤ 1000000) :
    Calls Tryd.prog 16 #[.slice p n c] w fun e w' => ∃ p' c', e = .returned (.slice p' n c') ∧ OwnB w' (.slice p' n c') l ∧ Grow w w' ∧ ∀ k, (Value.slice p' n c').ownBlock = some k → w.heap.size ≤ k := by
  subst hn
  refine (clone_any w _ l h hl).mono ?_
  rintro e w' ⟨v, rfl, h3, h4, h5⟩
  obtain ⟨_, p', c', rfl, _⟩ := id h3
  exact ⟨p', c', rfl, h3, h4, h5⟩
theorem Grow.cell {w w' : World} (h : Grow w w') {a : Addr} (hl : a.block < w.heap.size) : w'.cell? a = w.cell? a := World.cell?_of_block (h.block a.block hl (fun e => e))
theorem Rd.int {w : World} {v : Value} {l : List UInt8} {n : Nat} (h : Rd w v l) (hn : l.length = n) : ∃ p c, v = .slice p n c ∧ Rd w (.slice p n c) l := by
  subst hn
  obtain ⟨p, c, rfl, _⟩ := id h
  exact ⟨p, c, rfl, h⟩

set_option maxRecDepth 100000 in
set_option maxHeartbeats 1000000 in
theorem awake (w : World) : Calls Tryd.prog 14 #[] w fun e w' => e = .returned (.bool true) ∧ Grow w w' := by
  go_enter Tryd.func14, Tryd.ntmps14
  go_upto_region 2 with fail
  refine (bytes_int _ 2 2 2 2 rfl rfl (by omega) (by omega)).mono ?_
  intro e w1 h
  obtain ⟨p1, c1, h, hO1, hG1⟩ := h
  subst h
  go_upto_region 2 with fail
  refine (bytes_int _ 0 2 0 2 rfl rfl (by omega) (by omega)).mono ?_
  intro e w2 h
  obtain ⟨p2, c2, h, hO2, hG2⟩ := h
  subst h
  have hR1 := Lib.hid (hO1.rd.keep hG2.bytes)
  have hR2 := Lib.hid hO2.rd
  have HG := Lib.hid (hG1.trans hG2)
  clear hO1 hG1 hO2 hG2
  go_upto_region 2 with fail
  have hSt : StepsAt (w2.alloc (.cells #[.int .i64 0, .int .i64 2, .int .i64 0, .slice p1 2 c1, .int .i64 0, .int .i64 0, .int .i64 0, .slice p2 2 c2, .int .i64 1, .int .i64 0, .int .i64 0, .slice none 0 0, .int .i64 1, .int .i64 0, .int .i64 0, .slice none 0 0, .int .i64 1, .int .i64 0, .int .i64 0, .slice none 0 0, .int .i64 2, .int .i64 0, .int .i64 0, .slice none 0 0] 30)) (.slice (some ⟨w2.heap.size, 0, none⟩) 6 6) awakeX := by
    have hG3 : Grow w2 (w2.alloc (.cells #[.int .i64 0, .int .i64 2, .int .i64 0, .slice p1 2 c1, .int .i64 0, .int .i64 0, .int .i64 0, .slice p2 2 c2, .int .i64 1, .int .i64 0, .int .i64 0, .slice none 0 0, .int .i64 1, .int .i64 0, .int .i64 0, .slice none 0 0, .int .i64 1, .int .i64 0, .int .i64 0, .slice none 0 0, .int .i64 2, .int .i64 0, .int .i64 0, .slice none 0 0] 30)) := (Fr.refl _ _).alloc _
    have hnil : ∀ w : World, Rd w (.slice none 0 0) [] := fun w => ⟨none, 0, rfl, Nat.le_refl _, by omega, fun h => (h rfl).elim⟩
    refine ⟨fun k hk => ?_, [.slice p1 2 c1, .slice p2 2 c2, .slice none 0 0, .slice none 0 0, .slice none 0 0, .slice none 0 0], rfl, ⟨rfl, _, 6, rfl, Nat.le_refl _, by omega, .inr ⟨w2.heap.size, 0, _, rfl, heap_alloc_new w2 _, by simp, fun j u hj => ?_⟩⟩, fun i x d hx hd => ?_⟩
    · have : w2.heap.size = k := Option.some.inj hk
      subst this
      exact ⟨_, _, heap_alloc_new w2 _⟩
    · rw [Nat.zero_add, ← hj]
      simp only [awakeX, List.zipWith_cons_cons, List.zipWith_nil_left, stC, List.flatten_cons, List.flatten_nil, List.append_nil, List.cons_append, List.nil_append]
      rw [← Array.getElem?_toList]
      rfl
    · rcases i with _ | _ | _ | _ | _ | _ | i
      · have := Option.some.inj hx; subst this; have := Option.some.inj hd; subst this; exact hR1.out.keep hG3.bytes
      · have := Option.some.inj hx; subst this; have := Option.some.inj hd; subst this; exact hR2.out.keep hG3.bytes
      · have := Option.some.inj hx; subst this; have := Option.some.inj hd; subst this; exact hnil _
      · have := Option.some.inj hx; subst this; have := Option.some.inj hd; subst this; exact hnil _
      · have := Option.some.inj hx; subst this; have := Option.some.inj hd; subst this; exact hnil _
      · have := Option.some.inj hx; subst this; have := Option.some.inj hd; subst this; exact hnil _
      · simp at hx
  have hC := cyPlay_any _ _ awakeX hSt (by decide) (fun x hx => by simp only [awakeX, List.mem_cons, List.not_mem_nil, or_false] at hx; rcases hx with rfl | rfl | rfl | rfl | rfl | rfl <;> simp [fB_length]) (fun ys => ∃ s g, Ran RStep (rs0 g) awakeX ys s) (fun w1 v1 _ hs1 => (play_recv w1 v1 awakeX hs1 (by decide) (fun x hx => by
      simp only [awakeX, List.mem_cons, List.not_mem_nil, or_false] at hx
      rcases hx with rfl | rfl | rfl | rfl | rfl | rfl <;> simp [RecvOk, fB_length])).mono (fun e w2 ⟨hg, vs, ys, s, g, he, hl, hS, hR⟩ => ⟨hg, vs, ys, he, hl, hS, s, g, hR⟩))
  refine hC.mono ?_
  intro e wB h
  obtain ⟨hGB, vs, ys, h, hyl, hSn, s, g, hRan⟩ := h
  subst h
  obtain ⟨y2, y3, y4, y5, e2, e3, e4, e5, l2, l3, l4, l5⟩ := awake_law hRan hyl
  obtain ⟨bs, o, cs, d2, hv, hcs1, hcs2, r2, cell2, cur, hcur⟩ := RowAt.get (cs := snC) (size := 5) (fun _ _ => rfl) hSn e2
  subst hv
  obtain ⟨_, _, _, d3, hv, _, _, r3, cell3, _⟩ := RowAt.get (cs := snC) (size := 5) (fun _ _ => rfl) hSn e3
  injection hv with hv1 hv2 hv3
  injection hv1 with hv1
  injection hv1 with hv1 hv4
  subst hv1 hv4
  obtain ⟨_, _, _, d4, hv, _, _, _, cell4, _⟩ := RowAt.get (cs := snC) (size := 5) (fun _ _ => rfl) hSn e4
  injection hv with hv1 _ _
  injection hv1 with hv1
  injection hv1 with hv1 hv4
  subst hv1 hv4
  obtain ⟨_, _, _, d5, hv, _, _, _, cell5, _⟩ := RowAt.get (cs := snC) (size := 5) (fun _ _ => rfl) hSn e5
  injection hv with hv1 _ _
  injection hv1 with hv1
  injection hv1 with hv1 hv4
  subst hv1 hv4
  rw [l2] at r2
  rw [l3] at r3
  obtain ⟨p6, c6, rfl, r2⟩ := r2.int (fB_length 0 2)
  obtain ⟨p7, c7, rfl, r3⟩ := r3.int (fB_length 2 2)
  have b0 : wB.cell? ⟨bs, o + 13, none⟩ = some (.slice p6 2 c6) := cell2 3 _ rfl
  have b1 : wB.cell? ⟨bs, o + 18, none⟩ = some (.slice p7 2 c7) := cell3 3 _ rfl
  have b2 : wB.cell? ⟨bs, o + 20, none⟩ = some (.bool false) := (cell4 0 _ rfl).trans (by rw [l4])
  have b3 : wB.cell? ⟨bs, o + 29, none⟩ = some (.int .i64 0) := (cell5 4 _ rfl).trans (by rw [l5]; rfl)
  have hbs : bs < wB.heap.size := (Array.getElem?_eq_some_iff.1 hcur).1
  rw [hyl]
  have HS : Hid (∀ w', Grow wB w' → w'.cell? ⟨bs, o + 13, none⟩ = some (.slice p6 2 c6) ∧ w'.cell? ⟨bs, o + 18, none⟩ = some (.slice p7 2 c7) ∧ w'.cell? ⟨bs, o + 20, none⟩ = some (.bool false) ∧ w'.cell? ⟨bs, o + 29, none⟩ = some (.int .i64 0)) :=
    Lib.hid (fun w' hg => ⟨(hg.cell hbs).trans b0, (hg.cell hbs).trans b1, (hg.cell hbs).trans b2, (hg.cell hbs).trans b3⟩)
  have HG2 : Hid (Grow w wB) := Lib.hid ((HG.out.trans ((Fr.refl _ _).alloc _)).trans hGB)
  have HR2 := Lib.hid r2
  have HR3 := Lib.hid r3
  clear hSt hC hGB hSn hRan e2 e3 e4 e5 l2 l3 l4 l5 cell2 cell3 cell4 cell5 hcur cur r2 r3 HG hR1 hR2 hyl hcs1 hcs2 hv2 hv3
  go_upto_region 2 with fail
  have hs0 : (2 : Int) < 6 := by omega
  have hs1 : (3 : Int) < 6 := by omega
  have hs2 : (4 : Int) < 6 := by omega
  have hs3 : (5 : Int) < 6 := by omega
  have h24 : Hid (fB 0 2 ++ fB 2 2 = fB 0 4) := Lib.hid rfl
  go_region_held3 (fun w' => w'.cell? ⟨bs, o + 13, none⟩ = some (.slice p6 2 c6) ∧ w'.cell? ⟨bs, o + 18, none⟩ = some (.slice p7 2 c7) ∧ w'.cell? ⟨bs, o + 20, none⟩ = some (.bool false) ∧ w'.cell? ⟨bs, o + 29, none⟩ = some (.int .i64 0))
    (first | exact HS.out _ (by repeat (first | exact Fr.refl _ _ | assumption | apply Fr.drew | apply Fr.alloc | refine Fr.trans ?_ (by assumption))))
    (first
      | (go_at_call 16; refine (clone_int _ p6 c6 2 (fB 0 2) (fB_length 0 2) (HR2.out.keep (Grow.bytes (by repeat (first | exact Fr.refl _ _ | assumption | apply Fr.drew | apply Fr.alloc | refine Fr.trans ?_ (by assumption))))) (by omega)).mono ?_; rintro e w3 ⟨p8, c8, rfl, hO8, hG8, hf8⟩)
      | (go_at_call 7; refine (bytes_int _ 0 4 0 4 rfl rfl (by omega) (by omega)).mono ?_; rintro e w5 ⟨p9, c9, rfl, hO9, hG9⟩)
      | (go_at_call 11; refine (equal_same _ _ _ (fB 0 4) (hR4.keep (Grow.bytes (by repeat (first | exact Fr.refl _ _ | assumption | apply Fr.drew | apply Fr.alloc | refine Fr.trans ?_ (by assumption))))) (hO9.rd.keep (Grow.bytes (by repeat (first | exact Fr.refl _ _ | assumption | apply Fr.drew | apply Fr.alloc | refine Fr.trans ?_ (by assumption)))))).mono ?_; rintro e w6 ⟨rfl, rfl⟩)
      | (refine step_appendBG (by go_simp) _ _ (by rfl) (.slice p8 2 c8) _ (fB 0 2) (fB 2 2) (hO8.grow (by repeat (first | exact Fr.refl _ _ | assumption | apply Fr.drew | apply Fr.alloc | refine Fr.trans ?_ (by assumption))) (.inl (by rw [fB_length]; omega))) (HR3.out.keep (Grow.bytes (by repeat (first | exact Fr.refl _ _ | assumption | apply Fr.drew | apply Fr.alloc | refine Fr.trans ?_ (by assumption))))) (by rw [fB_length, fB_length]; omega) (by rfl) (by rfl) ?_; intro v4 w4 hO4 hF4 hf4; have hG4 : Grow wB w4 := Grow.trans' (by repeat (first | exact Fr.refl _ _ | assumption | apply Fr.drew | apply Fr.alloc | refine Fr.trans ?_ (by assumption))) hF4 hf8; obtain ⟨p4, c4, rfl, hR4⟩ := hO4.rd.int (n := 4) (by rw [h24.out, fB_length]); rw [h24.out] at hR4))
  go_wp2_with fail
  go_ret
  refine ⟨rfl, HG2.out.trans ?_⟩
  repeat (first | exact Fr.refl _ _ | assumption | apply Fr.drew | apply Fr.alloc | refine Fr.trans ?_ (by assumption))
end Go.Proofs.YtdhhccpeikhilaaDoor
