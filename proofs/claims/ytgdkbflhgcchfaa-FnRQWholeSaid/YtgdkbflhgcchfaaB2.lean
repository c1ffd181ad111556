/- impl.RQPlay, walked. -/
import Derived.Test.YtgdkbflhgcchfaaB1
namespace Go.Proofs.Ytgdkbflhgcchfaa
open Go.RowKit

theorem wpList_invoke2 {w : World} {ops : Array Oper} {rest : List Oper} {o : Oper} {a : Act} {Q : Exit → Act → World → Prop} (hgd : o.guard = none) (x y y' : Operand) (name : String) (t t' : TypeId)
    (ho : o.op = .call { callee := .invoke x name, args := #[y, y'], argTypes := #[t, t'] }) {fv z z' : Value} {R : Value → World → Prop} (hI : Inv w fv name #[z, z'] R) (hx : a.eval x = fv) (hy : a.eval y = z) (hy' : a.eval y' = z')
    (h : ∀ v' w', R v' w' → wpList Try.prog ops Q rest (a.put o.dst v') w') : wpList Try.prog ops Q (o :: rest) a w :=
  wpList_invoke hgd x name #[y, y'] #[t, t'] ho hI hx (by simp [hy, hy']) h
/-- RQPlay's state between two acts. -/
structure PlayIn (w0 wr : World) (X : Nat) (F : Nat → Prop) (st : St) (u : Value) (ys : List Sn) : Prop where
  grow : Grow w0 wr
  ok : Blk wr w0.heap.size #[.bool false] 4
  q : Qat wr X F st
  xnew : w0.heap.size < X
  fnew : ∀ k, F k → w0.heap.size < k
  seen : SeenAt wr u ys
  unew : ∀ k, u.ownBlock = some k → w0.heap.size < k
/-- .. when an act is done, but what is seen of it is not yet appended. -/
structure PlayMid (w0 wr : World) (X : Nat) (st : St) (u : Value) (ys : List Sn) (y : Nat) (Y : Sn) : Prop where
  st : ∃ F, PlayIn w0 wr X F st u ys
  cell : ∃ ds, Blk wr y #[.bool Y.is, .bool Y.has, ds] 44 ∧ Rd wr ds Y.frame

section
variable {w0 w w' : World} {X : Nat} {F : Nat → Prop} {st : St} {u : Value} {ys : List Sn}
theorem PlayIn.growTo (h : PlayIn w0 w X F st u ys) (hG : Grow w w') : PlayIn w0 w' X F st u ys :=
  ⟨h.grow.trans hG, hG.blk h.ok (fun e => e), h.q.grow hG, h.xnew, h.fnew, h.seen.grow hG, h.unew⟩
theorem Qat.row (h : Qat w X F st) {k : Nat} {cur : Array Value} {T : TypeId} {f : Nat × Nat} (hk : w.heap[k]? = some (Obj.cells cur T f)) (hT : qT T = false) : ¬ F k := fun e => by
  obtain ⟨cur', T', f', h1, h2⟩ := h.typed k e
  have := Option.some.inj (h1.symm.trans hk)
  injection this with _ x _
  rw [x, hT] at h2; cases h2
theorem Qat.door (h : Qat w X F st) : ∃ Q, Blk w X #[pt Q] 103 := by
  obtain ⟨Q, v0, v1, c2, o2, cl, ol, F0, F1, F2, hX, _⟩ := h
  exact ⟨Q, hX⟩
theorem PlayIn.act (h : PlayIn w0 w X F st u ys) {G : Nat → Prop} {st' : St} (hQ : QOutG G w w' X F st') (hG : ∀ k, G k → w0.heap.size < k) : ∃ F', PlayIn w0 w' X F' st' u ys := by
  obtain ⟨F', h1, h2, h3⟩ := hQ
  refine ⟨F', h.grow.trans' h2 (fun k hk => Nat.le_of_lt (h.fnew k hk)), h2.blk h.ok (h.q.notBlk h.ok rfl), h1, h.xnew, fun k hk => (h3 k hk).elim (h.fnew k) (hG k), ?_, h.unew⟩
  refine h.seen.keep (fun k hk => h2.block k (h.seen.lt hk) ?_) (h2.bytes (fun k hk => h.q.noBytes hk))
  obtain ⟨cur, f, hc⟩ := h.seen.1 k hk
  exact h.q.row hc rfl
theorem PlayIn.mid (h : PlayIn w0 w X F st u ys) {G : Nat → Prop} {st' : St} (hQ : QOutG G w w' X F st') (hG : ∀ k, G k → w0.heap.size < k) {y : Nat} {Y : Sn} {ds : Value} (hy : Blk w y #[.bool Y.is, .bool Y.has, ds] 44) (hd : Rd w ds Y.frame) : PlayMid w0 w' X st' u ys y Y := by
  refine ⟨h.act hQ hG, ds, ?_, ?_⟩
  all_goals obtain ⟨F', h1, h2, h3⟩ := hQ
  · exact h2.blk hy (h.q.notBlk hy rfl)
  · exact hd.keep (h2.bytes (fun k hk => h.q.noBytes hk))
theorem PlayIn.set (h : PlayIn w0 w X F st u ys) {y : Nat} {C : Array Value} (hy : Blk w y C 44) (h0 : w0.heap.size < y) (hu : ∀ k, u.ownBlock = some k → k ≠ y) (i : Nat) (v : Value) : PlayIn w0 (w.setCell ⟨y, i, none⟩ v) X F st u ys := by
  obtain ⟨Q, hX⟩ := h.q.door
  refine ⟨h.grow.setCell _ _ (.inr (Nat.le_of_lt h0)), h.ok.setOther _ _ (by show _ ≠ y; omega), ?_, h.xnew, h.fnew, h.seen.set hy (by decide) hu i v, h.unew⟩
  refine h.q.keep (fun k hk => Below.heap_setCell _ _ _ _ (fun e => ?_)) (Fr.bytes (S := fun j => j = y) ((Fr.refl _ _).setCell _ _ (.inl rfl)) (fun j hj => by rw [show j = y from hj]; exact hy.noBytes (by decide)))
  have e : k = y := e
  subst e
  rcases hk with hk | hk
  · exact h.q.notBlk hy rfl hk
  · exact hX.ne_of_type hy (by decide) hk.symm
theorem get_end {y : Nat} {bv : Value} {l : List UInt8} (h : PlayIn w0 w X F st u ys) (hb : Buf w w' bv l) (hY : Blk w y #[.bool true, .bool false, .slice none 0 0] 44) (h0 : w0.heap.size < y) (hu : ∀ k, u.ownBlock = some k → k ≠ y) : PlayMid w0 (w'.setCell ⟨y, 2, none⟩ bv) X st u ys y ⟨true, false, l⟩ := by
  have hY' := hb.2.1.blk hY (fun e => e)
  exact ⟨⟨F, (h.growTo hb.2.1).set hY' h0 hu 2 bv⟩, bv, hY'.set 2 bv, hb.1.rd.set hY' (by decide) 2 bv⟩
theorem PlayIn.app (h : PlayIn w0 w X F st u ys) {v' : Value} {ys' : List Sn} (hS : SeenAt w' v' ys') (hF : Fr (fun k => u.ownBlock = some k ∧ ¬ BytesBlk w k) w w') (hv : ∀ k, v'.ownBlock = some k → u.ownBlock = some k ∨ (w.heap.size ≤ k ∧ k < w'.heap.size)) : PlayIn w0 w' X F st v' ys' := by
  obtain ⟨Q, hX⟩ := h.q.door
  have row : ∀ (k : Nat) (cur : Array Value) (T : TypeId) (f : Nat × Nat), w.heap[k]? = some (Obj.cells cur T f) → T ≠ 44 → ¬ (u.ownBlock = some k ∧ ¬ BytesBlk w k) := fun k cur T f hk hT e => by
    obtain ⟨cur', f', hc⟩ := h.seen.1 k e.1
    have := Option.some.inj (hk.symm.trans hc)
    injection this with _ x _
    exact hT x
  refine ⟨h.grow.trans' hF (fun k hk => Nat.le_of_lt (h.unew k hk.1)), hF.blk h.ok (row _ _ _ _ h.ok (by decide)), ?_, h.xnew, h.fnew, hS, fun k hk => (hv k hk).elim (h.unew k) (fun e => ?_)⟩
  · refine h.q.keep (fun k hk => hF.block k ?_ ?_) (hF.bytes (fun k hk => hk.2))
    · rcases hk with hk | rfl
      · exact h.q.lt hk
      · exact hX.lt
    · rcases hk with hk | rfl
      · obtain ⟨cur, T, f, h1, h2⟩ := h.q.typed k hk
        exact row _ _ _ _ h1 (fun e => by subst e; cases h2)
      · exact row _ _ _ _ hX (by decide)
  · have := h.ok.lt; omega
end

set_option maxRecDepth 100000 in
set_option maxHeartbeats 8000000 in
theorem play_any (w0 : World) (v : Value) (xs : List Sp) (hst : StepsAt w0 v xs) (hl : xs.length ≤ 300) (hok : ∀ x ∈ xs, x.Ok) :
    Calls Try.prog 18 #[v] w0 fun e w => Grow w0 w ∧ ∃ (vs : Value), e = .returned (.tuple #[vs, .bool true]) ∧ SeenAt w vs (sees St0 xs) := by
  obtain ⟨pv, cv, rfl, hlc, hcm⟩ := hst.slice
  have Hst := Lib.hid hst
  have Hok := Lib.hid hok
  clear hst hok
  go_enter_defers Try.func18, Try.ntmps18
  go_wp2_with (go_at_call 23; refine (new_any _).mono ?_; rintro e w1 ⟨X, F, rfl, hXs, hg1, hQ, hFn⟩)
  have hK0 : Blk w1 w0.heap.size #[.bool false] 4 := by
    refine hg1.blk (Blk.new w0 _ _) (fun h => h)
  have hG1 : Grow w0 w1 := ((Fr.refl _ w0).alloc _).trans hg1
  have hlt0 : ∀ k, (w0.alloc (.cells #[.bool false] 4)).heap.size ≤ k → w0.heap.size < k := fun k h => by simp at h; omega
  have HI : Hid (PlayIn w0 w1 X F St0 (.slice none 0 0) []) := Lib.hid ⟨hG1, hK0, hQ, hlt0 _ hXs, fun k hk => hlt0 _ (hFn k hk), RowAt.nil _, fun k h => nomatch h⟩
  clear hg1 hXs hQ hFn hK0 hG1 hlt0
  go_wp2_with fail
  go_loopg [2, 12] xs.length (fun k s2 s12 wr => ∃ (i : Nat) (F : Nat → Prop), k + i = xs.length ∧ s12 = .int .i64 (i : Int) ∧ Hid (PlayIn w0 wr X F (St0.run (xs.take i)) s2 (sees St0 (xs.take i))))
  case atStart => exact ⟨0, F, by simp, rfl, Lib.hid HI.out⟩
  case round =>
    obtain ⟨i, F, hk, rfl, HI⟩ := hrel
    have c0 : wr.cell? ⟨w0.heap.size, 0, none⟩ = some (.bool false) := HI.out.ok.cellAt 0 _ rfl
    have f0 := HI.out.ok.free
    by_cases hend : i = xs.length
    · have hne : ¬ (i < xs.length) := by omega
      go_wp2_with fail
      refine leaves_cons (f := 22) (args := #[.pointer (some ⟨w0.heap.size, 0, none⟩)]) (by simp) (by simp [go_sem]) ?_
      refine (caught_idle _ _).mono ?_
      rintro e u w' ⟨rfl, rfl, rfl⟩
      simp [Leaves, settle, results, Try.results18, go_sem, c0]
      have hS := HI.out.seen
      rw [List.take_of_length_le (by omega)] at hS
      exact ⟨HI.out.grow.setCell _ _ (.inr (Nat.le_refl _)), hS.set HI.out.ok (by decide) (fun j hj => Nat.ne_of_gt (HI.out.unew j hj)) 0 _⟩
    · have hxi : xs[i]? = some (xs[i]'(by omega)) := List.getElem?_eq_getElem (by omega)
      have htk : xs.take (i + 1) = xs.take i ++ [xs[i]'(by omega)] := by rw [List.take_add_one, hxi]; rfl
      have hx0 : xs[i]'(by omega) ∈ xs := List.getElem_mem _
      generalize xs[i]'(by omega) = x at hxi htk hx0
      have hxok := Hok.out x hx0
      obtain ⟨st, hs⟩ : ∃ st, st = St0.run (xs.take i) := ⟨_, rfl⟩
      obtain ⟨ys, hysd⟩ : ∃ ys, ys = sees St0 (xs.take i) := ⟨_, rfl⟩
      have hnx : St0.run (xs.take (i + 1)) = (st.step x).2 := by rw [htk, run_snoc, ← hs]
      have hny : sees St0 (xs.take (i + 1)) = ys ++ [(st.step x).1] := by rw [htk, sees_snoc, ← hs, ← hysd]
      have hsok : SOk3 300 st := by
        have h1 := run_ok (xs.take i) 0 St0 St0_ok (fun y hy => Hok.out y (List.mem_of_mem_take hy))
        rw [← hs] at h1
        exact fun n L hn e => (h1 n L hn e).mono (by rw [List.length_take]; omega)
      have hyl : ys.length ≤ 300 := by rw [hysd, sees_length, List.length_take]; omega
      have HI2 := HI.out
      rw [← hs, ← hysd] at HI2
      have HI3 := Lib.hid HI2
      have HN := Lib.hid (And.intro hnx hny)
      have HSO := Lib.hid hsok
      have HXO := Lib.hid hxok
      obtain ⟨bs, o, cs, d, hv, _, _, hd, hcell, cur, hcur⟩ := RowAt.get (cs := stC) (size := 8) (fun _ _ => rfl) (Hst.out.grow HI.out.grow) hxi
      injection hv with hv1 hv2 hv3
      subst hv1
      subst hv3
      have e0 : wr.cell? ⟨bs, o + i * 8, none⟩ = some (.int .i64 (x.kind : Int)) := hcell 0 _ rfl
      have e1 : wr.cell? ⟨bs, o + i * 8 + 1, none⟩ = some (.int .i64 (x.lev : Int)) := hcell 1 _ rfl
      have e2 : wr.cell? ⟨bs, o + i * 8 + 2, none⟩ = some (.int .i64 (x.ty : Int)) := hcell 2 _ rfl
      have e3 : wr.cell? ⟨bs, o + i * 8 + 3, none⟩ = some (.int .u64 (x.a : Int)) := hcell 3 _ rfl
      have e4 : wr.cell? ⟨bs, o + i * 8 + 4, none⟩ = some (.int .u64 (x.b : Int)) := hcell 4 _ rfl
      have e5 : wr.cell? ⟨bs, o + i * 8 + 5, none⟩ = some (.int .u64 (x.c : Int)) := hcell 5 _ rfl
      have e6 : wr.cell? ⟨bs, o + i * 8 + 6, none⟩ = some d := hcell 6 _ rfl
      have e7 : wr.cell? ⟨bs, o + i * 8 + 7, none⟩ = some (.int .i64 (x.most : Int)) := hcell 7 _ rfl
      have hbl : bs < wr.heap.size := (Array.getElem?_eq_some_iff.1 hcur).1
      have hys : i < xs.length := by omega
      obtain ⟨pd, cd, rfl, _⟩ := id hd
      have Hd := Lib.hid hd
      clear hcell hcur cur hxi hd hend c0 f0 HI HI2 hs hysd hv2 hnx hny hsok hxok htk hx0
      go_upto_block 2 with fail
      have HX0 : Hid (Blk ((wr.alloc (.cells (stC x (.slice pd x.data.length cd)).toArray 35)).alloc (.cells #[.bool false, .bool false, .slice none 0 0] 44)) wr.heap.size (stC x (.slice pd x.data.length cd)).toArray 35) := Lib.hid ((Blk.new wr _ _).alloc _)
      have HY0 : Hid (Blk ((wr.alloc (.cells (stC x (.slice pd x.data.length cd)).toArray 35)).alloc (.cells #[.bool false, .bool false, .slice none 0 0] 44)) (wr.heap.size + 1) #[.bool false, .bool false, .slice none 0 0] 44) := Lib.hid (Blk.newAt _ _ _ _ (by simp))
      have HGa : Hid (Grow wr ((wr.alloc (.cells (stC x (.slice pd x.data.length cd)).toArray 35)).alloc (.cells #[.bool false, .bool false, .slice none 0 0] 44))) := Lib.hid (((Fr.refl _ _).alloc _).alloc _)
      have HI4 := Lib.hid (HI3.out.growTo HGa.out)
      have HR := Lib.hid (Hd.out.keep HGa.out.bytes)
      have HNU : Hid (∀ k, u2.ownBlock = some k → k ≠ wr.heap.size + 1) := Lib.hid (fun k hk => by have := HI3.out.seen.lt hk; omega)
      have HNW : Hid (w0.heap.size < wr.heap.size + 1) := Lib.hid (by have := HI3.out.grow.size; omega)
      have hfold : #[Value.int .i64 (x.kind : Int), .int .i64 (x.lev : Int), .int .i64 (x.ty : Int), .int .u64 (x.a : Int), .int .u64 (x.b : Int), .int .u64 (x.c : Int), .slice pd x.data.length cd, .int .i64 (x.most : Int)] = (stC x (.slice pd x.data.length cd)).toArray := rfl
      rw [hfold]
      clear hfold
      generalize ((wr.alloc (.cells (stC x (.slice pd x.data.length cd)).toArray 35)).alloc (.cells #[.bool false, .bool false, .slice none 0 0] 44)) = wa at *
      clear e0 e1 e2 e3 e4 e5 e6 e7 hbl
      go_cut [8] from 18 to 56 (fun _ wx => Hid (PlayMid w0 wx X (st.step x).2 u2 ys (wr.heap.size + 1) (st.step x).1))
      case first =>
        have y0 : wa.cell? ⟨wr.heap.size + 1, 0, none⟩ = some (.bool false) := HY0.out.cellAt 0 _ rfl
        have y1 : wa.cell? ⟨wr.heap.size + 1, 1, none⟩ = some (.bool false) := HY0.out.cellAt 1 _ rfl
        have y2 : wa.cell? ⟨wr.heap.size + 1, 2, none⟩ = some (.slice none 0 0) := HY0.out.cellAt 2 _ rfl
        have hltX := HX0.out.lt
        have hltY := HY0.out.lt
        have hfY := HY0.out.free
        cases x with
        | lost n c =>
          have hkd : (Sp.lost n c).kind = 0 := rfl
          obtain ⟨hn, ha, hb, hd⟩ := HXO.out
          have hcok : c.Ok := ⟨by omega, by omega, by omega⟩
          have x1 : wa.cell? ⟨wr.heap.size, 1, none⟩ = some (.int .i64 (n : Int)) := HX0.out.cellAt 1 _ rfl
          have x2 : wa.cell? ⟨wr.heap.size, 2, none⟩ = some (.int .i64 (c.ty : Int)) := HX0.out.cellAt 2 _ rfl
          have x3 : wa.cell? ⟨wr.heap.size, 3, none⟩ = some (.int .u64 (c.a : Int)) := HX0.out.cellAt 3 _ rfl
          have x4 : wa.cell? ⟨wr.heap.size, 4, none⟩ = some (.int .u64 (c.b : Int)) := HX0.out.cellAt 4 _ rfl
          have x5 : wa.cell? ⟨wr.heap.size, 5, none⟩ = some (.int .u64 (c.c : Int)) := HX0.out.cellAt 5 _ rfl
          have x6 : wa.cell? ⟨wr.heap.size, 6, none⟩ = some (.slice pd c.data.length cd) := HX0.out.cellAt 6 _ rfl
          have HCO := Lib.hid hcok
          clear hcok ha hb hd
          have HS : Hid (∀ w', Grow wa w' → (w'.cell? ⟨wr.heap.size, 1, none⟩ = some (.int .i64 (n : Int)) ∧ w'.cell? ⟨wr.heap.size, 2, none⟩ = some (.int .i64 (c.ty : Int)) ∧ w'.cell? ⟨wr.heap.size, 3, none⟩ = some (.int .u64 (c.a : Int)) ∧ w'.cell? ⟨wr.heap.size, 4, none⟩ = some (.int .u64 (c.b : Int)) ∧ w'.cell? ⟨wr.heap.size, 5, none⟩ = some (.int .u64 (c.c : Int)) ∧ w'.cell? ⟨wr.heap.size, 6, none⟩ = some (.slice pd c.data.length cd))) :=
            Lib.hid fun w' hG => ⟨(hG.cell hltX).trans x1, (hG.cell hltX).trans x2, (hG.cell hltX).trans x3, (hG.cell hltX).trans x4, (hG.cell hltX).trans x5, (hG.cell hltX).trans x6⟩
          have fin : ∀ (p : Nat) (w5 w6 : World), Grow wa w5 → wa.heap.size ≤ p → QOutG (fun k => k = p ∨ w5.heap.size ≤ k) w5 w6 X F (st.lost n c) → Hid (w6.cell? ⟨wr.heap.size, 1, none⟩ = some (.int .i64 (n : Int)) ∧ w6.cell? ⟨wr.heap.size, 2, none⟩ = some (.int .i64 (c.ty : Int)) ∧ w6.cell? ⟨wr.heap.size, 3, none⟩ = some (.int .u64 (c.a : Int)) ∧ w6.cell? ⟨wr.heap.size, 4, none⟩ = some (.int .u64 (c.b : Int)) ∧ w6.cell? ⟨wr.heap.size, 5, none⟩ = some (.int .u64 (c.c : Int)) ∧ w6.cell? ⟨wr.heap.size, 6, none⟩ = some (.slice pd c.data.length cd)) ∧ Hid (PlayMid w0 w6 X (st.lost n c) u2 ys (wr.heap.size + 1) ⟨false, false, []⟩) := fun p w5 w6 hG5 hp hq => by
            have hP := HI4.out.growTo hG5
            have hX5 := hG5.blk HX0.out (fun e => e)
            have hY5 := hG5.blk HY0.out (fun e => e)
            have hX6 : Blk w6 wr.heap.size (stC (Sp.lost n c) (.slice pd c.data.length cd)).toArray 35 := by
              obtain ⟨F', h1, h2, h3⟩ := hq
              exact h2.blk hX5 (hP.q.notBlk hX5 rfl)
            refine ⟨Lib.hid ⟨hX6.cellAt 1 _ rfl, hX6.cellAt 2 _ rfl, hX6.cellAt 3 _ rfl, hX6.cellAt 4 _ rfl, hX6.cellAt 5 _ rfl, hX6.cellAt 6 _ rfl⟩, Lib.hid ?_⟩
            refine hP.mid (Y := ⟨false, false, []⟩) hq (fun k hk => ?_) hY5 ⟨none, 0, rfl, Nat.le_refl _, by omega, fun h => (h rfl).elim⟩
            have := HNW.out
            have := hG5.size
            rcases hk with rfl | hk <;> omega
          have FIN := Lib.hid fin
          clear fin
          go_upto_region 9 with fail
          go_region_held3 (fun w' => w'.cell? ⟨wr.heap.size, 1, none⟩ = some (.int .i64 (n : Int)) ∧ w'.cell? ⟨wr.heap.size, 2, none⟩ = some (.int .i64 (c.ty : Int)) ∧ w'.cell? ⟨wr.heap.size, 3, none⟩ = some (.int .u64 (c.a : Int)) ∧ w'.cell? ⟨wr.heap.size, 4, none⟩ = some (.int .u64 (c.b : Int)) ∧ w'.cell? ⟨wr.heap.size, 5, none⟩ = some (.int .u64 (c.c : Int)) ∧ w'.cell? ⟨wr.heap.size, 6, none⟩ = some (.slice pd c.data.length cd))
            (first | exact HS6.out | exact HS.out _ (by repeat (first | exact Fr.refl _ _ | assumption | apply Fr.drew | apply Fr.alloc | refine Fr.trans ?_ (by assumption))))
            (first
              | (go_at_call 25; refine (frame_any _ c _ (HR.out.keep (Grow.bytes (by repeat (first | exact Fr.refl _ _ | assumption | apply Fr.drew | apply Fr.alloc | refine Fr.trans ?_ (by assumption))))) HCO.out).mono ?_; rintro e w5 ⟨p, fv, rfl, hp5, hG5, hf5⟩)
              | (go_at_call 24; refine (door_lost (N := 300) (HI4.out.growTo (by repeat (first | exact Fr.refl _ _ | assumption | apply Fr.drew | apply Fr.alloc | refine Fr.trans ?_ (by assumption)))).q HSO.out.all (by omega) n hn hf5 (fun e => by have := HI4.out.q.lt e; have hp6 : wa.heap.size ≤ p := hp5; omega)).mono ?_; rintro e w6 ⟨rfl, hq6⟩; obtain ⟨HS6, HE⟩ := FIN.out p w5 w6 (by repeat (first | exact Fr.refl _ _ | assumption | apply Fr.drew | apply Fr.alloc | refine Fr.trans ?_ (by assumption))) hp5 hq6; clear hq6))
          go_wp2_with fail
          go_meet
          exact HE
        | get n M =>
          have hkd : (Sp.get n M).kind = 1 := rfl
          obtain ⟨hn, hM⟩ := HXO.out
          have x1 : wa.cell? ⟨wr.heap.size, 1, none⟩ = some (.int .i64 (n : Int)) := HX0.out.cellAt 1 _ rfl
          have x7 : wa.cell? ⟨wr.heap.size, 7, none⟩ = some (.int .i64 (M : Int)) := HX0.out.cellAt 7 _ rfl
          have HGO := Lib.hid (get_ok HSO.out n M hn)
          go_upto_region 12 with (go_at_call 26; refine (door_get (N := 300) HI4.out.q HSO.out.all n M hn (by omega)).mono ?_; rintro e w2 ⟨ret, rfl, hq, hret⟩)
          have HM := Lib.hid (HI4.out.mid (Y := ⟨false, false, []⟩) hq (fun k hk => by have := HNW.out; have := HGa.out.size; omega) HY0.out ⟨none, 0, rfl, Nat.le_refl _, by omega, fun h => (h rfl).elim⟩)
          have hst2 : (st.step (.get n M)).2 = (st.get n M).2 := rfl
          have hst1 : (st.step (.get n M)).1 = match (st.get n M).1 with | none => ⟨false, false, []⟩ | some c => ⟨true, false, c.enc⟩ := rfl
          cases er : (st.get n M).1 with
          | none =>
            rw [er] at hst1
            have hrn := hret.1 er
            subst hrn
            have HF : Hid (PlayMid w0 w2 X (st.step (.get n M)).2 u2 ys (wr.heap.size + 1) (st.step (.get n M)).1) := Lib.hid (by rw [hst1]; exact HM.out)
            clear hret hq hst1 hst2 er x1 x7
            go_wp2_with fail
            go_meet
            exact HF
          | some c =>
            rw [er] at hst1
            obtain ⟨p, hf⟩ := hret.2 c er
            have hcok := HGO.out.2 c er
            obtain ⟨⟨F', hP2⟩, _⟩ := HM.out
            have hY2 : Blk w2 (wr.heap.size + 1) #[.bool false, .bool false, .slice none 0 0] 44 := by
              obtain ⟨F'', h1, h2, h3⟩ := hq
              exact h2.blk HY0.out (HI4.out.q.notBlk HY0.out rfl)
            obtain ⟨Ty, rfl⟩ := hf.ne
            have hpy : p ≠ wr.heap.size + 1 := fun e => by
              obtain ⟨C, T, hb, _, hT⟩ := hf.typed
              subst e
              rw [(hb.unique hY2).2] at hT
              cases hT
            have hf3 : FrC (w2.setCell ⟨wr.heap.size + 1, 0, none⟩ (.bool true)) p c (.iface Ty (pt p)) := hf.keep (Below.heap_setCell _ _ _ _ hpy) (Fr.bytes (S := fun j => j = wr.heap.size + 1) ((Fr.refl _ _).setCell _ _ (.inl rfl)) (fun j hj => by rw [show j = wr.heap.size + 1 from hj]; exact hY2.noBytes (by decide)))
            have HI5 := Lib.hid (inv_append hf3 hcok)
            have HP3 := Lib.hid (hP2.set hY2 HNW.out HNU.out 0 (.bool true))
            have HY3 : Hid (Blk (w2.setCell ⟨wr.heap.size + 1, 0, none⟩ (.bool true)) (wr.heap.size + 1) #[.bool true, .bool false, .slice none 0 0] 44) := Lib.hid (hY2.set 0 _)
            have q0 : w2.cell? ⟨wr.heap.size + 1, 0, none⟩ = some (.bool false) := hY2.cellAt 0 _ rfl
            have hlt2 := hY2.lt
            have hf2 := hY2.free
            have HS1 := Lib.hid hst1
            clear hret hq hst1 hst2 er x1 x7 hf hf3 hP2 hY2 hcok y0 y1 y2 hltX hltY hfY
            go_wp2_with (refine wpList_invoke2 rfl _ _ _ "Append" _ _ rfl HI5.out rfl rfl rfl ?_; rintro _ w4 ⟨bv, rfl, hbuf⟩; obtain ⟨_, pb, cb, rfl, _⟩ := id hbuf.1; have HBF := Lib.hid hbuf; have hY4 := hbuf.2.1.blk HY3.out (fun e => e); have z2 : w4.cell? ⟨wr.heap.size + 1, 2, none⟩ = some (.slice none 0 0) := hY4.cellAt 2 _ rfl; have hlt4 := hY4.lt; have hf4 := hY4.free; clear hbuf hY4)
            go_meet
            refine Lib.hid ?_
            rw [HS1.out]
            exact get_end HP3.out HBF.out HY3.out HNW.out HNU.out
        | has n =>
          have hkd : (Sp.has n).kind = 2 := rfl
          have hn : n ≤ 2 := HXO.out
          have x1 : wa.cell? ⟨wr.heap.size, 1, none⟩ = some (.int .i64 (n : Int)) := HX0.out.cellAt 1 _ rfl
          go_wp2_with (go_at_call 27; refine (door_has HI4.out.q n hn).mono ?_; rintro e w2 ⟨rfl, hG2⟩; have HG2 := Lib.hid hG2; have hY2 := hG2.blk HY0.out (fun e => e); have z1 : w2.cell? ⟨wr.heap.size + 1, 1, none⟩ = some (.bool false) := hY2.cellAt 1 _ rfl; have hlt2 := hY2.lt; have hf2 := hY2.free; clear hG2 hY2)
          go_meet
          have hY2 := HG2.out.blk HY0.out (fun e => e)
          refine Lib.hid ⟨⟨F, (HI4.out.growTo HG2.out).set hY2 HNW.out HNU.out 1 _⟩, .slice none 0 0, hY2.set 1 _, ⟨none, 0, rfl, Nat.le_refl _, by omega, fun h => (h rfl).elim⟩⟩
        | drop n =>
          have hkd : (Sp.drop n).kind = 3 := rfl
          have hn : n ≤ 1 := HXO.out
          have x1 : wa.cell? ⟨wr.heap.size, 1, none⟩ = some (.int .i64 (n : Int)) := HX0.out.cellAt 1 _ rfl
          go_wp2_with (go_at_call 28; refine (door_drop HI4.out.q n hn).mono ?_; rintro e w2 ⟨rfl, hq⟩; have HQ2 := Lib.hid hq; clear hq)
          go_meet
          exact Lib.hid (HI4.out.mid (Y := ⟨false, false, []⟩) HQ2.out (fun k hk => by have := HNW.out; have := HGa.out.size; omega) HY0.out ⟨none, 0, rfl, Nat.le_refl _, by omega, fun h => (h rfl).elim⟩)
      case rest =>
        obtain ⟨⟨F', hP⟩, ds, hC, hR⟩ := hcut.out
        obtain ⟨Y, hY⟩ : ∃ Y, Y = (st.step x).1 := ⟨_, rfl⟩
        have HN2 : Hid (St0.run (xs.take (i + 1)) = (st.step x).2 ∧ sees St0 (xs.take (i + 1)) = ys ++ [Y]) := Lib.hid (by rw [hY]; exact HN.out)
        rw [← hY] at hC hR
        clear hY hcut
        obtain ⟨Yi, Yh, Yf⟩ := Y
        obtain ⟨p3, c3, rfl, _⟩ := id hR
        have y0 : wc.cell? ⟨wr.heap.size + 1, 0, none⟩ = some (.bool Yi) := hC.cellAt 0 _ rfl
        have y1 : wc.cell? ⟨wr.heap.size + 1, 1, none⟩ = some (.bool Yh) := hC.cellAt 1 _ rfl
        have y2 : wc.cell? ⟨wr.heap.size + 1, 2, none⟩ = some (.slice p3 Yf.length c3) := hC.cellAt 2 _ rfl
        have hltY := hC.lt
        have HP := Lib.hid hP
        have HPa := Lib.hid (hP.growTo ((Fr.refl _ wc).alloc (.cells #[.bool Yi, .bool Yh, .slice p3 Yf.length c3] 44)))
        have HRa := Lib.hid (hR.keep (w' := wc.alloc (.cells #[.bool Yi, .bool Yh, .slice p3 Yf.length c3] 44)) (Grow.bytes ((Fr.refl _ wc).alloc _)))
        clear hP hC hR
        go_wp2_with (at_builtin; refine wpList_append_run _ rfl _ _ 39 rfl _ _ rfl rfl (run_appendSeen u2 ys ⟨Yi, Yh, Yf⟩ _ wc.heap.size HPa.out.seen (Blk.new wc _ _) (by omega) HRa.out) ?_; rintro v' w' ⟨g1, g2, g3⟩; have HE := Lib.hid (HPa.out.app g1 g2 g3); clear g1 g2 g3)
        go_roundg (gk - 1)
        case measure => omega
        case rel =>
          refine ⟨i + 1, F', by omega, by go_num, ?_⟩
          rw [HN2.out.1, HN2.out.2]
          exact HE
end Go.Proofs.Ytgdkbflhgcchfaa
