/- RQState.Step: the other acts. -/
import Derived.Test.YtgdkbflhgcchfaaB9
namespace Go.Proofs.Ytgdkbflhgcchfaa
open Go.RowKit

/-- What next leaves of the state. -/
def NextIn (w w' : World) (s n : Nat) (C : Array Value) (cv ov : Value) (L : Lv) : Prop :=
  ∃ cv' ov', Blk w' s ((C.setIfInBounds n cv').setIfInBounds (3 + n) ov') 54 ∧ RowC w' cv' L.1 ∧ RowO w' ov' L.2 ∧ cv'.ownBlock = cv.ownBlock ∧ ov'.ownBlock = ov.ownBlock ∧ Fr (fun k => k = s ∨ cv.ownBlock = some k) w w'
theorem next_none {w : World} {s n M : Nat} {C : Array Value} {cv ov : Value} {cs : List (Nat × List UInt8)} {os : List Ct} {f : FuncId} {args : Array Value} (er : (nextF M cs os).1 = none) (h : Calls Try.prog f args w fun e w' => ∃ ret, e = .returned ret ∧ NextOut w w' s n C M cv ov cs os ret) :
    Calls Try.prog f args w fun e w' => e = .returned (.tuple #[.slice none 0 0, .bool false]) ∧ NextIn w w' s n C cv ov (nextF M cs os).2 := by
  refine h.mono ?_
  rintro e w' ⟨ret, rfl, cv', ov', cs', os', r, h1, h2, h3, h4, h5, h6, hr, hr1, hr2⟩
  rw [hr] at er
  have er : r = none := er
  rw [hr1 er, hr]
  exact ⟨rfl, cv', ov', h1, h2, h3, h4, h5, h6⟩
theorem next_some {w : World} {s n M : Nat} {C : Array Value} {cv ov : Value} {cs : List (Nat × List UInt8)} {os : List Ct} {c : Ct} {f : FuncId} {args : Array Value} (er : (nextF M cs os).1 = some c) (h : Calls Try.prog f args w fun e w' => ∃ ret, e = .returned ret ∧ NextOut w w' s n C M cv ov cs os ret) :
    Calls Try.prog f args w fun e w' => ∃ v, e = .returned (.tuple #[v, .bool true]) ∧ Rd w' v c.enc ∧ NextIn w w' s n C cv ov (nextF M cs os).2 := by
  refine h.mono ?_
  rintro e w' ⟨ret, rfl, cv', ov', cs', os', r, h1, h2, h3, h4, h5, h6, hr, hr1, hr2⟩
  rw [hr] at er
  have er : r = some c := er
  obtain ⟨v, hv, hrd⟩ := hr2 c er
  rw [hv, hr]
  exact ⟨v, rfl, hrd, cv', ov', h1, h2, h3, h4, h5, h6⟩
theorem get_seen (st : St) (n M : Nat) : (st.step (.get n M)).1 = match (nextF M (lvD st n).1 (lvD st n).2).1 with | none => ⟨false, false, []⟩ | some c => ⟨true, false, c.enc⟩ := by
  have e : (st.get n M).1 = (nextF M (lvD st n).1 (lvD st n).2).1 := by
    unfold St.get lvD
    cases st.lv n <;> simp [nextF, nextO]
  simp only [St.step, e]
  cases (nextF M (lvD st n).1 (lvD st n).2).1 <;> rfl
theorem refget_end {w w2 W : World} {s n y M : Nat} {cv ov : Nat → Value} {st : St} {Y : Array Value} (h : RefE w s cv ov st) (hn : n < 3) (_ : RefE w2 s cv ov st) (hG : Grow w w2) (hY : Blk w2 y Y 44) (hi : NextIn w2 W s n (refC cv ov st) (cv n) (ov n) (nextF M (lvD st n).1 (lvD st n).2).2) : Blk W y Y 44 ∧ ROut w W s cv ov (st.get n M).2 := by
  obtain ⟨cv', ov', h1, h2, h3, h4, h5, h6⟩ := hi
  have hR2 := h.grow hG
  refine ⟨h6.blk hY (fun e => ?_), ?_⟩
  · have hk : RefR s cv ov y := e.elim .inl (fun e => .inr ⟨n, hn, .inl e⟩)
    obtain ⟨cur, T, f, hc, hT⟩ := hR2.typed y hk
    have := Option.some.inj (hc.symm.trans hY)
    injection this with _ x _
    subst x
    rcases hT with hT | hT | hT <;> exact absurd hT (by decide)
  · have hF : Fr (fun k => k = s ∨ (cv n).ownBlock = some k ∨ (ov n).ownBlock = some k) w W := (Grow.to hG).trans (h6.mono (fun k _ e => e.imp id .inl))
    cases hL : st.lv n with
    | none =>
      have hD : lvD st n = ([], []) := by simp [lvD, hL]
      have e1 : (st.get n M).2 = st := by simp [St.get, hL]
      rw [e1]
      rw [hD] at h2 h3
      exact h.upd hn h1 (L := ([], [])) (by simpa [nextF, nextO] using h2) (by simpa [nextF, nextO] using h3) hF (fun k e => .inl (h4 ▸ e)) (fun k e => .inl (h5 ▸ e)) (fun _ _ => rfl) hD (fun _ _ _ => rfl)
    | some L =>
      have hD : lvD st n = L := by simp [lvD, hL]
      have e1 : (st.get n M).2 = st.set n (nextF M L.1 L.2).2 := by simp [St.get, hL]
      rw [e1]
      rw [hD] at h2 h3
      obtain ⟨f1, f2, f3⟩ := set_facts st n L (nextF M L.1 L.2).2 hL hn
      exact h.upd hn h1 h2 h3 hF (fun k e => .inl (h4 ▸ e)) (fun k e => .inl (h5 ▸ e)) f1 f2 f3
theorem refdrop_end {w w2 W : World} {s n y : Nat} {cv ov : Nat → Value} {st : St} {Y : Array Value} (h : RefE w s cv ov st) (hn : n ≤ 1) (hG : Grow w w2) (hY : Blk w2 y Y 44) (hW : W = (((w2.setCell ⟨s, n, none⟩ (.slice none 0 0)).setCell ⟨s, 3 + n, none⟩ (.slice none 0 0)).setCell ⟨s, 6 + n, none⟩ (.bool true)).drew) : Blk W y Y 44 ∧ ROut w W s cv ov (st.drop n) := by
  subst hW
  have hB := (h.grow hG).blk
  have hys : y ≠ s := fun e => hY.ne_of_type hB (by decide) e
  refine ⟨(((hY.setOther _ _ hys).setOther _ _ hys).setOther _ _ hys).drew, ?_⟩
  have hF : Fr (fun k => k = s ∨ (cv n).ownBlock = some k ∨ (ov n).ownBlock = some k) w (((w2.setCell ⟨s, n, none⟩ (.slice none 0 0)).setCell ⟨s, 3 + n, none⟩ (.slice none 0 0)).setCell ⟨s, 6 + n, none⟩ (.bool true)).drew := ((((Grow.to hG).setCell _ _ (.inl (.inl rfl))).setCell _ _ (.inl (.inl rfl))).setCell _ _ (.inl (.inl rfl))).drew
  have hset := (((hB.set n (.slice none 0 0)).set (3 + n) (.slice none 0 0)).set (6 + n) (.bool true)).drew
  have hc : n = 0 ∨ n = 1 := by omega
  refine h.updG (L := ([], [])) (by omega) (c' := .slice none 0 0) (o' := .slice none 0 0) ?_ (RowAt.nil _) (RowAt.nil _) hF (fun _ e => nomatch e) (fun _ e => nomatch e) ?_ (fun i hi hne => ?_)
  · rcases hc with rfl | rfl
    · exact hset
    · exact hset
  · rcases hc with rfl | rfl <;> simp [St.drop, lvD, St.lv]
  · have h2 : i = 0 ∨ i = 1 ∨ i = 2 := by omega
    rcases hc with rfl | rfl <;> rcases h2 with rfl | rfl | rfl <;> simp [St.drop, St.lv, lvD] at hne ⊢

set_option maxRecDepth 100000 in
set_option maxHeartbeats 8000000 in
theorem step_dropped (w : World) (s n ty a b c3 m cd : Nat) (p : Option Addr) (cv ov : Nat → Value) (st : St) (h : RefE w s cv ov st) (hL : st.lv n = none) (hn : n < 3) :
    Calls Try.prog 12 #[pt s, .agg #[.int .i64 0, .int .i64 (n : Int), .int .i64 (ty : Int), .int .u64 (a : Int), .int .u64 (b : Int), .int .u64 (c3 : Int), .slice p m cd, .int .i64 0]] w fun e w' => (∃ d', e = .returned (.agg #[.bool false, .bool false, d']) ∧ Rd w' d' []) ∧ ROut w w' s cv ov st := by
  obtain ⟨k1, k2, k3⟩ := refC_get cv ov st hn
  go_enter Try.func12, Try.ntmps12
  go_upto_region 1 with fail
  have hG2 : Grow w ((w.alloc (.cells #[.int .i64 0, .int .i64 (n : Int), .int .i64 (ty : Int), .int .u64 (a : Int), .int .u64 (b : Int), .int .u64 (c3 : Int), .slice p m cd, .int .i64 0] 35)).alloc (.cells #[.bool false, .bool false, .slice none 0 0] 44)) := ((Fr.refl _ w).alloc _).alloc _
  have hX2 : Blk ((w.alloc (.cells #[.int .i64 0, .int .i64 (n : Int), .int .i64 (ty : Int), .int .u64 (a : Int), .int .u64 (b : Int), .int .u64 (c3 : Int), .slice p m cd, .int .i64 0] 35)).alloc (.cells #[.bool false, .bool false, .slice none 0 0] 44)) w.heap.size #[.int .i64 0, .int .i64 (n : Int), .int .i64 (ty : Int), .int .u64 (a : Int), .int .u64 (b : Int), .int .u64 (c3 : Int), .slice p m cd, .int .i64 0] 35 := (Blk.new w _ _).alloc _
  have hY2 : Blk ((w.alloc (.cells #[.int .i64 0, .int .i64 (n : Int), .int .i64 (ty : Int), .int .u64 (a : Int), .int .u64 (b : Int), .int .u64 (c3 : Int), .slice p m cd, .int .i64 0] 35)).alloc (.cells #[.bool false, .bool false, .slice none 0 0] 44)) (w.heap.size + 1) #[.bool false, .bool false, .slice none 0 0] 44 := Blk.newAt _ _ _ _ (by simp)
  generalize ((w.alloc (.cells #[.int .i64 0, .int .i64 (n : Int), .int .i64 (ty : Int), .int .u64 (a : Int), .int .u64 (b : Int), .int .u64 (c3 : Int), .slice p m cd, .int .i64 0] 35)).alloc (.cells #[.bool false, .bool false, .slice none 0 0] 44)) = w2 at *
  have HR := h.grow hG2
  have x0 : w2.cell? ⟨w.heap.size, 0, none⟩ = some (.int .i64 0) := hX2.cellAt 0 _ rfl
  have x1 : w2.cell? ⟨w.heap.size, 1, none⟩ = some (.int .i64 (n : Int)) := hX2.cellAt 1 _ rfl
  have x2 : w2.cell? ⟨w.heap.size, 2, none⟩ = some (.int .i64 (ty : Int)) := hX2.cellAt 2 _ rfl
  have x3 : w2.cell? ⟨w.heap.size, 3, none⟩ = some (.int .u64 (a : Int)) := hX2.cellAt 3 _ rfl
  have x4 : w2.cell? ⟨w.heap.size, 4, none⟩ = some (.int .u64 (b : Int)) := hX2.cellAt 4 _ rfl
  have x5 : w2.cell? ⟨w.heap.size, 5, none⟩ = some (.int .u64 (c3 : Int)) := hX2.cellAt 5 _ rfl
  have x6 : w2.cell? ⟨w.heap.size, 6, none⟩ = some (.slice p m cd) := hX2.cellAt 6 _ rfl
  have x7 : w2.cell? ⟨w.heap.size, 7, none⟩ = some (.int .i64 0) := hX2.cellAt 7 _ rfl
  have c0 : w2.cell? ⟨s, n, none⟩ = some (cv n) := HR.blk.cellAt n _ k1
  have c3 : w2.cell? ⟨s, 3 + n, none⟩ = some (ov n) := HR.blk.cellAt (3 + n) _ k2
  have c6 : w2.cell? ⟨s, 6 + n, none⟩ = some (.bool (st.lv n).isNone) := HR.blk.cellAt (6 + n) _ k3
  have y0 : w2.cell? ⟨w.heap.size + 1, 0, none⟩ = some (.bool false) := hY2.cellAt 0 _ rfl
  have y1 : w2.cell? ⟨w.heap.size + 1, 1, none⟩ = some (.bool false) := hY2.cellAt 1 _ rfl
  have y2 : w2.cell? ⟨w.heap.size + 1, 2, none⟩ = some (.slice none 0 0) := hY2.cellAt 2 _ rfl
  have hlX := hX2.lt
  have hlY := hY2.lt
  have hfY := hY2.free
  have hls := HR.blk.lt
  have hfs := HR.blk.free
  have H := Lib.hid (And.intro HR (And.intro hG2 (And.intro hX2 hY2)))
  have HK := Lib.hid (And.intro h (And.intro k1 k2))
  rw [hL] at c6
  clear h hL k1 k2 k3 hG2 hX2 hY2 HR
  go_wp2_with fail
  have hF : Fr (fun k => k = w.heap.size + 1) w2 (((w2.setCell ⟨w.heap.size + 1, 0, none⟩ (.bool false)).setCell ⟨w.heap.size + 1, 1, none⟩ (.bool false)).setCell ⟨w.heap.size + 1, 2, none⟩ (.slice none 0 0)) := ((((Fr.refl (fun k => k = w.heap.size + 1) w2).setCell ⟨w.heap.size + 1, 0, none⟩ _ (.inl rfl)).setCell ⟨w.heap.size + 1, 1, none⟩ _ (.inl rfl))).setCell ⟨w.heap.size + 1, 2, none⟩ _ (.inl rfl)
  have hW : Blk (((w2.setCell ⟨w.heap.size + 1, 0, none⟩ (.bool false)).setCell ⟨w.heap.size + 1, 1, none⟩ (.bool false)).setCell ⟨w.heap.size + 1, 2, none⟩ (.slice none 0 0)) (w.heap.size + 1) #[.bool false, .bool false, .slice none 0 0] 44 := ((H.out.2.2.2.set 0 (.bool false)).set 1 (.bool false)).set 2 (.slice none 0 0)
  have HF := Lib.hid ((show ROut w w2 s cv ov st from ⟨cv, ov, H.out.1, Grow.to H.out.2.1, fun _ e => .inl e⟩).keepY hF H.out.2.2.2 (Nat.le_succ _))
  have HFB := Lib.hid (hF.bytes (fun k hk => by rw [show k = w.heap.size + 1 from hk]; exact H.out.2.2.2.noBytes (by decide)))
  clear hF
  generalize (((w2.setCell ⟨w.heap.size + 1, 0, none⟩ (.bool false)).setCell ⟨w.heap.size + 1, 1, none⟩ (.bool false)).setCell ⟨w.heap.size + 1, 2, none⟩ (.slice none 0 0)) = W at *
  have z0 : W.cell? ⟨w.heap.size + 1, 0, none⟩ = some (.bool false) := hW.cellAt 0 _ rfl
  have z1 : W.cell? ⟨w.heap.size + 1, 1, none⟩ = some (.bool false) := hW.cellAt 1 _ rfl
  have z2 : W.cell? ⟨w.heap.size + 1, 2, none⟩ = some (.slice none 0 0) := hW.cellAt 2 _ rfl
  refine bodyPost_ret (v := .agg #[.bool false, .bool false, .slice none 0 0]) (by simp [results, Try.results12, go_sem, z0, z1, z2]) rfl ?_
  exact ⟨⟨_, rfl, ⟨none, 0, rfl, Nat.le_refl _, by omega, fun h => (h rfl).elim⟩⟩, HF.out⟩

set_option maxRecDepth 100000 in
set_option maxHeartbeats 8000000 in
theorem step_has (w : World) (s n m cd : Nat) (p : Option Addr) (cv ov : Nat → Value) (st : St) (h : RefE w s cv ov st) (hn : n < 3) (l1 l2 : Nat) (hl1 : (lvD st n).1.length = l1) (hl2 : (lvD st n).2.length = l2) (hl : l1 ≤ 1000 ∧ l2 ≤ 1000) :
    Calls Try.prog 12 #[pt s, .agg #[.int .i64 2, .int .i64 (n : Int), .int .i64 0, .int .u64 0, .int .u64 0, .int .u64 0, .slice p m cd, .int .i64 0]] w fun e w' => (∃ d', e = .returned (.agg #[.bool false, .bool (decide (0 < l1 + l2)), d']) ∧ Rd w' d' []) ∧ ROut w w' s cv ov st := by
  obtain ⟨pc, cc, hcv, _⟩ := (h.rowC n hn).slice
  obtain ⟨po, co, hov, _⟩ := (h.rowO n hn).slice
  obtain ⟨k1, k2, k3⟩ := refC_get cv ov st hn
  go_enter Try.func12, Try.ntmps12
  go_upto_region 1 with fail
  have hG2 : Grow w ((w.alloc (.cells #[.int .i64 2, .int .i64 (n : Int), .int .i64 0, .int .u64 0, .int .u64 0, .int .u64 0, .slice p m cd, .int .i64 0] 35)).alloc (.cells #[.bool false, .bool false, .slice none 0 0] 44)) := ((Fr.refl _ w).alloc _).alloc _
  have hX2 : Blk ((w.alloc (.cells #[.int .i64 2, .int .i64 (n : Int), .int .i64 0, .int .u64 0, .int .u64 0, .int .u64 0, .slice p m cd, .int .i64 0] 35)).alloc (.cells #[.bool false, .bool false, .slice none 0 0] 44)) w.heap.size #[.int .i64 2, .int .i64 (n : Int), .int .i64 0, .int .u64 0, .int .u64 0, .int .u64 0, .slice p m cd, .int .i64 0] 35 := (Blk.new w _ _).alloc _
  have hY2 : Blk ((w.alloc (.cells #[.int .i64 2, .int .i64 (n : Int), .int .i64 0, .int .u64 0, .int .u64 0, .int .u64 0, .slice p m cd, .int .i64 0] 35)).alloc (.cells #[.bool false, .bool false, .slice none 0 0] 44)) (w.heap.size + 1) #[.bool false, .bool false, .slice none 0 0] 44 := Blk.newAt _ _ _ _ (by simp)
  generalize ((w.alloc (.cells #[.int .i64 2, .int .i64 (n : Int), .int .i64 0, .int .u64 0, .int .u64 0, .int .u64 0, .slice p m cd, .int .i64 0] 35)).alloc (.cells #[.bool false, .bool false, .slice none 0 0] 44)) = w2 at *
  have HR := h.grow hG2
  have x0 : w2.cell? ⟨w.heap.size, 0, none⟩ = some (.int .i64 2) := hX2.cellAt 0 _ rfl
  have x1 : w2.cell? ⟨w.heap.size, 1, none⟩ = some (.int .i64 (n : Int)) := hX2.cellAt 1 _ rfl
  have x2 : w2.cell? ⟨w.heap.size, 2, none⟩ = some (.int .i64 0) := hX2.cellAt 2 _ rfl
  have x3 : w2.cell? ⟨w.heap.size, 3, none⟩ = some (.int .u64 0) := hX2.cellAt 3 _ rfl
  have x4 : w2.cell? ⟨w.heap.size, 4, none⟩ = some (.int .u64 0) := hX2.cellAt 4 _ rfl
  have x5 : w2.cell? ⟨w.heap.size, 5, none⟩ = some (.int .u64 0) := hX2.cellAt 5 _ rfl
  have x6 : w2.cell? ⟨w.heap.size, 6, none⟩ = some (.slice p m cd) := hX2.cellAt 6 _ rfl
  have x7 : w2.cell? ⟨w.heap.size, 7, none⟩ = some (.int .i64 0) := hX2.cellAt 7 _ rfl
  have c0 : w2.cell? ⟨s, n, none⟩ = some (cv n) := HR.blk.cellAt n _ k1
  have c3 : w2.cell? ⟨s, 3 + n, none⟩ = some (ov n) := HR.blk.cellAt (3 + n) _ k2
  have c6 : w2.cell? ⟨s, 6 + n, none⟩ = some (.bool (st.lv n).isNone) := HR.blk.cellAt (6 + n) _ k3
  have y0 : w2.cell? ⟨w.heap.size + 1, 0, none⟩ = some (.bool false) := hY2.cellAt 0 _ rfl
  have y1 : w2.cell? ⟨w.heap.size + 1, 1, none⟩ = some (.bool false) := hY2.cellAt 1 _ rfl
  have y2 : w2.cell? ⟨w.heap.size + 1, 2, none⟩ = some (.slice none 0 0) := hY2.cellAt 2 _ rfl
  have hlX := hX2.lt
  have hlY := hY2.lt
  have hfY := hY2.free
  have hls := HR.blk.lt
  have hfs := HR.blk.free
  have H := Lib.hid (And.intro HR (And.intro hG2 (And.intro hX2 hY2)))
  have HK := Lib.hid (And.intro h (And.intro k1 k2))
  rw [hcv] at c0
  rw [hov] at c3
  rw [hl1] at c0
  rw [hl2] at c3
  clear h k1 k2 k3 hG2 hX2 hY2 HR hcv hov hl1 hl2
  have hni : ((n : Int) < 3) = True := eq_true (by omega)
  have hsum : IntKind.i64.wrap ((l1 : Int) + (l2 : Int)) = ((l1 + l2 : Nat) : Int) := by rw [IntKind.wrap_i64]; omega
  go_upto_region 13 with fail
  go_region
  go_wp2_with fail
  have hF : Fr (fun k => k = w.heap.size + 1) w2 (((w2.setCell ⟨w.heap.size + 1, 0, none⟩ (.bool false)).setCell ⟨w.heap.size + 1, 1, none⟩ (.bool (decide (0 < (l1 : Int) + (l2 : Int))))).setCell ⟨w.heap.size + 1, 2, none⟩ (.slice none 0 0)).drew := Fr.drew (((((Fr.refl (fun k => k = w.heap.size + 1) w2).setCell ⟨w.heap.size + 1, 0, none⟩ _ (.inl rfl)).setCell ⟨w.heap.size + 1, 1, none⟩ _ (.inl rfl))).setCell ⟨w.heap.size + 1, 2, none⟩ _ (.inl rfl))
  have hW : Blk (((w2.setCell ⟨w.heap.size + 1, 0, none⟩ (.bool false)).setCell ⟨w.heap.size + 1, 1, none⟩ (.bool (decide (0 < (l1 : Int) + (l2 : Int))))).setCell ⟨w.heap.size + 1, 2, none⟩ (.slice none 0 0)).drew (w.heap.size + 1) #[.bool false, .bool (decide (0 < (l1 : Int) + (l2 : Int))), .slice none 0 0] 44 := Blk.drew ((((H.out.2.2.2.set 0 (.bool false)).set 1 (.bool (decide (0 < (l1 : Int) + (l2 : Int))))).set 2 (.slice none 0 0)))
  have HF := Lib.hid ((show ROut w w2 s cv ov st from ⟨cv, ov, H.out.1, Grow.to H.out.2.1, fun _ e => .inl e⟩).keepY hF H.out.2.2.2 (Nat.le_succ _))
  have HFB := Lib.hid (hF.bytes (fun k hk => by rw [show k = w.heap.size + 1 from hk]; exact H.out.2.2.2.noBytes (by decide)))
  clear hF
  generalize (((w2.setCell ⟨w.heap.size + 1, 0, none⟩ (.bool false)).setCell ⟨w.heap.size + 1, 1, none⟩ (.bool (decide (0 < (l1 : Int) + (l2 : Int))))).setCell ⟨w.heap.size + 1, 2, none⟩ (.slice none 0 0)).drew = W at *
  have z0 : W.cell? ⟨w.heap.size + 1, 0, none⟩ = some (.bool false) := hW.cellAt 0 _ rfl
  have z1 : W.cell? ⟨w.heap.size + 1, 1, none⟩ = some (.bool (decide (0 < (l1 : Int) + (l2 : Int)))) := hW.cellAt 1 _ rfl
  have z2 : W.cell? ⟨w.heap.size + 1, 2, none⟩ = some (.slice none 0 0) := hW.cellAt 2 _ rfl
  refine bodyPost_ret (v := .agg #[.bool false, .bool (decide (0 < (l1 : Int) + (l2 : Int))), .slice none 0 0]) (by simp [results, Try.results12, go_sem, z0, z1, z2]) rfl ?_
  refine ⟨⟨_, ?_, ⟨none, 0, rfl, Nat.le_refl _, by omega, fun h => (h rfl).elim⟩⟩, HF.out⟩
  rw [show decide (0 < (l1 : Int) + (l2 : Int)) = decide (0 < l1 + l2) from decide_eq_decide.2 (by omega)]
  rfl

set_option maxRecDepth 100000 in
set_option maxHeartbeats 8000000 in
theorem step_drop (w : World) (s n m cd : Nat) (p : Option Addr) (cv ov : Nat → Value) (st : St) (h : RefE w s cv ov st) (hn1 : n ≤ 1) :
    Calls Try.prog 12 #[pt s, .agg #[.int .i64 3, .int .i64 (n : Int), .int .i64 0, .int .u64 0, .int .u64 0, .int .u64 0, .slice p m cd, .int .i64 0]] w fun e w' => (∃ d', e = .returned (.agg #[.bool false, .bool false, d']) ∧ Rd w' d' []) ∧ ROut w w' s cv ov (st.drop n) := by
  have hn : n < 3 := by omega
  obtain ⟨k1, k2, k3⟩ := refC_get cv ov st hn
  go_enter Try.func12, Try.ntmps12
  go_upto_region 1 with fail
  have hG2 : Grow w ((w.alloc (.cells #[.int .i64 3, .int .i64 (n : Int), .int .i64 0, .int .u64 0, .int .u64 0, .int .u64 0, .slice p m cd, .int .i64 0] 35)).alloc (.cells #[.bool false, .bool false, .slice none 0 0] 44)) := ((Fr.refl _ w).alloc _).alloc _
  have hX2 : Blk ((w.alloc (.cells #[.int .i64 3, .int .i64 (n : Int), .int .i64 0, .int .u64 0, .int .u64 0, .int .u64 0, .slice p m cd, .int .i64 0] 35)).alloc (.cells #[.bool false, .bool false, .slice none 0 0] 44)) w.heap.size #[.int .i64 3, .int .i64 (n : Int), .int .i64 0, .int .u64 0, .int .u64 0, .int .u64 0, .slice p m cd, .int .i64 0] 35 := (Blk.new w _ _).alloc _
  have hY2 : Blk ((w.alloc (.cells #[.int .i64 3, .int .i64 (n : Int), .int .i64 0, .int .u64 0, .int .u64 0, .int .u64 0, .slice p m cd, .int .i64 0] 35)).alloc (.cells #[.bool false, .bool false, .slice none 0 0] 44)) (w.heap.size + 1) #[.bool false, .bool false, .slice none 0 0] 44 := Blk.newAt _ _ _ _ (by simp)
  generalize ((w.alloc (.cells #[.int .i64 3, .int .i64 (n : Int), .int .i64 0, .int .u64 0, .int .u64 0, .int .u64 0, .slice p m cd, .int .i64 0] 35)).alloc (.cells #[.bool false, .bool false, .slice none 0 0] 44)) = w2 at *
  have HR := h.grow hG2
  have x0 : w2.cell? ⟨w.heap.size, 0, none⟩ = some (.int .i64 3) := hX2.cellAt 0 _ rfl
  have x1 : w2.cell? ⟨w.heap.size, 1, none⟩ = some (.int .i64 (n : Int)) := hX2.cellAt 1 _ rfl
  have x2 : w2.cell? ⟨w.heap.size, 2, none⟩ = some (.int .i64 0) := hX2.cellAt 2 _ rfl
  have x3 : w2.cell? ⟨w.heap.size, 3, none⟩ = some (.int .u64 0) := hX2.cellAt 3 _ rfl
  have x4 : w2.cell? ⟨w.heap.size, 4, none⟩ = some (.int .u64 0) := hX2.cellAt 4 _ rfl
  have x5 : w2.cell? ⟨w.heap.size, 5, none⟩ = some (.int .u64 0) := hX2.cellAt 5 _ rfl
  have x6 : w2.cell? ⟨w.heap.size, 6, none⟩ = some (.slice p m cd) := hX2.cellAt 6 _ rfl
  have x7 : w2.cell? ⟨w.heap.size, 7, none⟩ = some (.int .i64 0) := hX2.cellAt 7 _ rfl
  have c0 : w2.cell? ⟨s, n, none⟩ = some (cv n) := HR.blk.cellAt n _ k1
  have c3 : w2.cell? ⟨s, 3 + n, none⟩ = some (ov n) := HR.blk.cellAt (3 + n) _ k2
  have c6 : w2.cell? ⟨s, 6 + n, none⟩ = some (.bool (st.lv n).isNone) := HR.blk.cellAt (6 + n) _ k3
  have y0 : w2.cell? ⟨w.heap.size + 1, 0, none⟩ = some (.bool false) := hY2.cellAt 0 _ rfl
  have y1 : w2.cell? ⟨w.heap.size + 1, 1, none⟩ = some (.bool false) := hY2.cellAt 1 _ rfl
  have y2 : w2.cell? ⟨w.heap.size + 1, 2, none⟩ = some (.slice none 0 0) := hY2.cellAt 2 _ rfl
  have hlX := hX2.lt
  have hlY := hY2.lt
  have hfY := hY2.free
  have hls := HR.blk.lt
  have hfs := HR.blk.free
  have H := Lib.hid (And.intro HR (And.intro hG2 (And.intro hX2 hY2)))
  have HK := Lib.hid (And.intro h (And.intro k1 k2))
  clear h k1 k2 k3 hG2 hX2 hY2 HR
  have hni : ((n : Int) < 3) = True := eq_true (by omega)
  go_upto_region 15 with fail
  go_region
  have HZ := Lib.hid (refdrop_end HK.out.1 hn1 H.out.2.1 H.out.2.2.2 rfl)
  generalize (((w2.setCell ⟨s, n, none⟩ (.slice none 0 0)).setCell ⟨s, 3 + n, none⟩ (.slice none 0 0)).setCell ⟨s, 6 + n, none⟩ (.bool true)).drew = w3 at *
  have hY := HZ.out.1
  clear y0 y1 y2 hlY hfY
  have q0 : w3.cell? ⟨w.heap.size + 1, 0, none⟩ = some (.bool false) := hY.cellAt 0 _ rfl
  have q1 : w3.cell? ⟨w.heap.size + 1, 1, none⟩ = some (.bool false) := hY.cellAt 1 _ rfl
  have q2 : w3.cell? ⟨w.heap.size + 1, 2, none⟩ = some (.slice none 0 0) := hY.cellAt 2 _ rfl
  have hltY := hY.lt
  have hfrY := hY.free
  clear hY
  go_wp2_with fail
  have hF : Fr (fun k => k = w.heap.size + 1) w3 (((w3.setCell ⟨w.heap.size + 1, 0, none⟩ (.bool false)).setCell ⟨w.heap.size + 1, 1, none⟩ (.bool false)).setCell ⟨w.heap.size + 1, 2, none⟩ (.slice none 0 0)) := ((((Fr.refl (fun k => k = w.heap.size + 1) w3).setCell ⟨w.heap.size + 1, 0, none⟩ _ (.inl rfl)).setCell ⟨w.heap.size + 1, 1, none⟩ _ (.inl rfl))).setCell ⟨w.heap.size + 1, 2, none⟩ _ (.inl rfl)
  have hW : Blk (((w3.setCell ⟨w.heap.size + 1, 0, none⟩ (.bool false)).setCell ⟨w.heap.size + 1, 1, none⟩ (.bool false)).setCell ⟨w.heap.size + 1, 2, none⟩ (.slice none 0 0)) (w.heap.size + 1) #[.bool false, .bool false, .slice none 0 0] 44 := ((HZ.out.1.set 0 (.bool false)).set 1 (.bool false)).set 2 (.slice none 0 0)
  have HF := Lib.hid (HZ.out.2.keepY hF HZ.out.1 (Nat.le_succ _))
  have HFB := Lib.hid (hF.bytes (fun k hk => by rw [show k = w.heap.size + 1 from hk]; exact HZ.out.1.noBytes (by decide)))
  clear hF
  generalize (((w3.setCell ⟨w.heap.size + 1, 0, none⟩ (.bool false)).setCell ⟨w.heap.size + 1, 1, none⟩ (.bool false)).setCell ⟨w.heap.size + 1, 2, none⟩ (.slice none 0 0)) = W at *
  have z0 : W.cell? ⟨w.heap.size + 1, 0, none⟩ = some (.bool false) := hW.cellAt 0 _ rfl
  have z1 : W.cell? ⟨w.heap.size + 1, 1, none⟩ = some (.bool false) := hW.cellAt 1 _ rfl
  have z2 : W.cell? ⟨w.heap.size + 1, 2, none⟩ = some (.slice none 0 0) := hW.cellAt 2 _ rfl
  refine bodyPost_ret (v := .agg #[.bool false, .bool false, .slice none 0 0]) (by simp [results, Try.results12, go_sem, z0, z1, z2]) rfl ?_
  exact ⟨⟨_, rfl, ⟨none, 0, rfl, Nat.le_refl _, by omega, fun h => (h rfl).elim⟩⟩, HF.out⟩

set_option maxRecDepth 100000 in
set_option maxHeartbeats 8000000 in
theorem step_get (w : World) (s n m cd M : Nat) (p : Option Addr) (cv ov : Nat → Value) (st : St) (h : RefE w s cv ov st) (hn : n < 3) (hM : M ≤ 100000) (hcb : ∀ x ∈ (lvD st n).1, x.1 + x.2.length ≤ 10000000000 ∧ x.2.length ≤ 400) :
    Calls Try.prog 12 #[pt s, .agg #[.int .i64 1, .int .i64 (n : Int), .int .i64 0, .int .u64 0, .int .u64 0, .int .u64 0, .slice p m cd, .int .i64 (M : Int)]] w fun e w' => (∃ d', e = .returned (.agg #[.bool (st.step (.get n M)).1.is, .bool (st.step (.get n M)).1.has, d']) ∧ Rd w' d' (st.step (.get n M)).1.frame) ∧ ROut w w' s cv ov (st.get n M).2 := by
  obtain ⟨k1, k2, k3⟩ := refC_get cv ov st hn
  go_enter Try.func12, Try.ntmps12
  go_upto_region 1 with fail
  have hG2 : Grow w ((w.alloc (.cells #[.int .i64 1, .int .i64 (n : Int), .int .i64 0, .int .u64 0, .int .u64 0, .int .u64 0, .slice p m cd, .int .i64 (M : Int)] 35)).alloc (.cells #[.bool false, .bool false, .slice none 0 0] 44)) := ((Fr.refl _ w).alloc _).alloc _
  have hX2 : Blk ((w.alloc (.cells #[.int .i64 1, .int .i64 (n : Int), .int .i64 0, .int .u64 0, .int .u64 0, .int .u64 0, .slice p m cd, .int .i64 (M : Int)] 35)).alloc (.cells #[.bool false, .bool false, .slice none 0 0] 44)) w.heap.size #[.int .i64 1, .int .i64 (n : Int), .int .i64 0, .int .u64 0, .int .u64 0, .int .u64 0, .slice p m cd, .int .i64 (M : Int)] 35 := (Blk.new w _ _).alloc _
  have hY2 : Blk ((w.alloc (.cells #[.int .i64 1, .int .i64 (n : Int), .int .i64 0, .int .u64 0, .int .u64 0, .int .u64 0, .slice p m cd, .int .i64 (M : Int)] 35)).alloc (.cells #[.bool false, .bool false, .slice none 0 0] 44)) (w.heap.size + 1) #[.bool false, .bool false, .slice none 0 0] 44 := Blk.newAt _ _ _ _ (by simp)
  generalize ((w.alloc (.cells #[.int .i64 1, .int .i64 (n : Int), .int .i64 0, .int .u64 0, .int .u64 0, .int .u64 0, .slice p m cd, .int .i64 (M : Int)] 35)).alloc (.cells #[.bool false, .bool false, .slice none 0 0] 44)) = w2 at *
  have HR := h.grow hG2
  have x0 : w2.cell? ⟨w.heap.size, 0, none⟩ = some (.int .i64 1) := hX2.cellAt 0 _ rfl
  have x1 : w2.cell? ⟨w.heap.size, 1, none⟩ = some (.int .i64 (n : Int)) := hX2.cellAt 1 _ rfl
  have x2 : w2.cell? ⟨w.heap.size, 2, none⟩ = some (.int .i64 0) := hX2.cellAt 2 _ rfl
  have x3 : w2.cell? ⟨w.heap.size, 3, none⟩ = some (.int .u64 0) := hX2.cellAt 3 _ rfl
  have x4 : w2.cell? ⟨w.heap.size, 4, none⟩ = some (.int .u64 0) := hX2.cellAt 4 _ rfl
  have x5 : w2.cell? ⟨w.heap.size, 5, none⟩ = some (.int .u64 0) := hX2.cellAt 5 _ rfl
  have x6 : w2.cell? ⟨w.heap.size, 6, none⟩ = some (.slice p m cd) := hX2.cellAt 6 _ rfl
  have x7 : w2.cell? ⟨w.heap.size, 7, none⟩ = some (.int .i64 (M : Int)) := hX2.cellAt 7 _ rfl
  have c0 : w2.cell? ⟨s, n, none⟩ = some (cv n) := HR.blk.cellAt n _ k1
  have c3 : w2.cell? ⟨s, 3 + n, none⟩ = some (ov n) := HR.blk.cellAt (3 + n) _ k2
  have c6 : w2.cell? ⟨s, 6 + n, none⟩ = some (.bool (st.lv n).isNone) := HR.blk.cellAt (6 + n) _ k3
  have y0 : w2.cell? ⟨w.heap.size + 1, 0, none⟩ = some (.bool false) := hY2.cellAt 0 _ rfl
  have y1 : w2.cell? ⟨w.heap.size + 1, 1, none⟩ = some (.bool false) := hY2.cellAt 1 _ rfl
  have y2 : w2.cell? ⟨w.heap.size + 1, 2, none⟩ = some (.slice none 0 0) := hY2.cellAt 2 _ rfl
  have hlX := hX2.lt
  have hlY := hY2.lt
  have hfY := hY2.free
  have hls := HR.blk.lt
  have hfs := HR.blk.free
  have H := Lib.hid (And.intro HR (And.intro hG2 (And.intro hX2 hY2)))
  have HK := Lib.hid (And.intro h (And.intro k1 k2))
  have HN := Lib.hid (next_any w2 s n M _ (cv n) (ov n) _ _ HR.blk k1 k2 hn (HR.rowC n hn) (HR.rowO n hn) hM hcb)
  have HE : Hid (∀ (W : World), NextIn w2 W s n (refC cv ov st) (cv n) (ov n) (nextF M (lvD st n).1 (lvD st n).2).2 → Hid (Blk W (w.heap.size + 1) #[.bool false, .bool false, .slice none 0 0] 44 ∧ ROut w W s cv ov (st.get n M).2)) := Lib.hid fun W hi => Lib.hid (refget_end h hn HR hG2 hY2 hi)
  cases er : (nextF M (lvD st n).1 (lvD st n).2).1 with
  | none =>
    have HC := Lib.hid (next_none er HN.out)
    have HS : Hid ((st.step (.get n M)).1 = ⟨false, false, []⟩) := Lib.hid (by rw [get_seen, er])
    clear h k1 k2 k3 hG2 hX2 hY2 HR hcb er
    go_upto_region 11 with (go_at_call 20; refine HC.out.mono ?_; rintro e w3 ⟨rfl, hi⟩; have HZ := HE.out w3 hi; clear hi)
    have hY := HZ.out.1
    have q0 : w3.cell? ⟨w.heap.size + 1, 0, none⟩ = some (.bool false) := hY.cellAt 0 _ rfl
    have q1 : w3.cell? ⟨w.heap.size + 1, 1, none⟩ = some (.bool false) := hY.cellAt 1 _ rfl
    have q2 : w3.cell? ⟨w.heap.size + 1, 2, none⟩ = some (.slice none 0 0) := hY.cellAt 2 _ rfl
    have hltY := hY.lt
    have hfrY := hY.free
    clear hY
    go_wp2_with fail
    have hF : Fr (fun k => k = w.heap.size + 1) w3 (((w3.setCell ⟨w.heap.size + 1, 0, none⟩ (.bool false)).setCell ⟨w.heap.size + 1, 1, none⟩ (.bool false)).setCell ⟨w.heap.size + 1, 2, none⟩ (.slice none 0 0)) := ((((Fr.refl (fun k => k = w.heap.size + 1) w3).setCell ⟨w.heap.size + 1, 0, none⟩ _ (.inl rfl)).setCell ⟨w.heap.size + 1, 1, none⟩ _ (.inl rfl))).setCell ⟨w.heap.size + 1, 2, none⟩ _ (.inl rfl)
    have hW : Blk (((w3.setCell ⟨w.heap.size + 1, 0, none⟩ (.bool false)).setCell ⟨w.heap.size + 1, 1, none⟩ (.bool false)).setCell ⟨w.heap.size + 1, 2, none⟩ (.slice none 0 0)) (w.heap.size + 1) #[.bool false, .bool false, .slice none 0 0] 44 := ((HZ.out.1.set 0 (.bool false)).set 1 (.bool false)).set 2 (.slice none 0 0)
    have HF := Lib.hid (HZ.out.2.keepY hF HZ.out.1 (Nat.le_succ _))
    have HFB := Lib.hid (hF.bytes (fun k hk => by rw [show k = w.heap.size + 1 from hk]; exact HZ.out.1.noBytes (by decide)))
    clear hF
    generalize (((w3.setCell ⟨w.heap.size + 1, 0, none⟩ (.bool false)).setCell ⟨w.heap.size + 1, 1, none⟩ (.bool false)).setCell ⟨w.heap.size + 1, 2, none⟩ (.slice none 0 0)) = W at *
    have z0 : W.cell? ⟨w.heap.size + 1, 0, none⟩ = some (.bool false) := hW.cellAt 0 _ rfl
    have z1 : W.cell? ⟨w.heap.size + 1, 1, none⟩ = some (.bool false) := hW.cellAt 1 _ rfl
    have z2 : W.cell? ⟨w.heap.size + 1, 2, none⟩ = some (.slice none 0 0) := hW.cellAt 2 _ rfl
    refine bodyPost_ret (v := .agg #[.bool false, .bool false, .slice none 0 0]) (by simp [results, Try.results12, go_sem, z0, z1, z2]) rfl ?_
    rw [HS.out]
    exact ⟨⟨_, rfl, ⟨none, 0, rfl, Nat.le_refl _, by omega, fun h => (h rfl).elim⟩⟩, HF.out⟩
  | some c =>
    have HC := Lib.hid (next_some er HN.out)
    have HS : Hid ((st.step (.get n M)).1 = ⟨true, false, c.enc⟩) := Lib.hid (by rw [get_seen, er])
    clear h k1 k2 k3 hG2 hX2 hY2 HR hcb er
    go_upto_region 11 with (go_at_call 20; refine HC.out.mono ?_; rintro e w3 ⟨v, rfl, hv, hi⟩; obtain ⟨pv, cw, rfl, _⟩ := id hv; have HV := Lib.hid hv; have HZ := HE.out w3 hi; clear hi hv)
    have hY := HZ.out.1
    have q0 : w3.cell? ⟨w.heap.size + 1, 0, none⟩ = some (.bool false) := hY.cellAt 0 _ rfl
    have q1 : w3.cell? ⟨w.heap.size + 1, 1, none⟩ = some (.bool false) := hY.cellAt 1 _ rfl
    have q2 : w3.cell? ⟨w.heap.size + 1, 2, none⟩ = some (.slice none 0 0) := hY.cellAt 2 _ rfl
    have hltY := hY.lt
    have hfrY := hY.free
    clear hY
    go_wp2_with fail
    have hF : Fr (fun k => k = w.heap.size + 1) w3 (((w3.setCell ⟨w.heap.size + 1, 0, none⟩ (.bool true)).setCell ⟨w.heap.size + 1, 1, none⟩ (.bool false)).setCell ⟨w.heap.size + 1, 2, none⟩ (.slice pv c.enc.length cw)) := ((((Fr.refl (fun k => k = w.heap.size + 1) w3).setCell ⟨w.heap.size + 1, 0, none⟩ _ (.inl rfl)).setCell ⟨w.heap.size + 1, 1, none⟩ _ (.inl rfl))).setCell ⟨w.heap.size + 1, 2, none⟩ _ (.inl rfl)
    have hW : Blk (((w3.setCell ⟨w.heap.size + 1, 0, none⟩ (.bool true)).setCell ⟨w.heap.size + 1, 1, none⟩ (.bool false)).setCell ⟨w.heap.size + 1, 2, none⟩ (.slice pv c.enc.length cw)) (w.heap.size + 1) #[.bool true, .bool false, .slice pv c.enc.length cw] 44 := ((HZ.out.1.set 0 (.bool true)).set 1 (.bool false)).set 2 (.slice pv c.enc.length cw)
    have HF := Lib.hid (HZ.out.2.keepY hF HZ.out.1 (Nat.le_succ _))
    have HFB := Lib.hid (hF.bytes (fun k hk => by rw [show k = w.heap.size + 1 from hk]; exact HZ.out.1.noBytes (by decide)))
    clear hF
    generalize (((w3.setCell ⟨w.heap.size + 1, 0, none⟩ (.bool true)).setCell ⟨w.heap.size + 1, 1, none⟩ (.bool false)).setCell ⟨w.heap.size + 1, 2, none⟩ (.slice pv c.enc.length cw)) = W at *
    have z0 : W.cell? ⟨w.heap.size + 1, 0, none⟩ = some (.bool true) := hW.cellAt 0 _ rfl
    have z1 : W.cell? ⟨w.heap.size + 1, 1, none⟩ = some (.bool false) := hW.cellAt 1 _ rfl
    have z2 : W.cell? ⟨w.heap.size + 1, 2, none⟩ = some (.slice pv c.enc.length cw) := hW.cellAt 2 _ rfl
    refine bodyPost_ret (v := .agg #[.bool true, .bool false, .slice pv c.enc.length cw]) (by simp [results, Try.results12, go_sem, z0, z1, z2]) rfl ?_
    rw [HS.out]
    exact ⟨⟨_, rfl, HV.out.keep HFB.out⟩, HF.out⟩
end Go.Proofs.Ytgdkbflhgcchfaa
