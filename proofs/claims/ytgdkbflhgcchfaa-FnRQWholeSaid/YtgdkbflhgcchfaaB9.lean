/- The reference's state and its acts. -/
import Derived.Test.YtgdkbflhgcchfaaB8
namespace Go.Proofs.Ytgdkbflhgcchfaa
open Go.RowKit

def lvD (st : St) (n : Nat) : Lv := (st.lv n).getD ([], [])
abbrev refC (cv ov : Nat → Value) (st : St) : Array Value := #[cv 0, cv 1, cv 2, ov 0, ov 1, ov 2, .bool (st.lv 0).isNone, .bool (st.lv 1).isNone, .bool (st.lv 2).isNone]
/-- THE REFERENCE'S STATE at block s; R is what it reaches (but for bytes). -/
structure RefE (w : World) (s : Nat) (cv ov : Nat → Value) (st : St) : Prop where
  blk : Blk w s (refC cv ov st) 54
  rowC : ∀ i, i < 3 → RowC w (cv i) (lvD st i).1
  rowO : ∀ i, i < 3 → RowO w (ov i) (lvD st i).2
  apC : ∀ i j, i < 3 → j < 3 → i ≠ j → ∀ k, (cv i).ownBlock = some k → (cv j).ownBlock ≠ some k
  apO : ∀ i j, i < 3 → j < 3 → i ≠ j → ∀ k, (ov i).ownBlock = some k → (ov j).ownBlock ≠ some k
def RefR (s : Nat) (cv ov : Nat → Value) (k : Nat) : Prop := k = s ∨ ∃ i, i < 3 ∧ ((cv i).ownBlock = some k ∨ (ov i).ownBlock = some k)
def RefAt (w : World) (s : Nat) (R : Nat → Prop) (st : St) : Prop := ∃ cv ov, RefE w s cv ov st ∧ ∀ k, R k ↔ RefR s cv ov k
section
variable {w w' : World} {s n : Nat} {cv ov : Nat → Value} {st : St}
theorem RefE.typed (h : RefE w s cv ov st) : ∀ k, RefR s cv ov k → ∃ cur T f, w.heap[k]? = some (Obj.cells cur T f) ∧ (T = 54 ∨ T = 73 ∨ T = 31) := by
  rintro k (rfl | ⟨i, hi, e | e⟩)
  · exact ⟨_, _, _, h.blk, .inl rfl⟩
  · obtain ⟨cur, f, hc⟩ := (h.rowC i hi).1 k e; exact ⟨cur, _, f, hc, .inr (.inl rfl)⟩
  · obtain ⟨cur, f, hc⟩ := (h.rowO i hi).1 k e; exact ⟨cur, _, f, hc, .inr (.inr rfl)⟩
theorem RefE.keep (h : RefE w s cv ov st) (hF : ∀ k, RefR s cv ov k → w'.heap[k]? = w.heap[k]?) (hk : KeepB w w') : RefE w' s cv ov st :=
  ⟨h.blk.same (hF s (.inl rfl)), fun i hi => (h.rowC i hi).keep (fun k e => hF k (.inr ⟨i, hi, .inl e⟩)) hk, fun i hi => (h.rowO i hi).keep (fun k e => hF k (.inr ⟨i, hi, .inr e⟩)) hk, h.apC, h.apO⟩
theorem RefE.grow (h : RefE w s cv ov st) (hG : Grow w w') : RefE w' s cv ov st :=
  h.keep (fun k hk => by
    obtain ⟨cur, T, f, hc, _⟩ := h.typed k hk
    exact hG.block k (Array.getElem?_eq_some_iff.1 hc).1 (fun e => e)) hG.bytes
/-- What an act leaves. -/
def ROut (w w' : World) (s : Nat) (cv ov : Nat → Value) (st' : St) : Prop := ∃ cv' ov', RefE w' s cv' ov' st' ∧ Fr (RefR s cv ov) w w' ∧ ∀ k, RefR s cv' ov' k → RefR s cv ov k ∨ w.heap.size ≤ k
/-- A new state of level n. -/
theorem RefE.updG (h : RefE w s cv ov st) (hn : n < 3) {c' o' : Value} {L : Lv} {st' : St} (hB : Blk w' s (refC (fun i => if i = n then c' else cv i) (fun i => if i = n then o' else ov i) st') 54) (hC : RowC w' c' L.1) (hO : RowO w' o' L.2)
    (hF : Fr (fun k => k = s ∨ (cv n).ownBlock = some k ∨ (ov n).ownBlock = some k) w w') (hc : ∀ k, c'.ownBlock = some k → (cv n).ownBlock = some k ∨ w.heap.size ≤ k) (ho : ∀ k, o'.ownBlock = some k → (ov n).ownBlock = some k ∨ w.heap.size ≤ k)
    (hL : lvD st' n = L) (hoth : ∀ i, i < 3 → i ≠ n → lvD st' i = lvD st i) : ROut w w' s cv ov st' := by
  have hlC : ∀ i, i < 3 → ∀ k, (cv i).ownBlock = some k → k < w.heap.size := fun i hi k e => (h.rowC i hi).lt e
  have hlO : ∀ i, i < 3 → ∀ k, (ov i).ownBlock = some k → k < w.heap.size := fun i hi k e => (h.rowO i hi).lt e
  have hkb : KeepB w w' := hF.bytes (fun k hk hb => by
    obtain ⟨cur, T, f, hc, hT⟩ := h.typed k (by
      rcases hk with e | e | e
      · exact .inl e
      · exact .inr ⟨n, hn, .inl e⟩
      · exact .inr ⟨n, hn, .inr e⟩)
    obtain ⟨c, f', hb⟩ := hb
    have := Option.some.inj (hc.symm.trans hb)
    injection this with _ x _
    subst x
    rcases hT with hT | hT | hT <;> exact absurd hT (by decide))
  have ne : ∀ (k : Nat) (cur cur' : Array Value) (T T' : TypeId) (f f' : Nat × Nat), w.heap[k]? = some (Obj.cells cur T f) → w.heap[k]? = some (Obj.cells cur' T' f') → T = T' := fun k cur cur' T T' f f' h1 h2 => by
    have := Option.some.inj (h1.symm.trans h2)
    injection this with _ x _
  refine ⟨fun i => if i = n then c' else cv i, fun i => if i = n then o' else ov i, ⟨?_, fun i hi => ?_, fun i hi => ?_, fun i j hi hj hij k e => ?_, fun i j hi hj hij k e => ?_⟩, hF.mono (fun k _ e => ?_), fun k hk => ?_⟩
  · exact hB
  · by_cases e : i = n
    · subst e; simp only [if_true]; rw [hL]; exact hC
    · rw [if_neg e, hoth i hi e]
      refine (h.rowC i hi).keep (fun k hk => hF.block k (hlC i hi k hk) ?_) hkb
      obtain ⟨cur, f, hc⟩ := (h.rowC i hi).1 k hk
      rintro (e2 | e2 | e2)
      · subst e2; exact absurd (ne _ _ _ _ _ _ _ hc h.blk) (by decide)
      · exact h.apC i n hi hn e k hk e2
      · obtain ⟨cur', f', hc'⟩ := (h.rowO n hn).1 k e2
        exact absurd (ne _ _ _ _ _ _ _ hc hc') (by decide)
  · by_cases e : i = n
    · subst e; simp only [if_true]; rw [hL]; exact hO
    · rw [if_neg e, hoth i hi e]
      refine (h.rowO i hi).keep (fun k hk => hF.block k (hlO i hi k hk) ?_) hkb
      obtain ⟨cur, f, hc⟩ := (h.rowO i hi).1 k hk
      rintro (e2 | e2 | e2)
      · subst e2; exact absurd (ne _ _ _ _ _ _ _ hc h.blk) (by decide)
      · obtain ⟨cur', f', hc'⟩ := (h.rowC n hn).1 k e2
        exact absurd (ne _ _ _ _ _ _ _ hc hc') (by decide)
      · exact h.apO i n hi hn e k hk e2
  · by_cases ei : i = n
    · subst ei
      simp only [if_true] at e
      rw [if_neg (Ne.symm hij)]
      rcases hc k e with e2 | e2
      · exact h.apC i j hi hj hij k e2
      · exact fun e3 => by have := hlC j hj k e3; omega
    · rw [if_neg ei] at e
      by_cases ej : j = n
      · subst ej
        simp only [if_true]
        intro e3
        rcases hc k e3 with e2 | e2
        · exact h.apC i j hi hj hij k e e2
        · have := hlC i hi k e; omega
      · rw [if_neg ej]; exact h.apC i j hi hj hij k e
  · by_cases ei : i = n
    · subst ei
      simp only [if_true] at e
      rw [if_neg (Ne.symm hij)]
      rcases ho k e with e2 | e2
      · exact h.apO i j hi hj hij k e2
      · exact fun e3 => by have := hlO j hj k e3; omega
    · rw [if_neg ei] at e
      by_cases ej : j = n
      · subst ej
        simp only [if_true]
        intro e3
        rcases ho k e3 with e2 | e2
        · exact h.apO i j hi hj hij k e e2
        · have := hlO i hi k e; omega
      · rw [if_neg ej]; exact h.apO i j hi hj hij k e
  · rcases e with e | e | e
    · exact .inl e
    · exact .inr ⟨n, hn, .inl e⟩
    · exact .inr ⟨n, hn, .inr e⟩
  · rcases hk with e | ⟨i, hi, e⟩
    · exact .inl (.inl e)
    · by_cases ei : i = n
      · subst ei
        simp only [if_true] at e
        rcases e with e | e
        · exact (hc k e).imp (fun e => .inr ⟨i, hi, .inl e⟩) id
        · exact (ho k e).imp (fun e => .inr ⟨i, hi, .inr e⟩) id
      · simp only [if_neg ei] at e
        exact .inl (.inr ⟨i, hi, e⟩)
theorem RefE.upd (h : RefE w s cv ov st) (hn : n < 3) {c' o' : Value} {L : Lv} {st' : St} (hB : Blk w' s (((refC cv ov st).setIfInBounds n c').setIfInBounds (3 + n) o') 54) (hC : RowC w' c' L.1) (hO : RowO w' o' L.2)
    (hF : Fr (fun k => k = s ∨ (cv n).ownBlock = some k ∨ (ov n).ownBlock = some k) w w') (hc : ∀ k, c'.ownBlock = some k → (cv n).ownBlock = some k ∨ w.heap.size ≤ k) (ho : ∀ k, o'.ownBlock = some k → (ov n).ownBlock = some k ∨ w.heap.size ≤ k)
    (hst : ∀ i, i < 3 → (st'.lv i).isNone = (st.lv i).isNone) (hL : lvD st' n = L) (hoth : ∀ i, i < 3 → i ≠ n → lvD st' i = lvD st i) : ROut w w' s cv ov st' := by
  refine h.updG hn ?_ hC hO hF hc ho hL hoth
  have e : refC (fun i => if i = n then c' else cv i) (fun i => if i = n then o' else ov i) st' = ((refC cv ov st).setIfInBounds n c').setIfInBounds (3 + n) o' := by
    have h0 := hst 0 (by omega)
    have h1 := hst 1 (by omega)
    have h2 := hst 2 (by omega)
    have hc : n = 0 ∨ n = 1 ∨ n = 2 := by omega
    rcases hc with rfl | rfl | rfl <;> simp [refC, h0, h1, h2]
  rw [e]; exact hB
end
theorem info73 : (Try.prog.info? 73).map (fun i => (i.zero, i.size, i.bytes)) = some (some (.agg #[.int .i64 0, .slice none 0 0]), 2, 32) := by kernel_rfl
theorem info31 : (Try.prog.info? 31).map (fun i => (i.zero, i.size, i.bytes)) = some (some (.slice none 0 0), 1, 24) := by kernel_rfl
theorem run_appendC {w : World} {ty : TypeId} (sv : Value) (cs : List (Nat × List UInt8)) (x : Nat × List UInt8) (d : Value) (k : Nat) (hrow : RowC w sv cs) (hB : Blk w k #[.int .i64 (x.1 : Int), d] 73) (hlen : cs.length ≤ 1000000) (hd : Rd w d x.2) :
    ∃ v' w', (Builtin.append_ #[49, 49] ty #[sv, .slice (some ⟨k, 0, none⟩) 1 1]).run Try.prog w = .ok v' w' ∧ RowC w' v' (cs ++ [x]) ∧ Fr (fun k => sv.ownBlock = some k ∧ ¬ BytesBlk w k) w w' ∧ (∀ k, v'.ownBlock = some k → sv.ownBlock = some k ∨ (w.heap.size ≤ k ∧ k < w'.heap.size)) := by
  obtain ⟨i, hi, hzz⟩ := Option.map_eq_some_iff.1 info73
  simp only [Prod.mk.injEq] at hzz
  obtain ⟨hz, hsz, hb⟩ := hzz
  refine run_appendRow Try.underlying49 hi hz hsz hb rfl (by omega) (by omega) sv _ cs x d hrow ?_ hlen (by decide) hd
  obtain ⟨pd, cd, rfl, _⟩ := id hd
  refine Src.ofSlice w Try.underlying49 _ 1 1 _ rfl (fun j u hj => ?_) (fun u hu => ?_)
  · have := hB.cellAt j u (by rw [← hj]; simp)
    simpa [Addr.add_lit] using this
  · simp only [cC, List.mem_cons, List.not_mem_nil, or_false] at hu
    rcases hu with rfl | rfl <;> rfl
theorem run_appendO {w : World} {ty : TypeId} (sv : Value) (os : List Ct) (c : Ct) (d : Value) (k : Nat) (hrow : RowO w sv os) (hB : Blk w k #[d] 31) (hlen : os.length ≤ 1000000) (hd : Rd w d c.enc) :
    ∃ v' w', (Builtin.append_ #[36, 36] ty #[sv, .slice (some ⟨k, 0, none⟩) 1 1]).run Try.prog w = .ok v' w' ∧ RowO w' v' (os ++ [c]) ∧ Fr (fun k => sv.ownBlock = some k ∧ ¬ BytesBlk w k) w w' ∧ (∀ k, v'.ownBlock = some k → sv.ownBlock = some k ∨ (w.heap.size ≤ k ∧ k < w'.heap.size)) := by
  obtain ⟨i, hi, hzz⟩ := Option.map_eq_some_iff.1 info31
  simp only [Prod.mk.injEq] at hzz
  obtain ⟨hz, hsz, hb⟩ := hzz
  refine run_appendRow Try.underlying36 hi hz hsz hb rfl (by omega) (by omega) sv _ os c d hrow ?_ hlen (by decide) hd
  obtain ⟨pd, cd, rfl, _⟩ := id hd
  refine Src.ofSlice w Try.underlying36 _ 1 1 _ rfl (fun j u hj => ?_) (fun u hu => ?_)
  · have := hB.cellAt j u (by rw [← hj]; simp)
    simpa [Addr.add_lit] using this
  · simp only [cO, List.mem_cons, List.not_mem_nil, or_false] at hu
    subst hu; rfl
theorem set_facts (st : St) (n : Nat) (L L' : Lv) (hL : st.lv n = some L) (hn : n < 3) : (∀ i, i < 3 → ((st.set n L').lv i).isNone = (st.lv i).isNone) ∧ lvD (st.set n L') n = L' ∧ ∀ i, i < 3 → i ≠ n → lvD (st.set n L') i = lvD st i := by
  have hc : n = 0 ∨ n = 1 ∨ n = 2 := by omega
  refine ⟨fun i hi => ?_, ?_, fun i hi hne => ?_⟩
  · have h2 : i = 0 ∨ i = 1 ∨ i = 2 := by omega
    rcases hc with rfl | rfl | rfl <;> rcases h2 with rfl | rfl | rfl <;> simp [St.set, St.lv] at hL ⊢ <;> simp [hL]
  · rcases hc with rfl | rfl | rfl <;> simp [St.set, St.lv, lvD]
  · have h2 : i = 0 ∨ i = 1 ∨ i = 2 := by omega
    rcases hc with rfl | rfl | rfl <;> rcases h2 with rfl | rfl | rfl <;> simp [St.set, St.lv, lvD] at hne ⊢
theorem refC_get (cv ov : Nat → Value) (st : St) {n : Nat} (hn : n < 3) : (refC cv ov st)[n]? = some (cv n) ∧ (refC cv ov st)[3 + n]? = some (ov n) ∧ (refC cv ov st)[6 + n]? = some (.bool (st.lv n).isNone) := by
  have hc : n = 0 ∨ n = 1 ∨ n = 2 := by omega
  rcases hc with rfl | rfl | rfl <;> exact ⟨rfl, rfl, rfl⟩
theorem appC_end {w wa w5 : World} {s n y : Nat} {cv ov : Nat → Value} {st st' : St} {L : Lv} {x : Nat × List UInt8} {v5 : Value} {Y : Array Value} (h : RefE w s cv ov st) (hn : n < 3) (hL : st.lv n = some L) (hst : st' = st.set n (L.1 ++ [x], L.2)) (hG : Grow w wa) (hC : RowC w5 v5 (L.1 ++ [x])) (hF : Fr (fun k => (cv n).ownBlock = some k ∧ ¬ BytesBlk wa k) wa w5)
    (hv : ∀ k, v5.ownBlock = some k → (cv n).ownBlock = some k ∨ (wa.heap.size ≤ k ∧ k < w5.heap.size)) (hY : Blk wa y Y 44) :
    (w5.cell? ⟨s, n, none⟩ = some (cv n) ∧ s < w5.heap.size ∧ (∀ i, w5.frozen? ⟨s, i, none⟩ = false)) ∧ Hid (Blk (w5.setCell ⟨s, n, none⟩ v5) y Y 44 ∧ ROut w (w5.setCell ⟨s, n, none⟩ v5) s cv ov st') := by
  have hg := h.grow hG
  have hLD : lvD st n = L := by simp [lvD, hL]
  obtain ⟨k1, k2, _⟩ := refC_get cv ov st hn
  have hrow : ∀ (k : Nat) (cur : Array Value) (T : TypeId) (f : Nat × Nat), wa.heap[k]? = some (Obj.cells cur T f) → T ≠ 73 → ¬ ((cv n).ownBlock = some k ∧ ¬ BytesBlk wa k) := fun k cur T f hk hT e => by
    obtain ⟨cur', f', hc⟩ := (hg.rowC n hn).1 k e.1
    have := Option.some.inj (hk.symm.trans hc)
    injection this with _ x _
    exact hT x
  have hB5 : Blk w5 s (refC cv ov st) 54 := hF.blk hg.blk (hrow _ _ _ _ hg.blk (by decide))
  have hY5 : Blk w5 y Y 44 := hF.blk hY (hrow _ _ _ _ hY (by decide))
  have hO5 : RowO w5 (ov n) L.2 := by
    have := hg.rowO n hn
    rw [hLD] at this
    refine this.keep (fun k hk => hF.block k (this.lt hk) ?_) (hF.bytes (fun k hk => hk.2))
    obtain ⟨cur, f, hc⟩ := this.1 k hk
    exact hrow _ _ _ _ hc (by decide)
  obtain ⟨f1, f2, f3⟩ := set_facts st n L (L.1 ++ [x], L.2) hL hn
  refine ⟨⟨hB5.cellAt n _ k1, hB5.lt, hB5.free⟩, Lib.hid ⟨hY5.setOther _ _ (fun e => hY5.ne_of_type hB5 (by decide) e), ?_⟩⟩
  subst hst
  refine h.upd hn (c' := v5) (o' := ov n) (L := (L.1 ++ [x], L.2)) ?_ (hC.setStruct hB5 (by decide) n v5) (hO5.setStruct hB5 (by decide) n v5) ?_ (fun k e => (hv k e).imp id (fun e => Nat.le_trans hG.size e.1)) (fun k e => .inl e) f1 f2 f3
  · rw [set_same (v := ov n) (by rw [Array.getElem?_setIfInBounds_ne (by omega), k2])]
    exact hB5.set n v5
  · exact ((Grow.to hG).trans (hF.mono (fun k _ e => .inr (.inl e.1)))).setCell _ _ (.inl (.inl rfl))
theorem appO_end {w wa w5 : World} {s n y : Nat} {cv ov : Nat → Value} {st st' : St} {L : Lv} {c : Ct} {v5 : Value} {Y : Array Value} (h : RefE w s cv ov st) (hn : n < 3) (hL : st.lv n = some L) (hst : st' = st.set n (L.1, L.2 ++ [c])) (hG : Grow w wa) (hC : RowO w5 v5 (L.2 ++ [c])) (hF : Fr (fun k => (ov n).ownBlock = some k ∧ ¬ BytesBlk wa k) wa w5)
    (hv : ∀ k, v5.ownBlock = some k → (ov n).ownBlock = some k ∨ (wa.heap.size ≤ k ∧ k < w5.heap.size)) (hY : Blk wa y Y 44) :
    (w5.cell? ⟨s, 3 + n, none⟩ = some (ov n) ∧ s < w5.heap.size ∧ (∀ i, w5.frozen? ⟨s, i, none⟩ = false)) ∧ Hid (Blk (w5.setCell ⟨s, 3 + n, none⟩ v5) y Y 44 ∧ ROut w (w5.setCell ⟨s, 3 + n, none⟩ v5) s cv ov st') := by
  have hg := h.grow hG
  have hLD : lvD st n = L := by simp [lvD, hL]
  obtain ⟨k1, k2, _⟩ := refC_get cv ov st hn
  have hrow : ∀ (k : Nat) (cur : Array Value) (T : TypeId) (f : Nat × Nat), wa.heap[k]? = some (Obj.cells cur T f) → T ≠ 31 → ¬ ((ov n).ownBlock = some k ∧ ¬ BytesBlk wa k) := fun k cur T f hk hT e => by
    obtain ⟨cur', f', hc⟩ := (hg.rowO n hn).1 k e.1
    have := Option.some.inj (hk.symm.trans hc)
    injection this with _ x _
    exact hT x
  have hB5 : Blk w5 s (refC cv ov st) 54 := hF.blk hg.blk (hrow _ _ _ _ hg.blk (by decide))
  have hY5 : Blk w5 y Y 44 := hF.blk hY (hrow _ _ _ _ hY (by decide))
  have hC5 : RowC w5 (cv n) L.1 := by
    have := hg.rowC n hn
    rw [hLD] at this
    refine this.keep (fun k hk => hF.block k (this.lt hk) ?_) (hF.bytes (fun k hk => hk.2))
    obtain ⟨cur, f, hc⟩ := this.1 k hk
    exact hrow _ _ _ _ hc (by decide)
  obtain ⟨f1, f2, f3⟩ := set_facts st n L (L.1, L.2 ++ [c]) hL hn
  refine ⟨⟨hB5.cellAt (3 + n) _ k2, hB5.lt, hB5.free⟩, Lib.hid ⟨hY5.setOther _ _ (fun e => hY5.ne_of_type hB5 (by decide) e), ?_⟩⟩
  subst hst
  refine h.upd hn (c' := cv n) (o' := v5) (L := (L.1, L.2 ++ [c])) ?_ (hC5.setStruct hB5 (by decide) (3 + n) v5) (hC.setStruct hB5 (by decide) (3 + n) v5) ?_ (fun k e => .inl e) (fun k e => (hv k e).imp id (fun e => Nat.le_trans hG.size e.1)) f1 f2 f3
  · rw [set_same k1]
    exact hB5.set (3 + n) v5
  · exact ((Grow.to hG).trans (hF.mono (fun k _ e => .inr (.inr e.1)))).setCell _ _ (.inl (.inl rfl))
/-- An act as it is handed over. -/
abbrev stA (x : Sp) (d : Value) : Value := .agg (stC x d).toArray
theorem ROut.keepY {w wx W : World} {s y : Nat} {cv ov : Nat → Value} {st' : St} {C : Array Value} (h : ROut w wx s cv ov st') (hF : Fr (fun k => k = y) wx W) (hy : Blk wx y C 44) (hn : w.heap.size ≤ y) : ROut w W s cv ov st' := by
  obtain ⟨cv', ov', h1, h2, h3⟩ := h
  refine ⟨cv', ov', h1.keep (fun k hk => ?_) (hF.bytes (fun k hk => by rw [show k = y from hk]; exact hy.noBytes (by decide))), h2.into hF (fun j e => .inr (by rw [show j = y from e]; exact hn)), h3⟩
  obtain ⟨cur, T, f, hc, hT⟩ := h1.typed k hk
  refine hF.block k (Array.getElem?_eq_some_iff.1 hc).1 (fun e => ?_)
  have e : k = y := e
  subst e
  have := Option.some.inj (hc.symm.trans hy)
  injection this with _ x _
  subst x
  rcases hT with hT | hT | hT <;> exact absurd hT (by decide)
end Go.Proofs.Ytgdkbflhgcchfaa
