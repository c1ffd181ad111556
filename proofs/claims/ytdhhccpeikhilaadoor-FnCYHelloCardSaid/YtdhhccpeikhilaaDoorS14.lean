/- The frame sorter's Push, whole: its contract. -/
import Derived.Test.YtdhhccpeikhilaaDoorS9
import Derived.Test.YtdhhccpeikhilaaDoorS10
import Derived.Test.YtdhhccpeikhilaaDoorP2
import Derived.Test.YtdhhccpeikhilaaDoorP6
namespace Go.Proofs.YtdhhccpeikhilaaDoor
open Go.RowKit

theorem least {P : Nat → Prop} : ∀ n, P n → ∃ m, P m ∧ m ≤ n ∧ ∀ k, k < m → ¬ P k := by
  intro n
  induction n using Nat.strongRecOn with
  | ind n ih =>
    intro hn
    by_cases h : ∃ k, k < n ∧ P k
    · obtain ⟨k, hk, hp⟩ := h
      obtain ⟨m, h1, h2, h3⟩ := ih k hk hp
      exact ⟨m, h1, by omega, h3⟩
    · exact ⟨n, hn, Nat.le_refl _, fun k hk hp => h ⟨k, hk, hp⟩⟩

theorem GapsOk.lastAt {rp : Nat} {gs : List Gap} (h : GapsOk rp gs) : ∃ k g, gs[k]? = some g ∧ g.e = 4611686018427387903 ∧ k + 1 = gs.length := by
  obtain ⟨g, hg, e, _⟩ := h.last
  rw [List.getLast?_eq_getElem?] at hg
  have hlt := (List.getElem?_eq_some_iff.1 hg).1
  exact ⟨_, g, hg, e, by omega⟩

theorem GapsOk.start {rp : Nat} {gs : List Gap} (h : GapsOk rp gs) (a : Nat) (ha : a ≤ 16384) : ∃ i gi, StartGap gs a i gi := by
  obtain ⟨k, g, hg, he, _⟩ := h.lastAt
  obtain ⟨m, ⟨gm, h1, h2⟩, _, h3⟩ := least (P := fun i => ∃ g, gs[i]? = some g ∧ a ≤ g.e) k ⟨g, hg, by omega⟩
  exact ⟨m, gm, h1, h2, fun j f hj hf => Nat.lt_of_not_le fun hle => h3 j hj ⟨f, hf, hle⟩⟩

theorem GapsOk.end {rp : Nat} {gs : List Gap} (h : GapsOk rp gs) {g0 : Gap} (hg0 : gs[0]? = some g0) {z : Nat} (hz : z ≤ 16384) (hfr : g0.s < z) {i : Nat} (hi : i < gs.length) : ∃ j gj inE, EndAt gs i z j gj inE := by
  obtain ⟨k, g, hg, he, hk⟩ := h.lastAt
  obtain ⟨m, ⟨hmi, gm, h1, h2⟩, _, h3⟩ := least (P := fun m => i ≤ m ∧ ∃ g, gs[m]? = some g ∧ z < g.e) k ⟨by omega, g, hg, by omega⟩
  rcases Nat.lt_or_ge z gm.s with c | c
  · cases m with
    | zero => have := Option.some.inj (hg0.symm.trans h1); subst this; omega
    | succ j =>
      have hj : gs[j]? = some (gs[j]'(by have := (List.getElem?_eq_some_iff.1 h1).1; omega)) := List.getElem?_eq_getElem _
      exact ⟨j, _, false, hj, .inr ⟨rfl, hmi, ⟨gm, h1, c⟩, fun m f hm hmj hf => Nat.le_of_not_lt fun hl => h3 m (by omega) ⟨hm, f, hf, hl⟩⟩⟩
  · exact ⟨m, gm, true, h1, .inl ⟨rfl, hmi, c, h2, fun m' f hm hmj hf => Nat.le_of_not_lt fun hl => h3 m' hmj ⟨hm, f, hf, hl⟩⟩⟩

theorem Took.dup {rp a n : Nat} {gs : List Gap} {q : Q} {l : List UInt8} (hG : Good rp gs q) (h : ∀ x, rp ≤ x → a ≤ x → x < a + n → Cov q x) : Took rp a n l q gs q :=
  ⟨hG, fun x hx => ⟨fun e => .inl e, fun e => e.elim id (fun e => h x hx e.1 e.2)⟩, fun _ hF _ => hF⟩

/-- The new gaps' blocks are the old gaps', or new. -/
def Fresh (N : Nat) (gs gs6 : List Gap) : Prop := ∀ g ∈ gs6, (∃ g0 ∈ gs, g0.b = g.b) ∨ N ≤ g.b
theorem Fresh.refl (N : Nat) (gs : List Gap) : Fresh N gs gs := fun g hg => .inl ⟨g, hg, rfl⟩
theorem fresh_cat {N : Nat} {gs a b : List Gap} (ha : Fresh N gs a) (hb : Fresh N gs b) : Fresh N gs (a ++ b) := fun g hg => (List.mem_append.1 hg).elim (ha g) (hb g)
theorem fresh_take (N i : Nat) (gs : List Gap) : Fresh N gs (gs.take i) := fun g hg => .inl ⟨g, List.mem_of_mem_take hg, rfl⟩
theorem fresh_drop (N i : Nat) (gs : List Gap) : Fresh N gs (gs.drop i) := fun g hg => .inl ⟨g, List.mem_of_mem_drop hg, rfl⟩
theorem fresh_one {N : Nat} {gs : List Gap} {g0 g : Gap} (h : g0 ∈ gs) (e : g0.b = g.b) : Fresh N gs [g] := fun x hx => by
  rw [List.mem_singleton] at hx; subst hx; exact .inl ⟨g0, h, e⟩
theorem fresh_head {N : Nat} {gs hd : List Gap} {i A Z : Nat} {gi : Gap} {rep adj : Bool} (hgi : gi ∈ gs) (h : HeadUp gs i gi A Z rep hd adj) : Fresh N gs hd := by
  rcases h with ⟨_, _, rfl, _⟩ | ⟨_, _, rfl, _⟩ | ⟨_, _, rfl, _⟩ | ⟨_, _, rfl, _⟩
  · exact fresh_take _ _ _
  · exact fresh_cat (fresh_take _ _ _) (fresh_one hgi rfl)
  · exact fresh_cat (fresh_take _ _ _) (fresh_one hgi rfl)
  · exact fresh_cat (fresh_take _ _ _) (fresh_one hgi rfl)
theorem Push1.fresh {N : Nat} {gs gs6 : List Gap} {q q6 : Q} {l : List UInt8} {a n i : Nat} {gi : Gap} {inE : Bool} (hgi : gs[i]? = some gi) (h : Push1 N gs q l a n gi i inE gs6 q6) : Fresh N gs gs6 := by
  obtain ⟨q1, pos, rep, cut, Z, A, gs3, adj, Z2, hE, hA, hU, hZ2, hG1, rfl⟩ := h
  have hm := List.mem_of_getElem? hgi
  obtain ⟨hd, hh, rfl⟩ := hU.head hgi
  have h3 : Fresh N gs (hd ++ gs.drop (i + 1)) := fresh_cat (fresh_head hm hh) (fresh_drop _ _ _)
  rcases hG1 with ⟨_, _, b, hb, rfl⟩ | ⟨_, rfl⟩
  · intro g hg
    obtain ⟨m, hm⟩ := List.mem_iff_getElem?.1 hg
    rw [List.getElem?_insertIdx] at hm
    split at hm
    · exact h3 g (List.mem_of_getElem? hm)
    · split at hm
      · split at hm
        · injection hm with hm; exact .inr (by rw [← hm]; exact hb)
        · cases hm
      · exact h3 g (List.mem_of_getElem? hm)
  · exact h3
theorem Push2.fresh {N : Nat} {gs gs6 : List Gap} {q q6 : Q} {l : List UInt8} {a n i j : Nat} {gi gj : Gap} {inE : Bool} (hgi : gs[i]? = some gi) (hgj : gs[j]? = some gj) (h : Push2 gs q l a n gi gj i j inE gs6 q6) : Fresh N gs gs6 := by
  obtain ⟨q1, pos, rep, cut, Z, A, hd, adj, q2, q3, Z2, hE, hA, hU, hdc, hdg, hZ2, hG6, rfl⟩ := h
  have h3 : Fresh N gs hd := fresh_head (List.mem_of_getElem? hgi) hU
  rcases hG6 with ⟨_, rfl⟩ | ⟨_, rfl⟩
  · exact fresh_cat h3 (fresh_drop _ _ _)
  · exact fresh_cat h3 (fresh_cat (a := [{ gj with s := Z2 }]) (fresh_one (List.mem_of_getElem? hgj) rfl) (fresh_drop _ _ _))

/-- Where nothing of the frame is there yet, it is queued as it came. -/
def Exact (rp a n : Nat) (l : List UInt8) (q q6 : Q) : Prop := rp ≤ a → (∀ x, a ≤ x → x < a + n → ¬ Cov q x) → q6 = putQ q a l
theorem exact_gap {rp a i : Nat} {gs : List Gap} {q : Q} {gi : Gap} (hG : Good rp gs q) (hi : StartGap gs a i gi) (hra : rp ≤ a) (ha : a ≤ 16384) (hn : ¬ Cov q a) : gi.s ≤ a ∧ a < gi.e := by
  have hin : InG gs a := Classical.byContradiction fun h => hn ((hG.cov a hra ha).2 h)
  obtain ⟨g, hg, h1, h2⟩ := hin
  obtain ⟨j, hj⟩ := List.mem_iff_getElem?.1 hg
  rcases Nat.lt_trichotomy j i with c | c | c
  · have := hi.2.2 j g c hj; omega
  · subst c; have := Option.some.inj (hj.symm.trans hi.1); subst this; exact ⟨h1, h2⟩
  · have := hG.gaps.sorted.2 i j gi g hi.1 hj c; have := hi.2.1; omega
theorem exact_end {rp : Nat} {gs : List Gap} {q : Q} {gi : Gap} (hG : Good rp gs q) (hgi : gi ∈ gs) (hle : gi.e ≤ 16384) : Cov q gi.e := by
  have h1 := hG.gaps.lo gi hgi
  have h2 := hG.gaps.ne gi hgi
  refine (hG.cov gi.e (by omega) hle).2 ?_
  rintro ⟨g, hg, h3, h4⟩
  obtain ⟨i, hi⟩ := List.mem_iff_getElem?.1 hgi
  obtain ⟨j, hj⟩ := List.mem_iff_getElem?.1 hg
  rcases Nat.lt_trichotomy j i with c | c | c
  · have := hG.gaps.sorted.2 j i g gi hj hi c; omega
  · subst c; have := Option.some.inj (hj.symm.trans hi); subst this; omega
  · have := hG.gaps.sorted.2 i j gi g hi hj c; omega
theorem seg_whole (l : List UInt8) (a n : Nat) (hl : l.length = n) : seg l a a (a + n) = l := by
  unfold seg; rw [Nat.sub_self, List.drop_zero, Nat.add_sub_cancel_left, ← hl, List.take_length]
theorem Push1.exact {rp a n i N : Nat} {gs gs6 : List Gap} {q q6 : Q} {l : List UInt8} {gi : Gap} {inE : Bool} (hG : Good rp gs q) (hi : StartGap gs a i gi) (hn : 0 < n) (hl : l.length = n) (hz : a + n ≤ 16384)
    (h : Push1 N gs q l a n gi i inE gs6 q6) : Exact rp a n l q q6 := by
  intro hra hno
  obtain ⟨q1, pos, rep, cut, Z, A, gs3, adj, Z2, hE, hA, hU, hZ2, hG1, rfl⟩ := h
  obtain ⟨hs, he⟩ := exact_gap hG hi hra (by omega) (hno a (Nat.le_refl _) (by omega))
  have hrep : rep = false := by
    cases rep with
    | false => rfl
    | true =>
      obtain ⟨_, _, _, _, _, c6⟩ := hE.1.cut hG.ap
      obtain ⟨_, d, hd⟩ := c6 rfl
      exact (hno a (Nat.le_refl _) (by omega) ⟨a, d, hd, Nat.le_refl _, by have := hG.ap.pos hd; omega⟩).elim
  subst hrep
  obtain ⟨rfl, rfl, rfl, _⟩ := hE.none
  have hA2 : A = pos := by rw [hA, if_neg (fun e => by have := of_decide_eq_false e.1; omega)]
  subst hA2
  have hge : A + n ≤ gi.e := by
    rcases Nat.lt_or_ge gi.e (A + n) with c | c
    · exact (hno gi.e (by omega) c (exact_end hG (List.mem_of_getElem? hi.1) (by omega))).elim
    · exact c
  have hZ : Z2 = A + n := by rw [hZ2, if_neg (fun e => by omega)]
  rw [hZ, seg_whole l A n hl]
theorem Push2.exact {rp a n i j : Nat} {gs : List Gap} {q q6 : Q} {l : List UInt8} {gi gj : Gap} {inE : Bool} (hG : Good rp gs q) (hij : i < j) (hi : StartGap gs a i gi) (hj : EndAt gs i (a + n) j gj inE) (hz : a + n ≤ 16384) : Exact rp a n l q q6 := by
  intro hra hno
  have hij2 := hG.gaps.sorted.2 i j gi gj hi.1 hj.1 hij
  have hjne := hG.gaps.ne gj (List.mem_of_getElem? hj.1)
  have hlt : gi.e < a + n := by
    rcases hj.2 with ⟨_, _, h3, _⟩ | ⟨_, _, _, h4⟩
    · omega
    · have := h4 j gj (by omega) (Nat.le_refl _) hj.1; omega
  exact (hno gi.e hi.2.1 hlt (exact_end hG (List.mem_of_getElem? hi.1) (by omega))).elim

theorem Push_call (w : World) (bS r bL rp a n cap : Nat) (p : Option Addr) (gs : List Gap) (q : Q) (l : List UInt8) (c : Array Value) (T : TypeId) (hS : Blk w bS c T) (h0 : c[0]? = some (.map (some r))) (h2 : c[2]? = some (pt bL)) (hT : T ≠ 138) (hT2 : T ≠ 128) (hT5 : T ≠ 5)
    (hL : ListAt w bL gs) (hq : QAt w r q) (hG : Good rp gs q) (hl : Rd w (.slice p n cap) l) (hn : l.length = n) (hnp : 0 < n) (ha : a + n ≤ 16384) (hlen : gs.length ≤ 900) :
    Calls Tryd.prog 47 #[pt bS, .slice p n cap, .int .i64 (a : Int), .nilFunc] w fun e w' => e = .returned .nilIface ∧ ∃ gs6 q6, Took rp a n l q gs6 q6 ∧ Fresh w.heap.size gs gs6 ∧ Exact rp a n l q q6 ∧ gs6.length ≤ gs.length + 1 ∧ ListAt w' bL gs6 ∧ QAt w' r q6 ∧ Fr (pushS r bL gs) w w' := by
  have hs := hG.gaps.sorted
  have hbd : ∀ g ∈ gs, g.e ≤ 4611686018427387903 ∧ g.s ≤ g.e := fun g hg => by
    refine ⟨?_, Nat.le_of_lt (hG.gaps.ne g hg)⟩
    obtain ⟨m, hm⟩ := List.mem_iff_getElem?.1 hg
    obtain ⟨k, gl, hk, he, hkl⟩ := hG.gaps.lastAt
    have hmlt := (List.getElem?_eq_some_iff.1 hm).1
    rcases Nat.eq_or_lt_of_le (show m ≤ k by omega) with e | e
    · subst e; have := Option.some.inj (hm.symm.trans hk); rw [this, he]; exact Nat.le_refl _
    · have := hs.2 m k g gl hm hk e; have := hs.1 _ _ hk; omega
  have hne : 0 < gs.length := by obtain ⟨k, gl, hk, _⟩ := hG.gaps.lastAt; have := (List.getElem?_eq_some_iff.1 hk).1; omega
  obtain ⟨g0, hg0⟩ : ∃ g, gs[0]? = some g := ⟨_, List.getElem?_eq_getElem hne⟩
  have hdup : (∀ x, rp ≤ x → a ≤ x → x < a + n → Cov q x) → Calls Tryd.prog 56 #[pt bS, .slice p n cap, .int .i64 (a : Int), .nilFunc] w (fun e w' => e = .returned dupV ∧ Grow w w') →
      Calls Tryd.prog 47 #[pt bS, .slice p n cap, .int .i64 (a : Int), .nilFunc] w fun e w' => e = .returned .nilIface ∧ ∃ gs6 q6, Took rp a n l q gs6 q6 ∧ Fresh w.heap.size gs gs6 ∧ Exact rp a n l q q6 ∧ gs6.length ≤ gs.length + 1 ∧ ListAt w' bL gs6 ∧ QAt w' r q6 ∧ Fr (pushS r bL gs) w w' := fun hc h => by
    refine (Push_dup w _ _ _ (fun w' => Grow w w') h).mono ?_
    rintro e w' ⟨rfl, hg⟩
    exact ⟨rfl, gs, q, Took.dup hG hc, Fresh.refl _ _, (fun hra hno => (hno a (Nat.le_refl _) (by omega) (hc a hra (Nat.le_refl _) (by omega))).elim), by omega, hL.fr hg (fun _ h => h.elim), hq.fr hg (fun h => h) (fun _ h => h.elim), hg.to⟩
  rcases Nat.lt_or_ge g0.s (a + n) with hfr | hfr
  · obtain ⟨i, gi, hi⟩ := hG.gaps.start a (by omega)
    obtain ⟨j, gj, inE, hj⟩ := hG.gaps.end hg0 ha hfr (List.getElem?_eq_some_iff.1 hi.1).1
    have hgis := hs.1 _ _ hi.1
    rcases Nat.lt_or_ge gi.s (a + n) with hnew | hold
    · have hij : i ≤ j := by
        rcases hj.2 with ⟨_, x, _⟩ | ⟨_, x, ⟨h, y1, y2⟩, _⟩
        · exact x
        · rcases Nat.lt_or_ge j i with c | c
          · have : i = j + 1 := by omega
            subst this; have := Option.some.inj (hi.1.symm.trans y1); subst this; omega
          · exact c
      have hqok : QOk q := fun k d hk => ⟨hG.ap.ne k d hk, (hG.ge k d hk).2⟩
      have H : PushIn w bS r bL a n cap p gs q l c T g0 gi gj i j inE := ⟨hS, h0, h2, hT, hT2, hT5, hL, hq, hqok, hl, hn, hnp, ha, hlen, hg0, hfr, hs, fun g hg => (hbd g hg).1, hi, hj, hnew⟩
      by_cases hd : ∃ d, q a = some d ∧ n ≤ d.length
      · obtain ⟨d, hd, hdn⟩ := hd
        refine hdup (fun x _ x1 x2 => ⟨a, d, hd, x1, by omega⟩) ?_
        rcases Nat.eq_or_lt_of_le hij with e | e
        · subst e
          have := Option.some.inj (hi.1.symm.trans hj.1); subst this
          exact push_dupOne w bS r bL a n cap p gs q l c T g0 gi i inE H d hd hdn
        · exact push_dupTwo w bS r bL a n cap p gs q l c T g0 gi gj i j inE H e d hd hdn
      · have hnd : ∀ d, q a = some d → d.length < n := fun d h => Nat.lt_of_not_le fun hle => hd ⟨d, h, hle⟩
        rcases Nat.eq_or_lt_of_le hij with e | e
        · subst e
          have := Option.some.inj (hi.1.symm.trans hj.1); subst this
          refine (Push_nil w _ _ _ _ (push_one w bS r bL a n cap p gs q l c T g0 gi i inE H hnd)).mono ?_
          rintro e w' ⟨rfl, gs6, q6, hP, x1, x2, x3, x4⟩
          exact ⟨rfl, gs6, q6, push1_good hG hi hj hnp hn ha hnew hP, hP.fresh hi.1, hP.exact hG hi hnp hn ha, x1, x2, x3, x4⟩
        · refine (Push_nil w _ _ _ _ (push_two w bS r bL a n cap p gs q l c T g0 gi gj i j inE H e hnd)).mono ?_
          rintro e' w' ⟨rfl, gs6, q6, hP, x1, x2, x3, x4⟩
          exact ⟨rfl, gs6, q6, push2_good hG e hi hj hnp hn ha hP, hP.fresh hi.1 hj.1, Push2.exact hG e hi hj ha, x1, x2, x3, x4⟩
    · refine hdup (fun x x0 x1 x2 => (hG.cov x x0 (by omega)).2 (hi.notIn hG.gaps x1 (by omega))) ?_
      rcases hj.2 with ⟨hE, x, y1, y2, y3⟩ | ⟨hE, x, ⟨h, y1, y2⟩, y3⟩
      · have hij : i = j := by
          rcases Nat.eq_or_lt_of_le x with e | e
          · exact e
          · have := y3 i gi (Nat.le_refl _) e hi.1; omega
        subst hij
        have := Option.some.inj (hi.1.symm.trans hj.1); subst this
        exact push_dupAt w bS bL a n cap p gs c T g0 gi i inE hS h2 hL hnp ha hg0 hfr hs hbd hi hj hold
      · have hij : i = j + 1 := by
          rcases Nat.eq_or_lt_of_le x with e | e
          · exact e
          · have := y3 i gi (Nat.le_refl _) (by omega) hi.1; omega
        subst hij
        exact push_dupBefore w bS bL a n cap p gs c T g0 gi gj j inE hS h2 hL hnp ha hg0 hfr hs hbd hi hj hold
  · refine hdup (fun x x0 x1 x2 => (hG.cov x x0 (by omega)).2 ?_) (push_dupFront w bS bL a n cap p gs c T g0 hS h2 hL hnp ha hg0 hfr)
    rintro ⟨g, hg, y1, y2⟩
    obtain ⟨m, hm⟩ := List.mem_iff_getElem?.1 hg
    rcases Nat.eq_zero_or_pos m with e | e
    · subst e; have := Option.some.inj (hg0.symm.trans hm); subst this; omega
    · have := hs.2 0 m g0 g hg0 hm e; have := hs.1 _ _ hg0; omega
end Go.Proofs.YtdhhccpeikhilaaDoor
