/- What FnCYSends lays, step by step, in memory. Laying one act of FnCYSends: the two appends. -/
import Derived.Test.YtdhhccpeikhilaaDoorF3
import Derived.Test.YtdhhccpeikhilaaDoorF2
namespace Go.Proofs.YtdhhccpeikhilaaDoor
open Go.RowKit

theorem RdC.src {w : World} {v : Value} {l : List UInt8} (h : RdC w v l) : Src Tryd.prog 1 26 v l.length (l.map u8) w := by
  obtain ⟨p, c, rfl, h1, h2, h3⟩ := h
  have one : ∀ u ∈ l.map u8, u.oneCell' = true := fun u hu => by
    obtain ⟨x, _, rfl⟩ := List.mem_map.1 hu; rfl
  cases l with
  | nil =>
    cases p with
    | none => exact Src.ofNil w Tryd.underlying26 c
    | some a => exact Src.ofSlice w Tryd.underlying26 a 0 c [] (by simp) (fun j u hj => by simp at hj) (fun u hu => by cases hu)
  | cons x r =>
    obtain ⟨b, o, rfl, _, hr⟩ := h3 (by simp)
    refine Src.ofSlice w Tryd.underlying26 _ _ c _ (by simp) (fun j u hj => ?_) one
    rw [List.getElem?_map] at hj
    obtain ⟨y, hy, rfl⟩ := Option.map_eq_some_iff.1 hj
    have := hr j y hy
    simpa [Addr.add_lit] using this
theorem RdC.take {w : World} {p : Option Addr} {n c : Nat} {l : List UInt8} (h : RdC w (.slice p n c) l) (k : Nat) (hk : k ≤ n) : RdC w (.slice p k c) (l.take k) := by
  obtain ⟨p', c', e, h1, h2, h3⟩ := h
  injection e with e1 e2 e3
  subst e1 e2 e3
  refine ⟨_, _, by rw [List.length_take, Nat.min_eq_left hk], by rw [List.length_take]; omega, h2, fun hne => ?_⟩
  have hl : l ≠ [] := fun e => hne (by rw [e, List.take_nil])
  obtain ⟨b, o, rfl, hb, h4⟩ := h3 hl
  refine ⟨b, o, rfl, hb, fun i x hx => h4 i x ?_⟩
  rw [List.getElem?_take] at hx
  split at hx
  · exact hx
  · cases hx

/-- 'append(s, x...)' where x's bytes lie in whatever block. -/
theorem run_appendC {w : World} {ty : TypeId} {v x : Value} {l m : List UInt8} (h : OwnB w v l) (hr : RdC w x m) (hlen : l.length + m.length ≤ 1000000) :
    ∃ v' w', (Builtin.append_ #[26, 26] ty #[v, x]).run Tryd.prog w = .ok v' w' ∧ OwnB w' v' (l ++ m) ∧ Fr (fun k => v.ownBlock = some k) w w' ∧ (∀ k, v'.ownBlock = some k → v.ownBlock = some k ∨ (w.heap.size ≤ k ∧ k < w'.heap.size)) := by
  obtain ⟨i, hi, hzz⟩ := Option.map_eq_some_iff.1 info5
  simp only [Prod.mk.injEq] at hzz
  obtain ⟨hz, hs, hb⟩ := hzz
  obtain ⟨v', w', h1, h2, h3, h4⟩ := run_appendOwn (P := Tryd.prog) h 26 26 ty i (.int .u8 0) 1 Tryd.underlying26 hi hz hs hb rfl x m.length (m.map u8) hr.src (by omega) (by omega) (by omega)
  have hlt := run_append_lt (P := Tryd.prog) h 26 26 ty i (.int .u8 0) 1 Tryd.underlying26 hi hz hs hb x m.length (m.map u8) hr.src (by omega) (by omega) v' w' h1
  rw [← List.map_append, ← List.length_append] at h2
  refine ⟨v', w', h1, h2, h3, fun k hk => ?_⟩
  rcases h4 k hk with e | e
  · exact .inl e
  · exact (hlt k hk).imp id (fun e2 => ⟨e, e2⟩)

abbrev StepsX (N : Nat) (bv : Value) (w : World) (v : Value) (xs : List Stp) : Prop := RowX (Av N bv) stC Stp.data 30 4 w v xs
theorem StepsX.fr {N N' : Nat} {bv : Value} {w w' : World} {v : Value} {xs : List Stp} (h : StepsX N bv w v xs) (hN : N ≤ N') {S : Nat → Prop} (hF : Fr S w w') (hv : ∀ k, v.ownBlock = some k → ¬ S k) (hS : ∀ k, S k → ¬ BytesBlk w k) : StepsX N' bv w' v xs :=
  h.keep (fun k hk => hF.block k (h.row.lt hk) (hv k hk)) (fun _ _ ha hr => ⟨hr.keep (hF.bytes hS), ha.mono hN⟩)

abbrev s00 : SS := ⟨0, []⟩
/-- The law's state ahead of an act: what it lays for play and what it wants to see; the reference's state. -/
structure LawIn (w wr : World) (bS : Nat) (wv : Value) (v3 v4 : Value) (xs : List Stp) : Prop where
  grow : Grow w wr
  blk : Blk wr bS (cyS wv (xs.foldl snext s00).off) 35
  own : OwnB wr wv (xs.foldl snext s00).buf
  oks : SOks s00 xs
  steps : StepsX wr.heap.size wv wr v3 xs
  seen : SeenX wr.heap.size wv wr v4 (sees s00 xs)
  hb : w.heap.size ≤ bS
  hw : ∀ k, wv.ownBlock = some k → w.heap.size ≤ k ∧ k < wr.heap.size ∧ k ≠ bS
  h3 : ∀ k, v3.ownBlock = some k → w.heap.size ≤ k ∧ wv.ownBlock ≠ some k
  h4 : ∀ k, v4.ownBlock = some k → w.heap.size ≤ k ∧ wv.ownBlock ≠ some k

theorem LawIn.grow' {w wr w' : World} {bS : Nat} {wv v3 v4 : Value} {xs : List Stp} (h : LawIn w wr bS wv v3 v4 xs) (hg : Grow wr w') : LawIn w w' bS wv v3 v4 xs :=
  ⟨h.grow.trans hg, hg.blk h.blk (fun e => e), h.own.keep (fun k hk => hg.block k (h.hw k hk).2.1 (fun e => e)), h.oks, (RowX.grow h.steps hg).mono (fun _ hd => hd.mono hg.size), (RowX.grow h.seen hg).mono (fun _ hd => hd.mono hg.size), h.hb,
    fun k hk => ⟨(h.hw k hk).1, Nat.lt_of_lt_of_le (h.hw k hk).2.1 hg.size, (h.hw k hk).2.2⟩, h.h3, h.h4⟩

theorem LawIn.bound {w wr : World} {bS : Nat} {wv v3 v4 : Value} {xs : List Stp} (h : LawIn w wr bS wv v3 v4 xs) (hl : xs.length ≤ 60) : (xs.foldl snext s00).off + (xs.foldl snext s00).buf.length ≤ 60000 := by
  have := soks_bound xs s00 h.oks
  have e : s00.off + s00.buf.length = 0 := rfl
  omega

/-- .. between an act's doing and its laying. -/
structure LawMid (w wx : World) (bS : Nat) (wv : Value) (v3 v4 : Value) (xs : List Stp) (X : Stp) : Prop where
  grow : Grow w wx
  blk : Blk wx bS (cyS wv (snext (xs.foldl snext s00) X).off) 35
  own : OwnB wx wv (snext (xs.foldl snext s00) X).buf
  oks : SOks s00 xs
  ok : SOk (xs.foldl snext s00) X
  steps : StepsX wx.heap.size wv wx v3 xs
  seen : SeenX wx.heap.size wv wx v4 (sees s00 xs)
  hb : w.heap.size ≤ bS
  hw : ∀ k, wv.ownBlock = some k → w.heap.size ≤ k ∧ k < wx.heap.size ∧ k ≠ bS
  h3 : ∀ k, v3.ownBlock = some k → w.heap.size ≤ k ∧ wv.ownBlock ≠ some k
  h4 : ∀ k, v4.ownBlock = some k → w.heap.size ≤ k ∧ wv.ownBlock ≠ some k

theorem RowX.type {α : Type} {A : Value → Prop} {cs : α → Value → List Value} {dat : α → List UInt8} {e size : Nat} {w : World} {v : Value} {xs : List α} (h : RowX A cs dat e size w v xs) {k : Nat} (hk : v.ownBlock = some k) {c : Array Value} {T : TypeId} (hB : Blk w k c T) : e = T := by
  obtain ⟨cur, f, h⟩ := h.1 k hk
  have := Option.some.inj (h.symm.trans hB)
  injection this

theorem LawIn.mid {w wr wx : World} {bS : Nat} {wv wv' v3 v4 : Value} {xs : List Stp} {X : Stp} (h : LawIn w wr bS wv v3 v4 xs) (hF : Fr (fun k => k = bS ∨ wv.ownBlock = some k) wr wx) (ok : SOk (xs.foldl snext s00) X)
    (blk : Blk wx bS (cyS wv' (snext (xs.foldl snext s00) X).off) 35) (own : OwnB wx wv' (snext (xs.foldl snext s00) X).buf) (hfr : ∀ k, wv'.ownBlock = some k → wv.ownBlock = some k ∨ (wr.heap.size ≤ k ∧ k < wx.heap.size)) : LawMid w wx bS wv' v3 v4 xs X := by
  have hbl := h.blk.lt
  have hdat : ∀ (d : Value) (l : List UInt8), Av wr.heap.size wv d → Rd wr d l → Rd wx d l ∧ Av wx.heap.size wv' d := fun d l ha hr => by
    refine ⟨hr.avoid hF ?_, fun k hk => ⟨Nat.lt_of_lt_of_le (ha k hk).1 hF.size, fun hk2 => ?_⟩⟩
    · rintro k (e | e) hbk
      · subst e; exact (h.blk.noBytes (by decide) hbk).elim
      · exact fun hk => (ha k hk).2 e
    · rcases hfr k hk2 with e | e
      · exact (ha k hk).2 e
      · have := (ha k hk).1; omega
  refine ⟨Grow.trans' h.grow hF ?_, blk, own, h.oks, ok, h.steps.keep (fun k hk => hF.block k (h.steps.row.lt hk) ?_) hdat, h.seen.keep (fun k hk => hF.block k (h.seen.row.lt hk) ?_) hdat, h.hb, fun k hk => ?_, fun k hk => ⟨(h.h3 k hk).1, fun hk2 => ?_⟩, fun k hk => ⟨(h.h4 k hk).1, fun hk2 => ?_⟩⟩
  · rintro k (e | e)
    · subst e; exact h.hb
    · exact (h.hw k e).1
  · rintro (e | e)
    · subst e; exact absurd (h.steps.type hk h.blk) (by decide)
    · exact (h.h3 k hk).2 e
  · rintro (e | e)
    · subst e; exact absurd (h.seen.type hk h.blk) (by decide)
    · exact (h.h4 k hk).2 e
  · rcases hfr k hk with e | e
    · exact ⟨(h.hw k e).1, Nat.lt_of_lt_of_le (h.hw k e).2.1 hF.size, (h.hw k e).2.2⟩
    · exact ⟨Nat.le_trans h.grow.size e.1, e.2, by omega⟩
  · rcases hfr k hk2 with e | e
    · exact (h.h3 k hk).2 e
    · have := h.steps.row.lt hk; omega
  · rcases hfr k hk2 with e | e
    · exact (h.h4 k hk).2 e
    · have := h.seen.row.lt hk; omega

theorem seen_keep {N N' : Nat} {bv bv' : Value} {w w' : World} {v3 v4 : Value} {xs : List Stp} {ys : List Sn} (h4 : SeenX N bv w v4 ys) (h3 : StepsX N' bv' w v3 xs) (hF : Fr (fun k => v3.ownBlock = some k ∧ ¬ BytesBlk w k) w w') : SeenX N bv w' v4 ys :=
  h4.keep (fun k hk => hF.block k (h4.row.lt hk) (fun e => by
    obtain ⟨cur, f, h⟩ := h4.1 k hk
    obtain ⟨cur', f', h'⟩ := h3.1 k e.1
    have := Option.some.inj (h.symm.trans h')
    injection this with _ e4 _
    exact absurd e4 (by decide))) (fun _ _ ha hr => ⟨hr.keep (hF.bytes (fun k hk => hk.2)), ha⟩)
theorem steps_keep {N N' : Nat} {bv bv' : Value} {w w' : World} {v3 v4 : Value} {xs : List Stp} {ys : List Sn} (h3 : StepsX N' bv' w v3 xs) (h4 : SeenX N bv w v4 ys) (hF : Fr (fun k => v4.ownBlock = some k ∧ ¬ BytesBlk w k) w w') : StepsX N' bv' w' v3 xs :=
  h3.keep (fun k hk => hF.block k (h3.row.lt hk) (fun e => by
    obtain ⟨cur, f, h⟩ := h3.1 k hk
    obtain ⟨cur', f', h'⟩ := h4.1 k e.1
    have := Option.some.inj (h.symm.trans h')
    injection this with _ e4 _
    exact absurd e4 (by decide))) (fun _ _ ha hr => ⟨hr.keep (hF.bytes (fun k hk => hk.2)), ha⟩)

theorem LawMid.done {w wx w9 : World} {bS : Nat} {wv v3 v4 v3' v4' : Value} {xs : List Stp} {X : Stp} (h : LawMid w wx bS wv v3 v4 xs X) (hF : Fr (fun k => v3.ownBlock = some k ∨ v4.ownBlock = some k ∨ wx.heap.size ≤ k) wx w9)
    (hs : StepsX wx.heap.size wv w9 v3' (xs ++ [X])) (hy : SeenX wx.heap.size wv w9 v4' (sees s00 xs ++ [sseen (xs.foldl snext s00) X])) (f3 : ∀ k, v3'.ownBlock = some k → v3.ownBlock = some k ∨ wx.heap.size ≤ k) (f4 : ∀ k, v4'.ownBlock = some k → v4.ownBlock = some k ∨ wx.heap.size ≤ k) :
    LawIn w w9 bS wv v3' v4' (xs ++ [X]) := by
  have e1 : (xs ++ [X]).foldl snext s00 = snext (xs.foldl snext s00) X := by rw [List.foldl_append]; rfl
  have e2 : sees s00 (xs ++ [X]) = sees s00 xs ++ [sseen (xs.foldl snext s00) X] := sees_snoc xs s00 X
  have hbl := h.blk.lt
  have hbS : ¬ (v3.ownBlock = some bS ∨ v4.ownBlock = some bS ∨ wx.heap.size ≤ bS) := by
    rintro (e | e | e)
    · exact absurd (h.steps.type e h.blk) (by decide)
    · exact absurd (h.seen.type e h.blk) (by decide)
    · omega
  have hown : OwnB w9 wv (snext (xs.foldl snext s00) X).buf := h.own.keep (fun k hk => hF.block k (h.hw k hk).2.1 (by
    rintro (e | e | e)
    · exact (h.h3 k e).2 hk
    · exact (h.h4 k e).2 hk
    · have := (h.hw k hk).2.1; omega))
  refine ⟨Grow.trans' h.grow hF ?_, by rw [e1]; exact hF.blk h.blk hbS, by rw [e1]; exact hown, soks_snoc xs s00 X h.oks h.ok, hs.mono (fun _ hd => hd.mono hF.size), by rw [e2]; exact hy.mono (fun _ hd => hd.mono hF.size), h.hb,
    fun k hk => ⟨(h.hw k hk).1, Nat.lt_of_lt_of_le (h.hw k hk).2.1 hF.size, (h.hw k hk).2.2⟩, fun k hk => ?_, fun k hk => ?_⟩
  · rintro k (e | e | e)
    · exact (h.h3 k e).1
    · exact (h.h4 k e).1
    · exact Nat.le_trans h.grow.size e
  · rcases f3 k hk with e | e
    · exact h.h3 k e
    · exact ⟨Nat.le_trans h.grow.size e, fun hk2 => by have := (h.hw k hk2).2.1; omega⟩
  · rcases f4 k hk with e | e
    · exact h.h4 k e
    · exact ⟨Nat.le_trans h.grow.size e, fun hk2 => by have := (h.hw k hk2).2.1; omega⟩
end Go.Proofs.YtdhhccpeikhilaaDoor
namespace Go.Proofs.YtdhhccpeikhilaaDoor
open Go.RowKit

structure Laid1 (wc w7 : World) (wv u3 u4 v7 : Value) (xs : List Stp) (X : Stp) : Prop where
  fr : Fr (fun k => u3.ownBlock = some k ∨ u4.ownBlock = some k ∨ wc.heap.size ≤ k) wc w7
  steps : StepsX wc.heap.size wv w7 v7 (xs ++ [X])
  seen : SeenX wc.heap.size wv w7 u4 (sees s00 xs)
  f3 : ∀ k, v7.ownBlock = some k → u3.ownBlock = some k ∨ wc.heap.size ≤ k
  bytes : ∀ d l, Rd wc d l → Rd w7 d l

theorem layStep {w wc w' : World} {bS n : Nat} {wv u3 u4 d : Value} {xs : List Stp} {X : Stp} {ty : TypeId} (h : LawMid w wc bS wv u3 u4 xs X) (hd : Rd wc d X.data) (hA : Av wc.heap.size wv d) (hl : xs.length ≤ 1000000) (g : Grow wc w')
    (hB : Blk w' n #[.int .i64 (X.kind : Int), .int .i64 (X.off : Int), .int .i64 (X.most : Int), d] 30) :
    ∃ v7 w7, (Builtin.append_ #[24, 24] ty #[u3, .slice (some ⟨n, 0, none⟩) 1 1]).run Tryd.prog w' = .ok v7 w7 ∧ (Laid1 wc w7 wv u3 u4 v7 xs X ∧ ∀ k c T, wc.heap.size ≤ k → Blk w' k c T → Blk w7 k c T) := by
  obtain ⟨v7, w7, h1, h2, h3, h4⟩ := run_appendStepX (A := Av wc.heap.size wv) (ty := ty) u3 xs X d n (RowX.grow h.steps g) hB hl (hd.keep (Grow.bytes g)) hA
  refine ⟨v7, w7, h1, ⟨g.to.trans (h3.mono (fun k _ hk => .inl hk.1)), h2, seen_keep (RowX.grow h.seen g) (RowX.grow h.steps g) h3, fun k hk => ?_, fun d l hr => (hr.keep (Grow.bytes g)).keep (h3.bytes (fun k hk => hk.2))⟩, fun k c T hk hb => h3.blk hb (fun e => ?_)⟩
  · rcases h4 k hk with e | e
    · exact .inl e
    · exact .inr (Nat.le_trans g.size e)
  · have := h.steps.row.lt e.1
    omega

theorem laySeen {w wc w7 w' : World} {bS n : Nat} {wv u3 u4 v7 d : Value} {xs : List Stp} {X : Stp} {Y : Sn} {ty : TypeId} (h : LawMid w wc bS wv u3 u4 xs X) (h7 : Laid1 wc w7 wv u3 u4 v7 xs X) (hY : sseen (xs.foldl snext s00) X = Y) (hd : Rd wc d Y.data) (hA : Av wc.heap.size wv d) (hl : xs.length ≤ 1000000) (g : Grow w7 w')
    (hB : Blk w' n #[.bool Y.is, .bool Y.has, .int .i64 (Y.off : Int), d, .int .i64 (Y.code : Int)] 41) :
    ∃ v8 w8, (Builtin.append_ #[36, 36] ty #[u4, .slice (some ⟨n, 0, none⟩) 1 1]).run Tryd.prog w' = .ok v8 w8 ∧ (LawIn w w8 bS wv v7 v8 (xs ++ [X]) ∧ Fr (fun k => u3.ownBlock = some k ∨ u4.ownBlock = some k ∨ wc.heap.size ≤ k) wc w8) := by
  subst hY
  obtain ⟨v8, w8, h1, h2, h3, h4⟩ := run_appendSeenX (A := Av wc.heap.size wv) (ty := ty) u4 (sees s00 xs) _ d n (RowX.grow h7.seen g) hB (by rw [sees_length]; exact hl) ((h7.bytes _ _ hd).keep (Grow.bytes g)) hA
  have g2 := h7.fr.size
  have g3 := g.size
  have hF := h7.fr.trans (g.to.trans (h3.mono (fun k _ hk => .inr (.inl hk.1))))
  refine ⟨v8, w8, h1, h.done hF (steps_keep (RowX.grow h7.steps g) (RowX.grow h7.seen g) h3) h2 h7.f3 (fun k hk => ?_), hF⟩
  rcases h4 k hk with e | e
  · exact .inl e
  · exact .inr (by omega)
end Go.Proofs.YtdhhccpeikhilaaDoor
