/- Acts on the queue as the thin package plays them: steps, what is seen; the pure machine; sizes. -/
import Derived.Test.YtgdkbflhgcchfaaA15
import Derived.Defers
import Derived.Recover
namespace Go.Proofs.Ytgdkbflhgcchfaa
open Go.RowKit

/-- An act; what is seen of it. -/
inductive Sp where
  | lost (n : Nat) (c : Ct) | get (n M : Nat) | has (n : Nat) | drop (n : Nat)
namespace Sp
def kind : Sp → Nat | lost _ _ => 0 | get _ _ => 1 | has _ => 2 | drop _ => 3
def lev : Sp → Nat | lost n _ => n | get n _ => n | has n => n | drop n => n
def ty : Sp → Nat | lost _ c => c.ty | _ => 0
def a : Sp → Nat | lost _ c => c.a | _ => 0
def b : Sp → Nat | lost _ c => c.b | _ => 0
def c : Sp → Nat | lost _ c => c.c | _ => 0
def data : Sp → List UInt8 | lost _ c => c.data | _ => []
def most : Sp → Nat | get _ M => M | _ => 0
/-- Sizes. -/
def Ok : Sp → Prop
  | lost n c => n ≤ 2 ∧ c.a ≤ 4294967296 ∧ c.b ≤ 4294967296 ∧ c.data.length ≤ 301
  | get n M => n ≤ 2 ∧ M ≤ 2000
  | has n => n ≤ 2
  | drop n => n ≤ 1
end Sp
structure Sn where
  is : Bool
  has : Bool
  frame : List UInt8
def St.step (st : St) : Sp → Sn × St
  | .lost n c => (⟨false, false, []⟩, st.lost n c)
  | .get n M => (match (st.get n M).1 with | none => ⟨false, false, []⟩ | some c => ⟨true, false, c.enc⟩, (st.get n M).2)
  | .has n => (⟨false, st.has n, []⟩, st)
  | .drop n => (⟨false, false, []⟩, st.drop n)
def St.run (st : St) (xs : List Sp) : St := xs.foldl (fun s x => (s.step x).2) st
def sees (st : St) : List Sp → List Sn
  | [] => []
  | x :: xs => (st.step x).1 :: sees (st.step x).2 xs
theorem sees_length : ∀ (xs : List Sp) (st : St), (sees st xs).length = xs.length
  | [], _ => rfl
  | x :: xs, st => by simp [sees, sees_length xs]
theorem sees_append : ∀ (xs ys : List Sp) (st : St), sees st (xs ++ ys) = sees st xs ++ sees (st.run xs) ys
  | [], _, _ => rfl
  | x :: xs, ys, st => by
    simp only [List.cons_append, sees, sees_append xs ys]
    rfl
theorem run_snoc (st : St) (xs : List Sp) (x : Sp) : st.run (xs ++ [x]) = ((st.run xs).step x).2 := by
  unfold St.run; rw [List.foldl_append]; rfl
theorem sees_snoc (st : St) (xs : List Sp) (x : Sp) : sees st (xs ++ [x]) = sees st xs ++ [((st.run xs).step x).1] := by
  rw [sees_append]; rfl

abbrev snC (y : Sn) (d : Value) : List Value := [.bool y.is, .bool y.has, d]
abbrev stC (x : Sp) (d : Value) : List Value := [.int .i64 (x.kind : Int), .int .i64 (x.lev : Int), .int .i64 (x.ty : Int), .int .u64 (x.a : Int), .int .u64 (x.b : Int), .int .u64 (x.c : Int), d, .int .i64 (x.most : Int)]
/-- What is seen of the acts, in memory; the acts. -/
abbrev SeenAt (w : World) (v : Value) (ys : List Sn) : Prop := RowAt snC Sn.frame 44 3 w v ys
abbrev StepsAt (w : World) (v : Value) (xs : List Sp) : Prop := RowAt stC Sp.data 35 8 w v xs
theorem info44 : (Try.prog.info? 44).map (fun i => (i.zero, i.size, i.bytes)) = some (some (.agg #[.bool false, .bool false, .slice none 0 0]), 3, 32) := by kernel_rfl
theorem info35 : (Try.prog.info? 35).map (fun i => (i.zero, i.size, i.bytes)) = some (some (.agg #[.int .i64 0, .int .i64 0, .int .i64 0, .int .u64 0, .int .u64 0, .int .u64 0, .slice none 0 0, .int .i64 0]), 8, 80) := by kernel_rfl
theorem src_seen (w : World) (k : Nat) (y : Sn) (d : Value) (hB : Blk w k #[.bool y.is, .bool y.has, d] 44) (hd : Rd w d y.frame) : Src Try.prog 3 39 (.slice (some ⟨k, 0, none⟩) 1 1) 1 (snC y d) w := by
  obtain ⟨pd, cd, rfl, _⟩ := id hd
  refine Src.ofSlice w Try.underlying39 _ 1 1 _ rfl (fun j u hj => ?_) (fun u hu => ?_)
  · have := hB.cellAt j u (by rw [← hj]; simp)
    simpa [Addr.add_lit] using this
  · simp only [snC, List.mem_cons, List.not_mem_nil, or_false] at hu
    rcases hu with rfl | rfl | rfl <;> rfl
theorem src_step (w : World) (k : Nat) (x : Sp) (d : Value) (hB : Blk w k (stC x d).toArray 35) (hd : Rd w d x.data) : Src Try.prog 8 24 (.slice (some ⟨k, 0, none⟩) 1 1) 1 (stC x d) w := by
  obtain ⟨pd, cd, rfl, _⟩ := id hd
  refine Src.ofSlice w Try.underlying24 _ 1 1 _ rfl (fun j u hj => ?_) (fun u hu => ?_)
  · have := hB.cellAt j u (by rw [← hj]; simp)
    simpa [Addr.add_lit] using this
  · simp only [stC, List.mem_cons, List.not_mem_nil, or_false] at hu
    rcases hu with rfl | rfl | rfl | rfl | rfl | rfl | rfl | rfl <;> rfl
/-- An append of one struct to a row: the operation's run. -/
theorem run_appendRow {α : Type} {cs : α → Value → List Value} {dat : α → List UInt8} {e : TypeId} {size bytes : Nat} {t : TypeId} {i : TypeInfo} {z : Value} (hu : Try.prog.underlying t = some (.slice e)) (hi : Try.prog.info? e = some i) (hz : i.zero = some z)
    (hsize : i.size = size) (hby : i.bytes = bytes) (hzs : z.cells.size = size) (hpos : 0 < size) (hbs : bytes ≤ 1000) {w : World} {ty : TypeId}
    (sv xv : Value) (xs : List α) (y : α) (d : Value) (hrow : RowAt cs dat e size w sv xs) (hr : Src Try.prog size t xv 1 (cs y d) w) (hlen : xs.length ≤ 1000000) (hnb : e ≠ 5) (hd : Rd w d (dat y)) :
    ∃ v' w', (Builtin.append_ #[t, t] ty #[sv, xv]).run Try.prog w = .ok v' w' ∧ RowAt cs dat e size w' v' (xs ++ [y]) ∧ Fr (fun k => sv.ownBlock = some k ∧ ¬ BytesBlk w k) w w' ∧ (∀ k, v'.ownBlock = some k → sv.ownBlock = some k ∨ (w.heap.size ≤ k ∧ k < w'.heap.size)) := by
  obtain ⟨h0, ds, h1, h2, h3⟩ := id hrow
  have hbb : (xs.length + 1) * bytes ≤ 140737488355328 := by
    have := Nat.mul_le_mul_left (xs.length + 1) hbs
    omega
  obtain ⟨v', w', hrun, g1, g2, g3⟩ := run_appendOwn (P := Try.prog) h2 t t ty i z bytes hu hi hz hsize hby hzs xv 1 (cs y d) hr (by omega) hbb hpos
  have hl := run_append_lt (P := Try.prog) h2 t t ty i z bytes hu hi hz hsize hby xv 1 (cs y d) hr (by omega) hbb v' w' hrun
  have hF : Fr (fun k => sv.ownBlock = some k ∧ ¬ BytesBlk w k) w w' := g2.mono (fun k _ hk => ⟨hk, RowAt.noBytes hnb hrow hk⟩)
  refine ⟨v', w', hrun, row_snoc h1 h3 (hF.bytes (fun k hk => hk.2)) (hd.keep (hF.bytes (fun k hk => hk.2))) g1, hF, fun k hk => ?_⟩
  rcases g3 k hk with e1 | e1
  · exact .inl e1
  · exact (hl k hk).imp id (fun e2 => ⟨e1, e2⟩)
theorem run_appendSeen {w : World} {ty : TypeId} (sv : Value) (ys : List Sn) (y : Sn) (d : Value) (k : Nat) (hrow : SeenAt w sv ys) (hB : Blk w k #[.bool y.is, .bool y.has, d] 44) (hlen : ys.length ≤ 1000000) (hd : Rd w d y.frame) :
    ∃ v' w', (Builtin.append_ #[39, 39] ty #[sv, .slice (some ⟨k, 0, none⟩) 1 1]).run Try.prog w = .ok v' w' ∧ SeenAt w' v' (ys ++ [y]) ∧ Fr (fun k => sv.ownBlock = some k ∧ ¬ BytesBlk w k) w w' ∧ (∀ k, v'.ownBlock = some k → sv.ownBlock = some k ∨ (w.heap.size ≤ k ∧ k < w'.heap.size)) := by
  obtain ⟨i, hi, hzz⟩ := Option.map_eq_some_iff.1 info44
  simp only [Prod.mk.injEq] at hzz
  obtain ⟨hz, hsz, hb⟩ := hzz
  exact run_appendRow Try.underlying39 hi hz hsz hb rfl (by omega) (by omega) sv _ ys y d hrow (src_seen w k y d hB hd) hlen (by decide) hd
theorem run_appendStep {w : World} {ty : TypeId} (sv : Value) (xs : List Sp) (x : Sp) (d : Value) (k : Nat) (hrow : StepsAt w sv xs) (hB : Blk w k (stC x d).toArray 35) (hlen : xs.length ≤ 1000000) (hd : Rd w d x.data) :
    ∃ v' w', (Builtin.append_ #[24, 24] ty #[sv, .slice (some ⟨k, 0, none⟩) 1 1]).run Try.prog w = .ok v' w' ∧ StepsAt w' v' (xs ++ [x]) ∧ Fr (fun k => sv.ownBlock = some k ∧ ¬ BytesBlk w k) w w' ∧ (∀ k, v'.ownBlock = some k → sv.ownBlock = some k ∨ (w.heap.size ≤ k ∧ k < w'.heap.size)) := by
  obtain ⟨i, hi, hzz⟩ := Option.map_eq_some_iff.1 info35
  simp only [Prod.mk.injEq] at hzz
  obtain ⟨hz, hsz, hb⟩ := hzz
  exact run_appendRow Try.underlying24 hi hz hsz hb rfl (by omega) (by omega) sv _ xs x d hrow (src_step w k x d hB hd) hlen (by decide) hd
theorem caught_idle (p : Addr) (w : World) :
    CallsD Try.prog 22 #[.pointer (some p)] .returning w fun e u' w' => e = .returned (.tuple #[]) ∧ u' = .returning ∧ w' = w := by
  refine callsD_of_wpS Try.func22 rfl fun c₀ cs hu => ?_
  apply wpS_seq
  apply wpS_region
  simp [wpOpsS, go_sem, recoverD, hu, Try.ntmps22, Exit.thenS]
  refine wpS_cond (t := false) (by simp [Act.eval, Array.replicate]) ?_
  simp only [Bool.false_eq_true, if_false]
  refine wpS_of_wp (wp_skip ?_)
  cases c₀
  simp_all [bodyPostS, results, Try.results22]

/-- Sizes are kept. -/
theorem lv_set (st : St) (n m : Nat) (L L' : Lv) (hn : n ≤ 2) (hm : m ≤ 2) (h : (st.set n L).lv m = some L') : (m = n ∧ L' = L) ∨ (m ≠ n ∧ st.lv m = some L') := by
  have h1 : n = 0 ∨ n = 1 ∨ n = 2 := by omega
  have h2 : m = 0 ∨ m = 1 ∨ m = 2 := by omega
  rcases h1 with rfl | rfl | rfl <;> rcases h2 with rfl | rfl | rfl <;> simp [St.set, St.lv] at h ⊢ <;> first | exact h.symm | exact h
/-- .. of the levels 0, 1, 2. -/
def SOk3 (N : Nat) (st : St) : Prop := ∀ n L, n ≤ 2 → st.lv n = some L → LOk N L
theorem SOk3.all {N : Nat} {st : St} (h : SOk3 N st) : SOk N st := fun n L e => by
  rcases Nat.lt_or_ge 2 n with c | c
  · exact h 2 L (by omega) (by
      have e1 : st.lv n = some st.app := by unfold St.lv; rw [if_neg (by omega), if_neg (by omega)]
      have e2 : st.lv 2 = some st.app := rfl
      rw [e2, ← e1, e])
  · exact h n L c e
theorem LOk.mono {N N' : Nat} {L : Lv} (h : LOk N L) (hN : N ≤ N') : LOk N' L := ⟨h.1, h.2.1, Nat.le_trans h.2.2.1 hN, Nat.le_trans h.2.2.2 hN⟩
theorem push_ok {N : Nat} {L : Lv} {c : Ct} (h : LOk N L) (hc : c.a ≤ 4294967296 ∧ c.b ≤ 4294967296 ∧ c.data.length ≤ 301) : LOk (N + 1) (St.push L c) := by
  obtain ⟨h1, h2, h3, h4⟩ := h
  have other : c.ty ≠ 6 → LOk (N + 1) (L.1, L.2 ++ [c]) := fun ht => by
    refine ⟨h1, fun y hy => ?_, Nat.le_succ_of_le h3, by simp; omega⟩
    rcases List.mem_append.1 hy with e | e
    · exact h2 y e
    · rw [List.mem_singleton.1 e]; exact ⟨⟨by omega, by omega, by omega⟩, ht⟩
  cases c
  case crypto a d =>
    have ha : a ≤ 4294967296 := hc.1
    have hd : d.length ≤ 301 := hc.2.2
    refine ⟨fun y hy => ?_, h2, by simp [St.push]; omega, Nat.le_succ_of_le h4⟩
    rcases List.mem_append.1 hy with e | e
    · exact h1 y e
    · rw [List.mem_singleton.1 e]; exact ⟨by show a + d.length ≤ _; omega, by show d.length ≤ _; omega⟩
  all_goals exact other (by simp [Ct.ty])
theorem nextO_ok {N M : Nat} {cs : List (Nat × List UInt8)} {os : List Ct} (h : LOk N (cs, os)) : LOk N (nextO M cs os).2 ∧ ∀ c, (nextO M cs os).1 = some c → c.Ok := by
  cases os with
  | nil => exact ⟨h, fun c e => nomatch e⟩
  | cons c os =>
    by_cases hc : c.enc.length ≤ M
    · rw [show nextO M cs (c :: os) = (some c, cs, os) from by simp [nextO, hc]]
      refine ⟨⟨h.1, fun y hy => h.2.1 y (List.mem_cons_of_mem _ hy), h.2.2.1, Nat.le_of_succ_le h.2.2.2⟩, fun y e => ?_⟩
      injection e with e; subst e
      exact (h.2.1 c List.mem_cons_self).1
    · rw [show nextO M cs (c :: os) = (none, cs, c :: os) from by simp [nextO, hc]]
      exact ⟨h, fun c e => nomatch e⟩
theorem nextF_ok {N M : Nat} {cs : List (Nat × List UInt8)} {os : List Ct} (h : LOk N (cs, os)) : LOk N (nextF M cs os).2 ∧ ∀ c, (nextF M cs os).1 = some c → c.Ok := by
  cases cs with
  | nil => exact nextO_ok h
  | cons x cs =>
    have hx := h.1 x List.mem_cons_self
    by_cases hfit : 1 + vlen x.1 + vlen x.2.length + x.2.length ≤ M
    · rw [show nextF M (x :: cs) os = (some (.crypto x.1 x.2), cs, os) from by simp [nextF, hfit]]
      refine ⟨⟨fun y hy => h.1 y (List.mem_cons_of_mem _ hy), h.2.1, Nat.le_of_succ_le h.2.2.1, h.2.2.2⟩, fun y e => ?_⟩
      injection e with e; subst e
      exact ⟨by show x.1 ≤ _; omega, by show 0 ≤ _; omega, hx.2⟩
    · by_cases h0 : room x.1 M = 0
      · rw [show nextF M (x :: cs) os = nextO M (x :: cs) os from by simp [nextF, hfit, h0]]
        exact nextO_ok h
      · rw [show nextF M (x :: cs) os = (some (.crypto x.1 (x.2.take (room x.1 M))), (x.1 + room x.1 M, x.2.drop (room x.1 M)) :: cs, os) from by simp [nextF, hfit, h0]]
        have hr := room_lt hx.2 hfit
        refine ⟨⟨fun y hy => ?_, h.2.1, h.2.2.1, h.2.2.2⟩, fun y e => ?_⟩
        · rcases List.mem_cons.1 hy with rfl | hy
          · simp only [List.length_drop]; omega
          · exact h.1 y (List.mem_cons_of_mem _ hy)
        · injection e with e; subst e
          exact ⟨by show x.1 ≤ _; omega, by show 0 ≤ _; omega, by show (x.2.take _).length ≤ _; rw [List.length_take]; omega⟩
theorem get_ok {N : Nat} {st : St} (h : SOk3 N st) (n M : Nat) (hn : n ≤ 2) : SOk3 N (st.get n M).2 ∧ ∀ c, (st.get n M).1 = some c → c.Ok := by
  unfold St.get
  cases e : st.lv n with
  | none => exact ⟨h, fun c e => nomatch e⟩
  | some L =>
    have := nextF_ok (M := M) (h n L hn e)
    refine ⟨fun m L' hm e' => ?_, this.2⟩
    rcases lv_set _ _ _ _ _ hn hm e' with ⟨_, rfl⟩ | ⟨_, e2⟩
    · exact this.1
    · exact h m L' hm e2
theorem step_ok {N : Nat} {st : St} {x : Sp} (h : SOk3 N st) (hx : x.Ok) : SOk3 (N + 1) (st.step x).2 := by
  have h' : SOk3 (N + 1) st := fun n L hn e => (h n L hn e).mono (by omega)
  cases x with
  | lost n c =>
    show SOk3 (N + 1) (st.lost n c)
    unfold St.lost
    cases e : st.lv n with
    | none => exact h'
    | some L =>
      intro m L' hm e'
      rcases lv_set _ _ _ _ _ hx.1 hm e' with ⟨_, rfl⟩ | ⟨_, e2⟩
      · exact push_ok (h n L hx.1 e) hx.2
      · exact h' m L' hm e2
  | get n M => exact fun m L hm e => (((get_ok h n M hx.1).1) m L hm e).mono (by omega)
  | has n => exact h'
  | drop n =>
    intro m L hm e
    have hn : n ≤ 1 := hx
    have e : (st.drop n).lv m = some L := e
    have h1 : n = 0 ∨ n = 1 := by omega
    have h2 : m = 0 ∨ m = 1 ∨ m = 2 := by omega
    rcases h1 with rfl | rfl <;> rcases h2 with rfl | rfl | rfl <;> simp [St.drop, St.lv] at e
    · exact h' 1 L (by omega) e
    · exact h' 2 L (by omega) (by simp [St.lv, e])
    · exact h' 0 L (by omega) e
    · exact h' 2 L (by omega) (by simp [St.lv, e])
theorem run_ok : ∀ (xs : List Sp) (N : Nat) (st : St), SOk3 N st → (∀ x ∈ xs, x.Ok) → SOk3 (N + xs.length) (st.run xs)
  | [], N, st, h, _ => h
  | x :: xs, N, st, h, hx => by
    have := run_ok xs (N + 1) (st.step x).2 (step_ok h (hx x List.mem_cons_self)) (fun y hy => hx y (List.mem_cons_of_mem _ hy))
    rw [show N + 1 + xs.length = N + (x :: xs).length from by simp; omega] at this
    exact this
theorem St0_ok : SOk3 0 St0 := fun n L hn e => by
  have h2 : n = 0 ∨ n = 1 ∨ n = 2 := by omega
  have : L = ([], []) := by rcases h2 with rfl | rfl | rfl <;> simp [St0, St.lv] at e <;> exact e.symm
  subst this
  exact ⟨(fun _ h => nomatch h), (fun _ h => nomatch h), Nat.le_refl _, Nat.le_refl _⟩
end Go.Proofs.Ytgdkbflhgcchfaa
