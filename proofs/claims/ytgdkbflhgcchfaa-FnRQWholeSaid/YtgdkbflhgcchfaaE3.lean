/- Rows for FnRQWhole: acts kept, what was queued. -/
import Derived.Test.YtgdkbflhgcchfaaE2
import Derived.Test.YtgdkbflhgcchfaaB9
import Derived.Test.YtgdkbflhgcchfaaB4
import Derived.Test.YtgdkbflhgcchfaaB13
import Derived.ChangeKeysEq
import Derived.Laws.StructEq
namespace Go.Proofs.Ytgdkbflhgcchfaa
open Go.RowKit

/-- What is queued of an act, as it stands on the wire. -/
def qf : Sp → List UInt8 | .lost _ c => c.enc | _ => V 0
abbrev cQ (_ : List UInt8) (d : Value) : List Value := [d]
abbrev RowQ (w : World) (v : Value) (ls : List (List UInt8)) : Prop := RowAt cQ id 31 1 w v ls
theorem run_appendQ {w : World} {ty : TypeId} (sv : Value) (ls : List (List UInt8)) (l : List UInt8) (d : Value) (k : Nat) (hrow : RowQ w sv ls) (hB : Blk w k #[d] 31) (hlen : ls.length ≤ 1000000) (hd : Rd w d l) :
    ∃ v' w', (Builtin.append_ #[36, 36] ty #[sv, .slice (some ⟨k, 0, none⟩) 1 1]).run Try.prog w = .ok v' w' ∧ RowQ w' v' (ls ++ [l]) ∧ Fr (fun k => sv.ownBlock = some k ∧ ¬ BytesBlk w k) w w' ∧ (∀ k, v'.ownBlock = some k → sv.ownBlock = some k ∨ (w.heap.size ≤ k ∧ k < w'.heap.size)) := by
  obtain ⟨i, hi, hzz⟩ := Option.map_eq_some_iff.1 info31
  simp only [Prod.mk.injEq] at hzz
  obtain ⟨hz, hsz, hb⟩ := hzz
  refine run_appendRow Try.underlying36 hi hz hsz hb rfl (by omega) (by omega) sv _ ls l d hrow ?_ hlen (by decide) hd
  obtain ⟨pd, cd, rfl, _⟩ := id hd
  refine Src.ofSlice w Try.underlying36 _ 1 1 _ rfl (fun j u hj => ?_) (fun u hu => ?_)
  · have := hB.cellAt j u (by rw [← hj]; simp)
    simpa [Addr.add_lit] using this
  · simp only [cQ, List.mem_cons, List.not_mem_nil, or_false] at hu
    rw [hu]; rfl
/-- RQOther of an act's frame. -/
theorem other_of (w : World) (x : Sp) (hx : x.Ok) (d : Value) (hd : Rd w d x.data) :
    Calls Try.prog 7 #[.agg #[.int .i64 (x.ty : Int), .int .u64 (x.a : Int), .int .u64 (x.b : Int), .int .u64 (x.c : Int), d]] w fun e w' => ∃ v' l, e = .returned v' ∧ Buf w w' v' l ∧ (x.ty ≠ 6 → l = qf x) := by
  cases x with
  | lost n c =>
    obtain ⟨_, ha, hb, hm⟩ := hx
    by_cases h6 : c.ty = 6
    · cases c
      case crypto a m =>
        refine (other_six w a 0 0 d m hd (by have : a ≤ 4294967296 := ha; omega) (by omega) (by omega) (by have : m.length ≤ 301 := hm; omega)).mono ?_
        rintro e w' ⟨v', rfl, hB⟩
        exact ⟨v', _, rfl, hB, fun h => absurd rfl h⟩
      all_goals (simp [Ct.ty] at h6)
    · refine (other_ct w c d hd ⟨by omega, by omega, by omega⟩ h6).mono ?_
      rintro e w' ⟨v', rfl, hB⟩
      exact ⟨v', _, rfl, hB, fun _ => rfl⟩
  | get n M =>
    refine (other_zero w 0 0 0 d [] hd (by omega) (by omega) (by omega) (by decide)).mono ?_
    rintro e w' ⟨v', rfl, hB⟩
    exact ⟨v', _, rfl, hB, fun _ => rfl⟩
  | has n =>
    refine (other_zero w 0 0 0 d [] hd (by omega) (by omega) (by omega) (by decide)).mono ?_
    rintro e w' ⟨v', rfl, hB⟩
    exact ⟨v', _, rfl, hB, fun _ => rfl⟩
  | drop n =>
    refine (other_zero w 0 0 0 d [] hd (by omega) (by omega) (by omega) (by decide)).mono ?_
    rintro e w' ⟨v', rfl, hB⟩
    exact ⟨v', _, rfl, hB, fun _ => rfl⟩
/-- RQCrypto of an act's frame. -/
theorem crypto_of (w : World) (x : Sp) (hx : x.Ok) (h6 : x.ty = 6) (d : Value) (hd : Rd w d x.data) :
    x.a ≤ 4294967296 ∧ Calls Try.prog 8 #[.int .i64 (x.a : Int), d] w fun e w' => ∃ v', e = .returned v' ∧ Buf w w' v' (qf x) := by
  cases x with
  | lost n c =>
    obtain ⟨_, ha, hb, hm⟩ := hx
    cases c
    case crypto a m =>
      have ha : a ≤ 4294967296 := ha
      have hm : m.length ≤ 301 := hm
      exact ⟨ha, refCrypto_any w a d m hd (by omega) (by omega)⟩
    all_goals (simp [Sp.ty, Ct.ty] at h6)
  | get n M => simp [Sp.ty] at h6
  | has n => simp [Sp.ty] at h6
  | drop n => simp [Sp.ty] at h6
/-- Acts that are kept. -/
def nd (x : Sp) : Bool := x.kind != 3
theorem StepsAt.noBytes {w : World} {v : Value} {xs : List Sp} (h : StepsAt w v xs) {k : Nat} (hk : v.ownBlock = some k) : ¬ BytesBlk w k := RowAt.noBytes (by decide) h hk
/-- The first loop. -/
structure W1 (w wr : World) (v0 s : Value) (xs ys : List Sp) : Prop where
  grow : Grow w wr
  all : StepsAt wr v0 xs
  kept : StepsAt wr s ys
  new : ∀ k, s.ownBlock = some k → w.heap.size ≤ k ∧ v0.ownBlock ≠ some k
section
variable {w wr w' : World} {v0 s s' : Value} {xs ys : List Sp}
theorem W1.growTo (h : W1 w wr v0 s xs ys) (hG : Grow wr w') : W1 w w' v0 s xs ys := ⟨h.grow.trans hG, h.all.grow hG, h.kept.grow hG, h.new⟩
theorem W1.app (h : W1 w wr v0 s xs ys) {ys' : List Sp} (hS : StepsAt w' s' ys') (hF : Fr (fun k => s.ownBlock = some k ∧ ¬ BytesBlk wr k) wr w') (hv : ∀ k, s'.ownBlock = some k → s.ownBlock = some k ∨ (wr.heap.size ≤ k ∧ k < w'.heap.size)) : W1 w w' v0 s' xs ys' := by
  have hkb := hF.bytes (fun k hk => hk.2)
  refine ⟨h.grow.trans' hF (fun k hk => (h.new k hk.1).1), h.all.keep (fun k hk => hF.block k (h.all.lt hk) (fun e => (h.new k e.1).2 hk)) hkb, hS, fun k hk => ?_⟩
  rcases hv k hk with e | e
  · exact h.new k e
  · exact ⟨Nat.le_trans h.grow.size e.1, fun e2 => by have := h.all.lt e2; omega⟩
/-- The third loop: what is queued. -/
structure W3 (w wr : World) (v0 s : Value) (xs : List Sp) (ls : List (List UInt8)) : Prop where
  grow : Grow w wr
  all : StepsAt wr v0 xs
  q : RowQ wr s ls
  new : ∀ k, s.ownBlock = some k → w.heap.size ≤ k
theorem W3.growTo {ls : List (List UInt8)} (h : W3 w wr v0 s xs ls) (hG : Grow wr w') : W3 w w' v0 s xs ls := ⟨h.grow.trans hG, h.all.grow hG, h.q.grow hG, h.new⟩
theorem W3.app {ls ls' : List (List UInt8)} (h : W3 w wr v0 s xs ls) (hS : RowQ w' s' ls') (hF : Fr (fun k => s.ownBlock = some k ∧ ¬ BytesBlk wr k) wr w') (hv : ∀ k, s'.ownBlock = some k → s.ownBlock = some k ∨ (wr.heap.size ≤ k ∧ k < w'.heap.size)) : W3 w w' v0 s' xs ls' := by
  have hkb := hF.bytes (fun k hk => hk.2)
  refine ⟨h.grow.trans' hF (fun k hk => h.new k hk.1), h.all.keep (fun k hk => hF.block k (h.all.lt hk) (fun e => ?_)) hkb, hS, fun k hk => ?_⟩
  · obtain ⟨cur, f, hc⟩ := h.all.1 k hk
    obtain ⟨cur', f', hc'⟩ := h.q.1 k e.1
    have := Option.some.inj (hc.symm.trans hc')
    injection this with _ x _
    exact absurd x (by decide)
  · rcases hv k hk with e | e
    · exact h.new k e
    · exact Nat.le_trans h.grow.size e.1
end
theorem CntAt.keeps {w w' : World} {m1 m2 : Nat} {F : Pt → Nat → Int} {G : List UInt8 → Int} (h : CntAt w m1 m2 F G) (hF : Fr (fun k => k = m1 ∨ k = m2) w w') : ∀ (k : Nat) (cur : Array Value) (T : TypeId) (f : Nat × Nat), w.heap[k]? = some (Obj.cells cur T f) → w'.heap[k]? = w.heap[k]? := fun k cur T f hk => by
  refine hF.block k (Array.getElem?_eq_some_iff.1 hk).1 (fun e => ?_)
  obtain ⟨⟨q1, h1, _⟩, ⟨q2, h2, _⟩, _⟩ := h
  rcases e with rfl | rfl
  · obtain ⟨es, clock, h, _⟩ := h1; rw [hk] at h; cases h
  · obtain ⟨es, clock, h, _⟩ := h2; rw [hk] at h; cases h
theorem CntAt.keepB {w w' : World} {m1 m2 : Nat} {F : Pt → Nat → Int} {G : List UInt8 → Int} (h : CntAt w m1 m2 F G) (hF : Fr (fun k => k = m1 ∨ k = m2) w w') : KeepB w w' := fun k ⟨c, f, hb⟩ => h.keeps hF k c 5 f hb
theorem CntAt.row {α : Type} {cs : α → Value → List Value} {dat : α → List UInt8} {e : TypeId} {size : Nat} {w w' : World} {m1 m2 : Nat} {F : Pt → Nat → Int} {G : List UInt8 → Int} {v : Value} {xs : List α} (h : CntAt w m1 m2 F G) (hF : Fr (fun k => k = m1 ∨ k = m2) w w') (hr : RowAt cs dat e size w v xs) : RowAt cs dat e size w' v xs :=
  hr.keep (fun k hk => by obtain ⟨cur, f, hc⟩ := hr.1 k hk; exact h.keeps hF k cur e f hc) (h.keepB hF)
theorem CntAt.blk {w w' : World} {m1 m2 : Nat} {F : Pt → Nat → Int} {G : List UInt8 → Int} {b : Nat} {C : Array Value} {T : TypeId} (h : CntAt w m1 m2 F G) (hF : Fr (fun k => k = m1 ∨ k = m2) w w') (hb : Blk w b C T) : Blk w' b C T := hb.same (h.keeps hF b C T (0, 0) hb)
theorem sees_at (zs : List Sp) (i : Nat) (x : Sp) (h : zs[i]? = some x) : (sees St0 zs)[i]? = some ((St0.run (zs.take i)).step x).1 := by
  have hi : i < zs.length := (List.getElem?_eq_some_iff.1 h).1
  have e : zs = zs.take i ++ x :: zs.drop (i + 1) := by
    have h1 := List.take_append_drop i zs
    have h2 : zs.drop i = zs[i]'hi :: zs.drop (i + 1) := List.drop_eq_getElem_cons hi
    have h3 : zs[i]'hi = x := (List.getElem?_eq_some_iff.1 h).2
    rw [h2, h3] at h1
    exact h1.symm
  have e2 : sees St0 zs = sees St0 (zs.take i) ++ sees (St0.run (zs.take i)) (x :: zs.drop (i + 1)) := by
    conv => lhs; rw [e]
    exact sees_append _ _ _
  rw [e2, List.getElem?_append_right (by rw [sees_length, List.length_take]; omega), sees_length, List.length_take, Nat.min_eq_left (by omega), Nat.sub_self]
  rfl
theorem info3s : (Try.prog.info? 3).map (fun i => i.size) = some 1 := by kernel_rfl
theorem eqItems_zero (w : World) (d : Nat) (xs ys : Array Value) : ∀ is : List Nat, (∀ i ∈ is, xs[i]? = some (.int .i64 0) ∧ ys[i]? = some (.int .i64 0)) → (Op.eqItems (d + 1) 3 (Try.prog.cellsOf 3) xs ys is).run Try.prog w = .ok true w
  | [], _ => by simp [Op.eqItems]
  | i :: is, h => by
    have hc : Try.prog.cellsOf 3 = 1 := by kernel_rfl
    have hp : Try.prog.plainKey 3 = true := by kernel_rfl
    obtain ⟨h1, h2⟩ := h i List.mem_cons_self
    have p1 := run_part_plain (P := Try.prog) w hp (xs := xs) (off := i * Try.prog.cellsOf 3) (by rw [hc, Nat.mul_one]; exact h1)
    have p2 := run_part_plain (P := Try.prog) w hp (xs := ys) (off := i * Try.prog.cellsOf 3) (by rw [hc, Nat.mul_one]; exact h2)
    have p3 := run_equalIn_int (P := Try.prog) w d 3 .i64 .i64 0 0 Try.underlying3
    have ih := eqItems_zero w d xs ys is (fun j hj => h j (List.mem_cons_of_mem _ hj))
    simp only [Op.eqItems, Sem.run_bind, p1, p2, p3, Result.andThen_ok]
    simpa using ih
theorem zeros46 : Try.zeroCells46 = arrC fun _ => 0 := by kernel_rfl
theorem eq46 (w : World) : (Op.equalIn 10000 46 (.agg (arrC fun _ => 0)) (.agg Try.zeroCells46)).run Try.prog w = .ok true w := by
  obtain ⟨i, hi, _⟩ := Option.map_eq_some_iff.1 info3s
  rw [zeros46]
  have := run_equalIn_array (P := Try.prog) w 9999 (arrC fun _ => 0) (arrC fun _ => 0) Try.underlying46 hi
  refine this.trans (eqItems_zero w 9998 _ _ _ (fun j hj => ?_))
  have hj : j < 256 := List.mem_range.1 hj
  have : (arrC fun _ => 0)[j]? = some (.int .i64 0) := by rw [Array.getElem?_ofFn, dif_pos hj]
  exact ⟨this, this⟩
/-- The fourth loop: what it reads. -/
structure W4 (w : World) (m1 : Nat) (vz vq vs : Value) (zs : List Sp) : Prop where
  cnt : CntAt w m1 (m1 + 1) (cntF St0) (cntG St0)
  steps : StepsAt w vz zs
  q : RowQ w vq (zs.map qf)
  seen : SeenAt w vs (sees St0 zs)
  box : Blk w (m1 + 1 + 1) #[.map (some m1), .map (some (m1 + 1))] 28
end Go.Proofs.Ytgdkbflhgcchfaa
