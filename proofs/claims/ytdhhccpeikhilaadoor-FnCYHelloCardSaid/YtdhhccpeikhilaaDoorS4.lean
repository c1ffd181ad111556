/- deleteConsecutive, newFrameSorter, HasMoreData, Pop. The frame sorter's Pop. -/
import Derived.Test.YtdhhccpeikhilaaDoorS2
import Derived.Laws.EntriesVeiled
import Derived.Deep.RegionLaw
namespace Go.Proofs.YtdhhccpeikhilaaDoor
open Go.RowKit

/-- Entries are not empty and end at 16384 or before. -/
def QOk (q : Nat → Option (List UInt8)) : Prop := ∀ k d, q k = some d → d ≠ [] ∧ k + d.length ≤ 16384
theorem QOk.rm {q : Nat → Option (List UInt8)} (h : QOk q) (p : Nat) : QOk (rmQ q p) := fun k d hk => by
  unfold rmQ at hk; split at hk
  · cases hk
  · exact h k d hk

set_option maxHeartbeats 1000000 in
set_option maxRecDepth 100000 in
theorem delC_any (w : World) (bS r p : Nat) {c : Array Value} {T : TypeId} (hS : Blk w bS c T) (h0 : c[0]? = some (.map (some r))) (q : Nat → Option (List UInt8)) (hq : QAt w r q) (hok : QOk q) (hp : p ≤ 4611686018427387903) :
    Calls Tryd.prog 70 #[pt bS, .int .i64 (p : Int)] w fun e w' => e = .returned (.tuple #[]) ∧ ∃ q', DelC q p q' ∧ QAt w' r q' ∧ Fr (fun i => i = r) w w' := by
  go_enter Tryd.func70, Tryd.ntmps70
  go_wp2_with fail
  go_loopw [1] (fun s1 wr => ∃ (pc : Nat) (qc : Nat → Option (List UInt8)), s1 = .int .i64 (pc : Int) ∧ pc ≤ 4611686018427387903 ∧ QAt wr r qc ∧ QOk qc ∧ Fr (fun i => i = r) w wr ∧ (∀ q', DelC qc pc q' → DelC q p q')) (fun s1 _ => 16385 - (intOf s1).toNat)
  case atStart => exact ⟨p, q, rfl, hp, hq, hok, Fr.refl _ _, fun _ h => h⟩
  case round =>
    obtain ⟨pc, qc, rfl, hpc, hqc, hokc, hf, hdel⟩ := hrel
    have hSr := hf.blk hS (fun e => hq.ne_blk hS e.symm)
    have hcell := hSr.cellAt 0 _ h0
    have hlt := hSr.lt
    rcases hqc.look pc with ⟨hn, hlk⟩ | ⟨l, s, hl, hs, hlk⟩
    · go_wp2_with fail
      go_end0
      exact ⟨rfl, qc, hdel qc (.stop hn), hqc.alloc _, hf.alloc _⟩
    · have hs' := hs
      obtain ⟨ps, cs, rfl, hlc, hcm, _⟩ := hs'
      obtain ⟨hne, hle⟩ := hokc pc l hl
      have hpos : 0 < l.length := List.length_pos_iff.2 hne
      have hnf := neq_nilFunc
      go_wp2_with (at_delete; refine wpList_delQ _ rfl _ _ rfl r pc qc (hqc.alloc _) rfl rfl ?_; intro w1 hq1 hf1; have hB := hf1.blk (Blk.new wr #[.slice ps l.length cs, .nilFunc] 125) (fun e => by have e : wr.heap.size = r := e; have := hqc.lt; omega); have c0 : w1.cell? ⟨wr.heap.size, 0, none⟩ = some (.slice ps l.length cs) := hB.cellAt 0 _ rfl; have c1 : w1.cell? ⟨wr.heap.size, 1, none⟩ = some .nilFunc := hB.cellAt 1 _ rfl; clear hlk)
      go_roundw
      case rel =>
        exact ⟨pc + l.length, rmQ qc pc, by go_num, by omega, hq1, hokc.rm pc, (hf.alloc _).trans hf1, fun q' h => hdel q' (.step hl h)⟩
      case measure => simp [intOf]; omega

/-- HasMoreData -/
theorem hasMore_any (w : World) (bS r : Nat) {c : Array Value} {T : TypeId} (hS : Blk w bS c T) (h0 : c[0]? = some (.map (some r))) (q : Nat → Option (List UInt8)) (hq : QAt w r q) :
    Calls Tryd.prog 49 #[pt bS] w fun e w' => w = w' ∧ ((e = .returned (.bool false) ∧ ∀ k, q k = none) ∨ (e = .returned (.bool true) ∧ ∃ k, q k ≠ none)) := by
  have hcell := hS.cellAt 0 _ h0
  obtain ⟨qv, h1, h2⟩ := hq
  obtain ⟨n, hn, hz⟩ := h1.len (P := Tryd.prog) (ty := 3) Tryd.underlying92 #[92] rfl
  go_enter Tryd.func49, Tryd.ntmps49
  go_wp2_with fail
  go_ret
  refine ⟨rfl, ?_⟩
  rcases Nat.eq_zero_or_pos n with h | h
  · refine .inl ⟨ret_bool (by simp [h]), fun k => ?_⟩
    have := hz.1 h k
    cases hk : q k with
    | none => rfl
    | some l => obtain ⟨v, hv, _⟩ := h2.some k l hk; rw [this] at hv; cases hv
  · refine .inr ⟨ret_bool (by simp [h]), ?_⟩
    refine Classical.byContradiction fun hne => ?_
    have hall : ∀ k, q k = none := fun k => Classical.byContradiction fun hk => hne ⟨k, hk⟩
    have := hz.2 (fun k => h2.none k (hall k))
    omega

/-- The greatest offset. -/
abbrev MAXB : Nat := 4611686018427387903

set_option maxHeartbeats 1000000 in
theorem newSorter_any (w : World) :
    Calls Tryd.prog 46 #[] w fun e w' => Grow w w' ∧ ∃ bS r bL b : Nat, e = .returned (pt bS) ∧ w.heap.size ≤ bS ∧ w.heap.size ≤ r ∧ w.heap.size ≤ bL ∧ w.heap.size ≤ b ∧ Blk w' bS #[.map (some r), .int .i64 0, pt bL] 95 ∧ ListAt w' bL [⟨b, 0, MAXB⟩] ∧ QAt w' r (fun _ => none) := by
  have hmm := @run_makeMap Tryd.prog
  go_enter Tryd.func46, Tryd.ntmps46
  go_wp2_with fail
  refine (New_any w).mono ?_
  rintro e w' ⟨rfl, rfl⟩
  go_wp2_with fail
  have hb0 : Blk (w.alloc (rootO w.heap.size w.heap.size 0)) w.heap.size (rootC w.heap.size w.heap.size 0) 138 := Blk.new w _ _
  have hM : QAt ((w.alloc (rootO w.heap.size w.heap.size 0)).alloc (.map #[] 0)) (w.heap.size + 1) (fun _ => none) := by
    have := MapAt.new (w.alloc (rootO w.heap.size w.heap.size 0))
    rw [World.size_alloc] at this
    exact ⟨_, this, ⟨fun _ _ => rfl, fun _ _ h => by cases h⟩⟩
  have hM3 := hM.alloc (.cells #[.map (some (w.heap.size + 1)), .int .i64 0, pt w.heap.size] 95)
  have hb3 := (hb0.alloc (.map #[] 0)).alloc (.cells #[.map (some (w.heap.size + 1)), .int .i64 0, pt w.heap.size] 95)
  have hS3 := Blk.newAt ((w.alloc (rootO w.heap.size w.heap.size 0)).alloc (.map #[] 0)) #[.map (some (w.heap.size + 1)), .int .i64 0, pt w.heap.size] 95 (w.heap.size + 2) (by simp)
  have hL3 : ListAt _ w.heap.size [] := ⟨hb3, fun i g h => by simp at h, fun i j g h h1 => by simp at h1⟩
  have hf3 : Grow w (((w.alloc (rootO w.heap.size w.heap.size 0)).alloc (.map #[] 0)).alloc (.cells #[.map (some (w.heap.size + 1)), .int .i64 0, pt w.heap.size] 95)) := (((Fr.refl _ w).alloc _).alloc _).alloc _
  have hsz : (((w.alloc (rootO w.heap.size w.heap.size 0)).alloc (.map #[] 0)).alloc (.cells #[.map (some (w.heap.size + 1)), .int .i64 0, pt w.heap.size] 95)).heap.size = w.heap.size + 3 := by simp
  refine (push_call hL3 0 MAXB).mono ?_
  rintro e w4 ⟨rfl, hL4, hf4⟩
  have nS : ∀ k, listS w.heap.size [] k → k = w.heap.size := fun k hk => by
    rcases hk with h | ⟨g, hg, _⟩
    · exact h
    · simp at hg
  have hS4 := hf4.blk hS3 (fun e => by have := nS _ e; omega)
  have hM4 := hM3.fr hf4 (fun e => by have := nS _ e; omega) (fun k hk => by rw [nS k hk]; exact hb3.noBytes (by decide))
  have hg4 : Grow w w4 := ⟨hf4.os.trans hf3.os, hf4.tape.trans hf3.tape, hf4.output.trans hf3.output, Nat.le_trans hf3.size hf4.size,
    fun k hk _ => (hf4.block k (by rw [hsz]; omega) (fun e => by have := nS k e; omega)).trans (hf3.block k hk (fun e => e))⟩
  rw [hsz] at hL4
  clear hb0 hM hM3 hb3 hS3 hL3 hf3 hf4 nS
  go_wp2_with fail
  go_ret
  exact ⟨hg4, w.heap.size + 2, w.heap.size + 1, w.heap.size, w.heap.size + 3 + 2, rfl, by omega, by omega, by omega, by omega, hS4, hL4, hM4⟩

set_option maxRecDepth 100000 in
set_option maxHeartbeats 1000000 in
theorem popS_none (w : World) (bS r rp : Nat) {c : Array Value} {T : TypeId} (hS : Blk w bS c T) (h0 : c[0]? = some (.map (some r))) (h1 : c[1]? = some (.int .i64 (rp : Int)))
    (q : Nat → Option (List UInt8)) (hq : QAt w r q) (hn : q rp = none) :
    Calls Tryd.prog 48 #[pt bS] w fun e w' => e = .returned (.tuple #[.int .i64 (rp : Int), .slice none 0 0, .nilFunc]) ∧ Grow w w' := by
  have c0 := hS.cellAt 0 _ h0
  have c1 := hS.cellAt 1 _ h1
  have hlt := hS.lt
  have hqd := hq.drew
  have hlk : (Instr.lookup 92 (.map (some r)) (.int .i64 (rp : Int)) true).run Tryd.prog w.drew = .ok (.tuple #[.agg #[.slice none 0 0, .nilFunc], .bool false]) w.drew := by
    rcases hqd.look rp with ⟨_, h⟩ | ⟨l, _, h, _⟩
    · exact h
    · rw [hn] at h; cases h
  have hlk2 : ∀ o, (Instr.lookup 92 (.map (some r)) (.int .i64 (rp : Int)) true).run Tryd.prog (w.alloc o).drew = .ok (.tuple #[.agg #[.slice none 0 0, .nilFunc], .bool false]) (w.alloc o).drew := fun o => by
    rcases (hq.alloc o).drew.look rp with ⟨_, h⟩ | ⟨l, _, h, _⟩
    · exact h
    · rw [hn] at h; cases h
  go_enter Tryd.func48, Tryd.ntmps48
  go_wp2_with fail
  go_region
  all_goals go_wp2_with fail
  all_goals go_ret3
  all_goals exact ⟨rfl, ((Fr.refl _ w).alloc _).drew⟩
end Go.Proofs.YtdhhccpeikhilaaDoor
namespace Go.Proofs.YtdhhccpeikhilaaDoor
open Go.RowKit
theorem ListAt.drewN {w : World} {bL : Nat} {ns : List Gap} (h : ListAt w bL ns) (n : Nat) : ListAt (w.drewN n) bL ns := ⟨h.root, h.node, h.inj⟩
theorem flip_world {P : Program} {f : FuncId} {args : Array Value} {w : World} {v : Value} (h : Calls P f args w fun e w' => e = .returned v ∧ w = w') : Calls P f args w fun e w' => e = .returned v ∧ w' = w :=
  h.mono fun _ _ ⟨a, b⟩ => ⟨a, b.symm⟩
set_option maxRecDepth 100000 in
set_option maxHeartbeats 2000000 in
theorem popS_some (w : World) (bS r rp bL : Nat) (gs : List Gap) (g0 : Gap) {c : Array Value} {T : TypeId} (hS : Blk w bS c T) (h0 : c[0]? = some (.map (some r))) (h1 : c[1]? = some (.int .i64 (rp : Int))) (h2 : c[2]? = some (pt bL))
    (hT : T ≠ 138) (hT2 : T ≠ 128) (hT5 : T ≠ 5) (hL : ListAt w bL gs) (hg0 : gs[0]? = some g0)
    (q : Nat → Option (List UInt8)) (hq : QAt w r q) (l : List UInt8) (hl : q rp = some l) (hlt0 : rp + l.length < g0.e) (hmx : g0.e ≤ MAXB) :
    Calls Tryd.prog 48 #[pt bS] w fun e w' => (∃ s, e = .returned (.tuple #[.int .i64 (rp : Int), s, .nilFunc]) ∧ Rd w' s l) ∧ Fr (fun k => k = bS ∨ k = r) w w' ∧ Blk w' bS (c.setIfInBounds 1 (.int .i64 ((rp + l.length : Nat) : Int))) T ∧ QAt w' r (rmQ q rp) := by
  have c0 := hS.cellAt 0 _ h0
  have c1 := hS.cellAt 1 _ h1
  have hlt := hS.lt
  obtain ⟨s, hs, hlk, hlk2⟩ : ∃ s, Rd w s l ∧ (Instr.lookup 92 (.map (some r)) (.int .i64 (rp : Int)) true).run Tryd.prog w.drew = .ok (.tuple #[.agg #[s, .nilFunc], .bool true]) w.drew ∧
      ∀ o, (Instr.lookup 92 (.map (some r)) (.int .i64 (rp : Int)) true).run Tryd.prog (w.alloc o).drew = .ok (.tuple #[.agg #[s, .nilFunc], .bool true]) (w.alloc o).drew := by
    obtain ⟨qv, k1, k2⟩ := hq
    obtain ⟨v, hv, s, rfl, hr⟩ := k2.some rp l hl
    refine ⟨s, hr, ?_, fun o => ?_⟩
    · have := k1.drew.look (P := Tryd.prog) (T := 92) Tryd.underlying92 Tryd.underlying67 zero125 rp
      rwa [hv] at this
    · have := (k1.alloc o).drew.look (P := Tryd.prog) (T := 92) Tryd.underlying92 Tryd.underlying67 zero125 rp
      rwa [hv] at this
  have hs' := hs
  obtain ⟨ps, cs, rfl, hlc, hcm, hrr⟩ := hs'
  have hlr := hq.lt
  have hne := hq.ne_blk hS
  have hqq := (hq.alloc (.cells #[.slice ps l.length cs, .nilFunc] 125)).drew.drew
  go_enter Tryd.func48, Tryd.ntmps48
  go_wp2_with fail
  go_region
  clear hlk hlk2
  go_upto_region 4 with fail
  go_cut [5] (fun s5 wx => s5 = pt w.heap.size ∧ QAt wx r (rmQ q rp) ∧ Fr (fun i => i = r) (w.alloc (.cells #[.slice ps l.length cs, .nilFunc] 125)).drew.drew wx)
  case first =>
    go_region_law (refine step_delQ rfl _ _ rfl r rp q hqq rfl rfl ?_; intro w1 hq1 hf1)
    all_goals (go_wp2_with fail; go_meet; exact ⟨rfl, by assumption, by assumption⟩)
  case rest =>
    obtain ⟨rfl, hq1, hf1⟩ := hcut
    have hSc := hf1.blk (((hS.alloc (.cells #[.slice ps l.length cs, .nilFunc] 125)).drew).drew) (fun e => hne e.symm)
    have d0 := hSc.cellAt 0 _ h0
    have d1 := hSc.cellAt 1 _ h1
    have d2 := hSc.cellAt 2 _ h2
    have df := hSc.free
    have hlt' := hSc.lt
    have hB := hf1.blk ((Blk.new w #[.slice ps l.length cs, .nilFunc] 125).drew.drew) (fun e => by have e : w.heap.size = r := e; omega)
    have b0 : wc.cell? ⟨w.heap.size, 0, none⟩ = some (.slice ps l.length cs) := hB.cellAt 0 _ rfl
    have b1 : wc.cell? ⟨w.heap.size, 1, none⟩ = some .nilFunc := hB.cellAt 1 _ rfl
    have hne2 : bS ≠ w.heap.size := by omega
    have hb1 : rp + l.length ≤ 4611686018427387903 := by unfold MAXB at hmx; omega
    have hLc : ListAt wc bL gs := by
      refine hL.same ?_ (fun g hg => ?_)
      · rw [hf1.block bL (by have := hL.root.lt; simp; omega) (fun e => hq.ne_blk hL.root e.symm)]
        exact Below.heap_alloc _ _ _ hL.root.lt
      · obtain ⟨j, hj⟩ := List.mem_iff_getElem?.1 hg
        have hn := hL.node j g hj
        rw [hf1.block g.b (by have := hn.lt; simp; omega) (fun e => hq.ne_blk hn e.symm)]
        exact Below.heap_alloc _ _ _ hn.lt
    have hLd : ListAt (wc.setCell ⟨bS, 1, none⟩ (.int .i64 ((rp : Int) + (l.length : Int)))).drew bL gs := by
      refine (hLc.same (Below.heap_setCell _ _ _ _ ?_) (fun g hg => Below.heap_setCell _ _ _ _ ?_)).drew
      · exact fun e => hS.ne_of_type (hL.root) hT e.symm
      · obtain ⟨j, hj⟩ := List.mem_iff_getElem?.1 hg
        exact fun e => hS.ne_of_type (hL.node j g hj) hT2 e.symm
    have f4 : (wc.setCell ⟨bS, 1, none⟩ (.int .i64 ((rp : Int) + (l.length : Int)))).drew.cell? ⟨g0.b, 4, none⟩ = some (.int .i64 (g0.e : Int)) := (hLd.node 0 g0 hg0).cellAt 4 _ rfl
    have hlt3 : ((g0.e : Int) ≤ (rp : Int) + (l.length : Int)) = False := by simp; omega
    go_wp2_with fail
    go_region
    go_wp2_with fail
    go_cut [61] (fun s61 wx => s61 = .bool false ∧ wx = (wc.setCell ⟨bS, 1, none⟩ (.int .i64 ((rp : Int) + (l.length : Int)))).drew.drew)
    case first =>
      go_region_with (go_at_call 57; refine (front_call hLd.drew hg0).mono ?_; rintro e w' ⟨rfl, rfl⟩)
      all_goals (go_wp2_with fail; go_meet; exact ⟨by simp, rfl⟩)
    case rest =>
      obtain ⟨rfl, rfl⟩ := hcut
      go_wp2_with fail
      go_region
      go_wp2_with fail
      go_ret3
      have hcast : ((rp : Int) + (l.length : Int)) = ((rp + l.length : Nat) : Int) := by omega
      rw [hcast]
      have hfin : Fr (fun k => k = bS ∨ k = r) w ((wc.setCell ⟨bS, 1, none⟩ (.int .i64 ((rp + l.length : Nat) : Int))).drew.drew.drew) := by
        have hw1 : Fr (fun k => k = bS ∨ k = r) w wc := (((((Fr.refl _ w).alloc _).drew).drew)).trans (hf1.mono (fun _ _ e => .inr e))
        exact (((hw1.setCell _ _ (.inl (.inl rfl))).drew).drew).drew
      refine ⟨⟨_, rfl, hs.keep (hfin.bytes ?_)⟩, hfin, ((((hSc.set 1 _)).drew).drew).drew, ?_⟩
      · rintro k (rfl | rfl)
        · exact hS.noBytes hT5
        · exact hq.noBytes
      · exact (((hq1.setCell ⟨bS, 1, none⟩ _ hSc hT5).drew).drew).drew
end Go.Proofs.YtdhhccpeikhilaaDoor
