/- The frame sorter's Pop. -/
import Derived.Test.YtdhhccpeikhilaaDoorS3
import Derived.Deep.RegionLaw
namespace Go.Proofs.YtdhhccpeikhilaaDoor
open Go.RowKit
theorem ListAt.drewN {w : World} {bL : Nat} {ns : List Gap} (h : ListAt w bL ns) (n : Nat) : ListAt (w.drewN n) bL ns := ⟨h.root, h.node, h.inj⟩
theorem flip_world {P : Program} {f : FuncId} {args : Array Value} {w : World} {v : Value} (h : Calls P f args w fun e w' => e = .returned v ∧ w = w') : Calls P f args w fun e w' => e = .returned v ∧ w' = w :=
  h.mono fun _ _ ⟨a, b⟩ => ⟨a, b.symm⟩
set_option maxRecDepth 100000 in
set_option maxHeartbeats 2000000 in
theorem popS_some (w : World) (bS r rp bL : Nat) (gs : List Gap) (g0 : Gap) {c : Array Value} {T : TypeId} (hS : Blk w bS c T) (h0 : c[0]? = some (.map (some r))) (h1 : c[1]? = some (.int .i64 (rp : Int))) (h2 : c[2]? = some (pt bL))
    (hT : T ≠ 138) (hT2 : T ≠ 128) (hT5 : T ≠ 5) (hL : ListAt w bL gs) (hg0 : gs[0]? = some g0)
    (q : Nat → Option (List UInt8)) (hq : QAt w r q) (l : List UInt8) (hl : q rp = some l) (hlt0 : rp + l.length < g0.e) (hmx : g0.e ≤ MAXB) :
    Calls Tryd.prog 48 #[pt bS] w fun e w' => (∃ s, e = .returned (.tuple #[.int .i64 (rp : Int), s, .nilFunc]) ∧ Rd w' s l) ∧ Fr (fun k => k = bS ∨ k = r) w w' ∧ Blk w' bS (c.setIfInBounds 1 (.int .i64 ((rp + l.length : Nat) : Int))) T ∧ QAt w' r (rmQ q rp) := by
  have c0 := hS.cellAt 0 _ h0
  have c1 := hS.cellAt 1 _ h1
  have hlt := hS.lt
  obtain ⟨s, hs, hlk, hlk2⟩ : ∃ s, Rd w s l ∧ (Instr.lookup 92 (.map (some r)) (.int .i64 (rp : Int)) true).run Tryd.prog w.drew = .ok (.tuple #[.agg #[s, .nilFunc], .bool true]) w.drew ∧
      ∀ o, (Instr.lookup 92 (.map (some r)) (.int .i64 (rp : Int)) true).run Tryd.prog (w.alloc o).drew = .ok (.tuple #[.agg #[s, .nilFunc], .bool true]) (w.alloc o).drew := by
    obtain ⟨qv, k1, k2⟩ := hq
    obtain ⟨v, hv, s, rfl, hr⟩ := k2.some rp l hl
    refine ⟨s, hr, ?_, fun o => ?_⟩
    · have := k1.drew.look (P := Tryd.prog) (T := 92) Tryd.underlying92 Tryd.underlying67 zero125 rp
      rwa [hv] at this
    · have := (k1.alloc o).drew.look (P := Tryd.prog) (T := 92) Tryd.underlying92 Tryd.underlying67 zero125 rp
      rwa [hv] at this
  have hs' := hs
  obtain ⟨ps, cs, rfl, hlc, hcm, hrr⟩ := hs'
  have hlr := hq.lt
  have hne := hq.ne_blk hS
  have hqq := (hq.alloc (.cells #[.slice ps l.length cs, .nilFunc] 125)).drew.drew
  go_enter Tryd.func48, Tryd.ntmps48
  go_wp2_with fail
  go_region
  clear hlk hlk2
  go_upto_region 4 with fail
  go_cut [5] (fun s5 wx => s5 = pt w.heap.size ∧ QAt wx r (rmQ q rp) ∧ Fr (fun i => i = r) (w.alloc (.cells #[.slice ps l.length cs, .nilFunc] 125)).drew.drew wx)
  case first =>
    go_region_law (refine step_delQ rfl _ _ rfl r rp q hqq rfl rfl ?_; intro w1 hq1 hf1)
    all_goals (go_wp2_with fail; go_meet; exact ⟨rfl, by assumption, by assumption⟩)
  case rest =>
    obtain ⟨rfl, hq1, hf1⟩ := hcut
    have hSc := hf1.blk (((hS.alloc (.cells #[.slice ps l.length cs, .nilFunc] 125)).drew).drew) (fun e => hne e.symm)
    have d0 := hSc.cellAt 0 _ h0
    have d1 := hSc.cellAt 1 _ h1
    have d2 := hSc.cellAt 2 _ h2
    have df := hSc.free
    have hlt' := hSc.lt
    have hB := hf1.blk ((Blk.new w #[.slice ps l.length cs, .nilFunc] 125).drew.drew) (fun e => by have e : w.heap.size = r := e; omega)
    have b0 : wc.cell? ⟨w.heap.size, 0, none⟩ = some (.slice ps l.length cs) := hB.cellAt 0 _ rfl
    have b1 : wc.cell? ⟨w.heap.size, 1, none⟩ = some .nilFunc := hB.cellAt 1 _ rfl
    have hne2 : bS ≠ w.heap.size := by omega
    have hb1 : rp + l.length ≤ 4611686018427387903 := by unfold MAXB at hmx; omega
    have hLc : ListAt wc bL gs := by
      refine hL.same ?_ (fun g hg => ?_)
      · rw [hf1.block bL (by have := hL.root.lt; simp; omega) (fun e => hq.ne_blk hL.root e.symm)]
        exact Below.heap_alloc _ _ _ hL.root.lt
      · obtain ⟨j, hj⟩ := List.mem_iff_getElem?.1 hg
        have hn := hL.node j g hj
        rw [hf1.block g.b (by have := hn.lt; simp; omega) (fun e => hq.ne_blk hn e.symm)]
        exact Below.heap_alloc _ _ _ hn.lt
    have hLd : ListAt (wc.setCell ⟨bS, 1, none⟩ (.int .i64 ((rp : Int) + (l.length : Int)))).drew bL gs := by
      refine (hLc.same (Below.heap_setCell _ _ _ _ ?_) (fun g hg => Below.heap_setCell _ _ _ _ ?_)).drew
      · exact fun e => hS.ne_of_type (hL.root) hT e.symm
      · obtain ⟨j, hj⟩ := List.mem_iff_getElem?.1 hg
        exact fun e => hS.ne_of_type (hL.node j g hj) hT2 e.symm
    have f4 : (wc.setCell ⟨bS, 1, none⟩ (.int .i64 ((rp : Int) + (l.length : Int)))).drew.cell? ⟨g0.b, 4, none⟩ = some (.int .i64 (g0.e : Int)) := (hLd.node 0 g0 hg0).cellAt 4 _ rfl
    have hlt3 : ((g0.e : Int) ≤ (rp : Int) + (l.length : Int)) = False := by simp; omega
    go_wp2_with fail
    go_region
    go_wp2_with fail
    go_cut [61] (fun s61 wx => s61 = .bool false ∧ wx = (wc.setCell ⟨bS, 1, none⟩ (.int .i64 ((rp : Int) + (l.length : Int)))).drew.drew)
    case first =>
      go_region_with (go_at_call 57; refine (front_call hLd.drew hg0).mono ?_; rintro e w' ⟨rfl, rfl⟩)
      all_goals (go_wp2_with fail; go_meet; exact ⟨by simp, rfl⟩)
    case rest =>
      obtain ⟨rfl, rfl⟩ := hcut
      go_wp2_with fail
      go_region
      go_wp2_with fail
      go_ret3
      have hcast : ((rp : Int) + (l.length : Int)) = ((rp + l.length : Nat) : Int) := by omega
      rw [hcast]
      have hfin : Fr (fun k => k = bS ∨ k = r) w ((wc.setCell ⟨bS, 1, none⟩ (.int .i64 ((rp + l.length : Nat) : Int))).drew.drew.drew) := by
        have hw1 : Fr (fun k => k = bS ∨ k = r) w wc := (((((Fr.refl _ w).alloc _).drew).drew)).trans (hf1.mono (fun _ _ e => .inr e))
        exact (((hw1.setCell _ _ (.inl (.inl rfl))).drew).drew).drew
      refine ⟨⟨_, rfl, hs.keep (hfin.bytes ?_)⟩, hfin, ((((hSc.set 1 _)).drew).drew).drew, ?_⟩
      · rintro k (rfl | rfl)
        · exact hS.noBytes hT5
        · exact hq.noBytes
      · exact (((hq1.setCell ⟨bS, 1, none⟩ _ hSc hT5).drew).drew).drew
end Go.Proofs.YtdhhccpeikhilaaDoor
