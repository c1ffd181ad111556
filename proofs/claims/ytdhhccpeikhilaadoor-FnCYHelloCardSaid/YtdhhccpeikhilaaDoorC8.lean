/- A CRYPTO stream that sends: PopCryptoFrame. The plain CRYPTO stream's sending side behind its door. The thin package's 'caught', where nothing panics. -/
import Derived.Test.YtdhhccpeikhilaaDoorC5
import Derived.BigQuiet
import Derived.Lib.Hide
import Derived.Defers
import Derived.Recover
namespace Go.Proofs.YtdhhccpeikhilaaDoor
open Go.RowKit

set_option maxRecDepth 100000 in
set_option maxHeartbeats 1000000 in
theorem pop_nothing (w : World) (b r bL rp hi wo m : Nat) (fin : Bool) (wb : Value) (l : List UInt8) (hb : Blk w b (cryC r bL rp hi fin wo wb) 99) (ho : OwnB w wb l) (hwo : wo ≤ 1000000000) (hm : m ≤ 1000000) (hl : l.length ≤ 1000000) (hn : min (room wo m) l.length = 0) :
    Calls Tryd.prog 42 #[pt b, .int .i64 (m : Int)] w fun e w' => e = .returned (.pointer none) ∧ Grow w w' := by
  obtain ⟨_, p, cap, rfl, _⟩ := ho
  have hb1 := hb.alloc (.cells #[.int .i64 (wo : Int), .slice none 0 0] 69)
  have hf1 := Blk.new w #[.int .i64 (wo : Int), .slice none 0 0] 69
  have hG : Grow w (w.alloc (.cells #[.int .i64 (wo : Int), .slice none 0 0] 69)) := (Fr.refl _ _).alloc _
  have c5 : w.cell? ⟨b, 5, none⟩ = some (.int .i64 (wo : Int)) := hb.cellAt 5 _ rfl
  have hlt := hb.lt
  have hmin : ((room wo m : Nat) : Int) ≤ 0 ∨ ((l.length : Nat) : Int) ≤ 0 := by omega
  go_enter Tryd.func42, Tryd.ntmps42
  go_upto_region 2 with fail
  generalize w.alloc (.cells #[.int .i64 (wo : Int), .slice none 0 0] 69) = w1 at *
  have c6 : w1.cell? ⟨b, 6, none⟩ = some (.slice p l.length cap) := hb1.cellAt 6 _ rfl
  have hlt1 := hb1.lt
  go_quiet (first | (go_at_call 53; refine Calls.quiet_of_same (flip_world (maxDataLen_any _ _ wo m _ hf1 hwo hm))))
  have hite : (if l.length < room wo m then (l.length : Int) else (room wo m : Int)) = 0 := by split <;> omega
  rw [hite]
  have hG2 : Grow w (w1.drewN nq) := hG.trans (drewN_grow w1 nq)
  clear hite
  go_wp2_with fail
  go_ret
  exact ⟨rfl, hG2⟩

set_option maxRecDepth 100000 in
set_option maxHeartbeats 1000000 in
theorem pop_some (w : World) (b r bL rp hi wo m : Nat) (fin : Bool) (wb : Value) (l : List UInt8) (hb : Blk w b (cryC r bL rp hi fin wo wb) 99) (ho : OwnB w wb l) (hwo : wo ≤ 1000000000) (hm : m ≤ 1000000) (hl : l.length ≤ 1000000) (k : Nat) (hk : min (room wo m) l.length = k) (hpos : 0 < k) :
    Calls Tryd.prog 42 #[pt b, .int .i64 (m : Int)] w fun e w' => ∃ bf s wb', e = .returned (pt bf) ∧ w.heap.size ≤ bf ∧ Blk w' bf #[.int .i64 (wo : Int), s] 69 ∧ Rd w' s (l.take k) ∧ Blk w' b (cryC r bL rp hi fin (wo + k) wb') 99 ∧ OwnB w' wb' (l.drop k) ∧ wb'.ownBlock = wb.ownBlock ∧ Fr (fun j => j = b) w w' := by
  obtain ⟨hxl, p, cap, rfl, hlc, hcm, hro⟩ := id ho
  have hb1 := hb.alloc (.cells #[.int .i64 (wo : Int), .slice none 0 0] 69)
  have hf1 := Blk.new w #[.int .i64 (wo : Int), .slice none 0 0] 69
  have hG : Grow w (w.alloc (.cells #[.int .i64 (wo : Int), .slice none 0 0] 69)) := (Fr.refl _ _).alloc _
  have c5 : w.cell? ⟨b, 5, none⟩ = some (.int .i64 (wo : Int)) := hb.cellAt 5 _ rfl
  have hlt := hb.lt
  go_enter Tryd.func42, Tryd.ntmps42
  go_upto_region 2 with fail
  generalize w.alloc (.cells #[.int .i64 (wo : Int), .slice none 0 0] 69) = w1 at *
  have c6 : w1.cell? ⟨b, 6, none⟩ = some (.slice p l.length cap) := hb1.cellAt 6 _ rfl
  have hlt1 := hb1.lt
  go_quiet (first | (go_at_call 53; refine Calls.quiet_of_same (flip_world (maxDataLen_any _ _ wo m _ hf1 hwo hm))))
  have hite : (if l.length < room wo m then (l.length : Int) else (room wo m : Int)) = (k : Int) := by
    rw [← hk]
    rcases Nat.lt_or_ge l.length (room wo m) with c | c
    · rw [if_pos c, Nat.min_eq_right (by omega)]
    · rw [if_neg (by omega), Nat.min_eq_left c]
  rw [hite]
  clear hite c5 c6 hlt1
  have hb2 : Blk (w1.drewN nq) b (cryC r bL rp hi fin wo (.slice p l.length cap)) 99 := hb1
  have hf2 : Blk (w1.drewN nq) w.heap.size #[.int .i64 (wo : Int), .slice none 0 0] 69 := hf1
  have hG2 : Grow w (w1.drewN nq) := hG.trans (drewN_grow w1 nq)
  clear hb1 hf1 hG
  generalize w1.drewN nq = w2 at *
  have c5 : w2.cell? ⟨b, 5, none⟩ = some (.int .i64 (wo : Int)) := hb2.cellAt 5 _ rfl
  have c6 : w2.cell? ⟨b, 6, none⟩ = some (.slice p l.length cap) := hb2.cellAt 6 _ rfl
  have f1 : w2.cell? ⟨w.heap.size, 1, none⟩ = some (.slice none 0 0) := hf2.cellAt 1 _ rfl
  have hlt2 := hb2.lt
  have hltf := hf2.lt
  have hbf := hb2.free
  have hff := hf2.free
  have hne : b ≠ w.heap.size := by omega
  have hkl : k ≤ l.length := by omega
  have hob : ∀ j, (Value.slice p l.length cap).ownBlock = some j → j ≠ b ∧ j ≠ w.heap.size := fun j hj => by
    obtain ⟨bb, off, cur, e1, e2, _⟩ := ho.block (by omega)
    rw [e1] at hj
    injection hj with hj
    subst hj
    have hbb := (Array.getElem?_eq_some_iff.1 e2).1
    refine ⟨fun e => ?_, by omega⟩
    subst e
    have := Option.some.inj (e2.symm.trans hb)
    injection this with _ x _
    exact absurd x (by decide)
  have hcast : ((wo : Int) + (k : Int)) = ((wo + k : Nat) : Int) := by omega
  have fin : ∀ wb' : Value, OwnB w wb' (l.drop k) → wb'.ownBlock = (Value.slice p l.length cap).ownBlock →
      Blk (((w2.setCell ⟨w.heap.size, 1, none⟩ (.slice p k cap)).setCell ⟨b, 6, none⟩ wb').setCell ⟨b, 5, none⟩ (.int .i64 ((wo : Int) + (k : Int)))) w.heap.size #[.int .i64 (wo : Int), .slice p k cap] 69 ∧
      Rd (((w2.setCell ⟨w.heap.size, 1, none⟩ (.slice p k cap)).setCell ⟨b, 6, none⟩ wb').setCell ⟨b, 5, none⟩ (.int .i64 ((wo : Int) + (k : Int)))) (.slice p k cap) (l.take k) ∧
      Blk (((w2.setCell ⟨w.heap.size, 1, none⟩ (.slice p k cap)).setCell ⟨b, 6, none⟩ wb').setCell ⟨b, 5, none⟩ (.int .i64 ((wo : Int) + (k : Int)))) b (cryC r bL rp hi fin (wo + k) wb') 99 ∧
      OwnB (((w2.setCell ⟨w.heap.size, 1, none⟩ (.slice p k cap)).setCell ⟨b, 6, none⟩ wb').setCell ⟨b, 5, none⟩ (.int .i64 ((wo : Int) + (k : Int)))) wb' (l.drop k) ∧
      Fr (fun j => j = b) w (((w2.setCell ⟨w.heap.size, 1, none⟩ (.slice p k cap)).setCell ⟨b, 6, none⟩ wb').setCell ⟨b, 5, none⟩ (.int .i64 ((wo : Int) + (k : Int)))) := fun wb' h1 h2 => by
    rw [hcast]
    have hF : Fr (fun j => j = b) w (((w2.setCell ⟨w.heap.size, 1, none⟩ (.slice p k cap)).setCell ⟨b, 6, none⟩ wb').setCell ⟨b, 5, none⟩ (.int .i64 ((wo + k : Nat) : Int))) :=
      ((((hG2.to (S := fun j => j = b)).setCell ⟨w.heap.size, 1, none⟩ _ (.inr (Nat.le_refl _))).setCell ⟨b, 6, none⟩ _ (.inl rfl)).setCell ⟨b, 5, none⟩ _ (.inl rfl))
    refine ⟨((hf2.set 1 (.slice p k cap)).setOther _ _ (Ne.symm hne)).setOther _ _ (Ne.symm hne), ?_, ((hb2.setOther _ _ hne).set 6 wb').set 5 _, ?_, hF⟩
    · exact (ho.rd.take k hkl).keep (hF.bytes (fun j hj => by rw [show j = b from hj]; exact hb.noBytes (by decide)))
    · refine h1.keep (fun j hj => hF.block j ?_ (hob j (h2 ▸ hj)).1)
      obtain ⟨bb, off, cur, e1, e2, _⟩ := ho.block (by omega)
      rw [h2, e1] at hj
      injection hj with hj
      subst hj
      exact (Array.getElem?_eq_some_iff.1 e2).1
  have hdrop : OwnB w (.slice (if cap = k then p else p.map (·.add k)) (l.length - k) (cap - k)) (l.drop k) := by
    refine ⟨by simp, _, _, by rw [List.length_drop], by rw [List.length_drop]; omega, by omega, ?_⟩
    rcases hro with hro | ⟨bb, off, cur, rfl, h5, h6, h7⟩
    · exact .inl (by omega)
    · by_cases c : cap = k
      · exact .inl (by omega)
      · rw [if_neg c]
        refine .inr ⟨bb, off + k, cur, ?_, h5, by omega, fun j u hj => ?_⟩
        · simp only [Option.map_some, Addr.add]; split
          · omega
          · rfl
        · rw [List.map_drop, List.getElem?_drop] at hj
          have := h7 (k + j) u hj
          rwa [show off + k + j = off + (k + j) from by omega]
  have hob2 : (Value.slice (if cap = k then p else p.map (·.add k)) (l.length - k) (cap - k)).ownBlock = (Value.slice p l.length cap).ownBlock := by
    by_cases c : cap = k
    · rw [if_pos c]; cases p <;> rfl
    · rw [if_neg c]; cases p with
      | none => rfl
      | some a => simp only [Option.map_some, Value.ownBlock, Addr.add]; split <;> rfl
  have HF := Lib.hid (fin _ hdrop hob2)
  have HO := Lib.hid hob2
  clear fin hdrop hob2 hob hcast hro ho hxl
  go_wp2_with fail
  · go_ret
    rename_i h
    subst h
    obtain ⟨r1, r2, r3, r4, r5⟩ := HF.out
    have ho2 := HO.out
    rw [if_pos rfl] at r1 r2 r3 r4 r5 ho2
    first
      | exact ⟨w.heap.size, rfl, Nat.le_refl _, _, r1, r2, _, r3, r4, ho2, r5⟩
      | (rw [Nat.sub_self] at r1 r2 r3 r4 r5 ho2; exact ⟨w.heap.size, rfl, Nat.le_refl _, _, r1, r2, _, r3, r4, ho2, r5⟩)
  · go_ret
    rename_i h
    obtain ⟨r1, r2, r3, r4, r5⟩ := HF.out
    have ho2 := HO.out
    rw [if_neg h] at r1 r2 r3 r4 r5 ho2
    first
      | exact ⟨w.heap.size, rfl, Nat.le_refl _, _, r1, r2, _, r3, r4, ho2, r5⟩
end Go.Proofs.YtdhhccpeikhilaaDoor
namespace Go.Proofs.YtdhhccpeikhilaaDoor
open Go.RowKit

theorem neq82 (w : World) : (binOp .neq 82 (.pointer none) (.pointer none)).run Tryd.prog w = .ok (.bool false) w := by kernel_rfl

theorem Has_of (w : World) (x b : Nat) (hx : Blk w x #[.pointer none, pt b] 86) {R : Ending → World → Prop} (h : Calls Tryd.prog 44 #[pt b] w R) (hr : ∀ e w', R e w' → ∃ v, e = .returned v) :
    Calls Tryd.prog 30 #[pt x] w R := by
  have x0 : w.cell? ⟨x, 0, none⟩ = some (.pointer none) := hx.cellAt 0 _ rfl
  have x1 : w.cell? ⟨x, 1, none⟩ = some (pt b) := hx.cellAt 1 _ rfl
  have hlt := hx.lt
  have hn := neq82
  go_enter Tryd.func30, Tryd.ntmps30
  go_wp2_with (go_at_call 44; refine h.mono ?_; intro e w' hR; obtain ⟨v, rfl⟩ := hr e w' hR)
  exact hR
theorem Pop_of (w : World) (x b : Nat) (m : Value) (hx : Blk w x #[.pointer none, pt b] 86) {R : Ending → World → Prop} (h : Calls Tryd.prog 42 #[pt b, m] w R) (hr : ∀ e w', R e w' → ∃ v, e = .returned v) :
    Calls Tryd.prog 29 #[pt x, m] w R := by
  have x0 : w.cell? ⟨x, 0, none⟩ = some (.pointer none) := hx.cellAt 0 _ rfl
  have x1 : w.cell? ⟨x, 1, none⟩ = some (pt b) := hx.cellAt 1 _ rfl
  have hlt := hx.lt
  have hn := neq82
  go_enter Tryd.func29, Tryd.ntmps29
  go_wp2_with (go_at_call 42; refine h.mono ?_; intro e w' hR; obtain ⟨v, rfl⟩ := hr e w' hR)
  exact hR
theorem Write_of (w : World) (x b : Nat) (d : Value) (hx : Blk w x #[.pointer none, pt b] 86) {R : World → Prop} (h : Calls Tryd.prog 40 #[pt b, d] w fun e w' => (∃ n : Int, e = .returned (.tuple #[.int .i64 n, .nilIface])) ∧ R w') :
    Calls Tryd.prog 28 #[pt x, d] w fun e w' => e = .returned .nilIface ∧ R w' := by
  have x0 : w.cell? ⟨x, 0, none⟩ = some (.pointer none) := hx.cellAt 0 _ rfl
  have x1 : w.cell? ⟨x, 1, none⟩ = some (pt b) := hx.cellAt 1 _ rfl
  have hlt := hx.lt
  have hn := neq82
  go_enter Tryd.func28, Tryd.ntmps28
  go_wp2_with (go_at_call 40; refine h.mono ?_; rintro e w' ⟨⟨n, rfl⟩, hR⟩)
  go_ret
  exact ⟨rfl, hR⟩
end Go.Proofs.YtdhhccpeikhilaaDoor
namespace Go.Proofs.YtdhhccpeikhilaaDoor
open Go.RowKit

theorem caught_idle (p : Addr) (w : World) :
    CallsD Tryd.prog 23 #[.pointer (some p)] .returning w fun e u' w' => e = .returned (.tuple #[]) ∧ u' = .returning ∧ w' = w := by
  refine callsD_of_wpS Tryd.func23 rfl fun c₀ cs hu => ?_
  apply wpS_seq
  apply wpS_region
  simp [wpOpsS, go_sem, recoverD, hu, Tryd.ntmps23, Exit.thenS]
  refine wpS_cond (t := false) (by simp [Act.eval, Array.replicate]) ?_
  simp only [Bool.false_eq_true, if_false]
  refine wpS_of_wp (wp_skip ?_)
  cases c₀
  simp_all [bodyPostS, results, Tryd.results23]
end Go.Proofs.YtdhhccpeikhilaaDoor
