/- Write of the stream of the Initial packets: plain; a part of a ClientHello; the whole. -/
import Derived.Test.YtdhhccpeikhilaaDoorH3
import Derived.LaidEqlPtr
namespace Go.Proofs.YtdhhccpeikhilaaDoor
open Go.RowKit

theorem run_eql_iface_ptr {P : Program} (w : World) {t tx te : TypeId} {ms : Array (String × TypeId)} (a : Addr)
    (ht : P.underlying t = some (.interface ms)) (hc : (P.info? tx).map (·.comparable) = some true) (hx : P.underlying tx = some (.pointer te)) {j : TypeInfo} (hte : P.info? te = some j) :
    (binOp .eql t (.iface tx (.pointer (some a))) (.iface tx (.pointer (some a)))).run P w = .ok (.bool true) w := by
  cases hi : P.info? tx with
  | none => simp [hi] at hc
  | some i =>
    have hcc : i.comparable = true := by simpa [hi] using hc
    have h : ∀ d : Nat, (Op.equalIn (d + 2) t (.iface tx (.pointer (some a))) (.iface tx (.pointer (some a)))).run P w = .ok true w := fun d => by
      simp [Op.equalIn, run_underlying ht, run_underlying hx, typeInfo, hi, hcc, sizeOf, hte, run_sameAddr_same]
    simp only [binOp]
    simp [Op.equal, Op.maxDepth, h 9998]
theorem cmp145 : (Tryd.prog.info? 145).map (·.comparable) = some true := by kernel_rfl
theorem size147 : (Tryd.prog.info? 147).map (·.size) = some 1 := by kernel_rfl
theorem eqErr (w : World) (a : Addr) : (binOp .eql 64 (.iface 145 (.pointer (some a))) (.iface 145 (.pointer (some a)))).run Tryd.prog w = .ok (.bool true) w := by
  obtain ⟨j, hj, _⟩ := info_of size147
  exact run_eql_iface_ptr w a Tryd.underlying64 cmp145 Tryd.underlying145 hj
theorem eqErrNil (w : World) (k : Addr) : (binOp .eql 64 .nilIface (.iface 145 (.pointer (some k)))).run Tryd.prog w = .ok (.bool false) w := by
  kernel_rfl

def Wrote (w w' : World) (b : Nat) (wb wb' : Value) (l : List UInt8) : Prop :=
  OwnB w' wb' l ∧ Fr (fun k => k = b ∨ wb.ownBlock = some k) w w' ∧ (∀ k, wb'.ownBlock = some k → (wb.ownBlock = some k ∨ w.heap.size ≤ k) ∧ k < w'.heap.size) ∧ ∀ k, wb'.ownBlock = some k → k ≠ b

theorem Wrote.mk1 {w w1 : World} {b : Nat} {wb v' : Value} {c : Array Value} {T : TypeId} {l : List UInt8} (hb : Blk w b c T) (i : Nat) (u : Value) (ho1 : OwnB w1 v' l) (hF1 : Fr (fun k => wb.ownBlock = some k) w w1) (hfr1 : ∀ k, v'.ownBlock = some k → wb.ownBlock = some k ∨ (w.heap.size ≤ k ∧ k < w1.heap.size)) (hne : ∀ k, wb.ownBlock = some k → k ≠ b ∧ k < w.heap.size) : Wrote w (w1.setCell ⟨b, i, none⟩ u) b wb v' l := by
  have hnb : ∀ k, v'.ownBlock = some k → k ≠ b := fun k hk => by
    rcases hfr1 _ hk with h | h
    · exact (hne _ h).1
    · have := hb.lt; omega
  refine ⟨ho1.keep (fun k hk => Below.heap_setCell _ _ _ _ (hnb k hk)), (hF1.mono (fun k _ hk => .inr hk)).setCell _ _ (.inl (.inl rfl)), fun k hk => ?_, hnb⟩
  rcases hfr1 _ hk with h | h
  · exact ⟨.inl h, by have := (hne k h).2; have := hF1.size; simp; omega⟩
  · exact ⟨.inr h.1, by simpa using h.2⟩
theorem Wrote.grow {w w1 w2 : World} {b : Nat} {wb v' : Value} {l : List UInt8} (h : Wrote w w1 b wb v' l) (hg : Grow w1 w2) : Wrote w w2 b wb v' l := by
  obtain ⟨h1, h2, h3, h4⟩ := h
  exact ⟨h1.keep (fun k hk => hg.block k (h3 k hk).2 (fun e => e)), h2.trans hg.to, fun k hk => ⟨(h3 k hk).1, Nat.lt_of_lt_of_le (h3 k hk).2 hg.size⟩, h4⟩
theorem Wrote.set {w w1 : World} {b : Nat} {wb v' : Value} {l : List UInt8} (h : Wrote w w1 b wb v' l) (i : Nat) (u : Value) : Wrote w (w1.setCell ⟨b, i, none⟩ u) b wb v' l := by
  obtain ⟨h1, h2, h3, h4⟩ := h
  exact ⟨h1.keep (fun k hk => Below.heap_setCell _ _ _ _ (h4 k hk)), h2.setCell _ _ (.inl (.inl rfl)), fun k hk => ⟨(h3 k hk).1, by simpa using (h3 k hk).2⟩, h4⟩

set_option maxRecDepth 100000 in
theorem iwrite_plain (w : World) (b r bL wo : Nat) (wb dv : Value) (e c0 c1 c2 c3 : Int) (l m : List UInt8) (hb : Blk w b (iniC r bL wo wb false e c0 c1 c2 c3) 108) (ho : OwnB w wb l) (hd : Rd w dv m) (hlen : l.length + m.length ≤ 1000000) (hne : ∀ k, wb.ownBlock = some k → k ≠ b ∧ k < w.heap.size) :
    Calls Tryd.prog 39 #[pt b, dv] w fun e' w' => e' = .returned (.tuple #[.int .i64 (m.length : Int), .nilIface]) ∧ ∃ wb', Blk w' b (iniC r bL wo wb' false e c0 c1 c2 c3) 108 ∧ Wrote w w' b wb wb' (l ++ m) := by
  have c6 : w.cell? ⟨b, 6, none⟩ = some wb := hb.cellAt 6 _ rfl
  have hlt := hb.lt
  obtain ⟨pd, cd, rfl, _⟩ := id hd
  obtain ⟨lm, hlm⟩ : ∃ x, x = l ++ m := ⟨_, rfl⟩
  rw [← hlm]
  have HLM := Lib.hid hlm
  have HNE := Lib.hid hne
  clear hlm
  clear hne
  go_enter Tryd.func39, Tryd.ntmps39
  go_wp2_with (at_builtin; refine wpList_appendB2 _ rfl _ _ rfl wb _ l m ho hd hlen rfl rfl ?_; intro v' w1 ho1 hF1 hfr1; rw [← HLM.out] at ho1; obtain ⟨_, pv, cv, rfl, _⟩ := id ho1; have hb1 := hF1.blk hb (fun e => (HNE.out _ e).1 rfl); have c61 : w1.cell? ⟨b, 6, none⟩ = some wb := hb1.cellAt 6 _ rfl; have c71 := hb1.cellAt 7 _ rfl; have hlt1 := hb1.lt; have hf1 := hb1.free)
  go_ret2
  exact ⟨rfl, _, hb1.set 6 _, Wrote.mk1 hb 6 _ ho1 hF1 hfr1 HNE.out⟩

set_option maxRecDepth 100000 in
set_option maxHeartbeats 2000000 in
theorem iwrite_part (w : World) (b r bL : Nat) (wb dv : Value) (a : Addr) (l m : List UInt8) (hb : Blk w b (iniC r bL 0 wb true 0 (-1) (-1) (-1) (-1)) 108) (ho : OwnB w wb l) (hd : Rd w dv m) (hlen : l.length + m.length ≤ 100000) (hne : ∀ k, wb.ownBlock = some k → k ≠ b ∧ k < w.heap.size)
    (hfind : ∀ w' v', Rd w' v' (l ++ m) → w'.cell? ⟨0, 0, none⟩ = some (.iface 145 (.pointer (some a))) → Calls Tryd.prog 50 #[v'] w' fun e w'' => e = .returned (.tuple #[.int .i64 0, .int .i64 0, .int .i64 0, .iface 145 (.pointer (some a))]) ∧ Grow w' w'') (g0 : w.cell? ⟨0, 0, none⟩ = some (.iface 145 (.pointer (some a)))) (h0 : 0 < b) (h0w : ∀ k, wb.ownBlock = some k → 0 < k) (h0s : 0 < w.heap.size) :
    Calls Tryd.prog 39 #[pt b, dv] w fun e' w' => e' = .returned (.tuple #[.int .i64 (m.length : Int), .nilIface]) ∧ ∃ wb', Blk w' b (iniC r bL 0 wb' true 0 (-1) (-1) (-1) (-1)) 108 ∧ Wrote w w' b wb wb' (l ++ m) := by
  have c6 : w.cell? ⟨b, 6, none⟩ = some wb := hb.cellAt 6 _ rfl
  have hlt := hb.lt
  obtain ⟨pd, cd, rfl, _⟩ := id hd
  obtain ⟨lm, hlm⟩ : ∃ x, x = l ++ m := ⟨_, rfl⟩
  rw [← hlm]
  have HLM := Lib.hid hlm
  have HNE := Lib.hid hne
  clear hlm
  have HW0 := Lib.hid h0w
  have hq1 := fun w => eqErr w a
  have hq2 := fun w => eqErrNil w a
  have hfind2 := hfind
  rw [← HLM.out] at hfind2
  have HFI := Lib.hid hfind2
  clear hne hfind hfind2 h0w
  go_enter Tryd.func39, Tryd.ntmps39
  go_upto_region 2 with (at_builtin; refine wpList_appendB2 _ rfl _ _ rfl wb _ l m ho hd (by omega) rfl rfl ?_; intro v' w1 ho1 hF1 hfr1; rw [← HLM.out] at ho1; obtain ⟨_, pv, cv, rfl, _⟩ := id ho1; have hb1 := hF1.blk hb (fun e => (HNE.out _ e).1 rfl); have c61 : w1.cell? ⟨b, 6, none⟩ = some wb := hb1.cellAt 6 _ rfl; have c71 := hb1.cellAt 7 _ rfl; have hlt1 := hb1.lt; have hf1 := hb1.free)
  have hb2 := hb1.set 6 (.slice pv lm.length cv)
  have hw2 := Wrote.mk1 hb 6 (.slice pv lm.length cv) ho1 hF1 hfr1 HNE.out
  have g2 : (w1.setCell ⟨b, 6, none⟩ (.slice pv lm.length cv)).cell? ⟨0, 0, none⟩ = some (.iface 145 (.pointer (some a))) := (World.cell?_of_block (w := w) (a := ⟨0, 0, none⟩) (hw2.2.1.block 0 h0s (fun e => e.elim (fun e => absurd h0 (by omega)) (fun e => absurd (HW0.out 0 e) (by omega))))).trans g0
  have hsz2 : 0 < (w1.setCell ⟨b, 6, none⟩ (.slice pv lm.length cv)).heap.size := Nat.lt_of_lt_of_le h0s hw2.2.1.size
  have HB2 := Lib.hid hb2
  have HW2 := Lib.hid hw2
  have HFi := Lib.hid (HFI.out _ _ hw2.1.rd g2)
  clear hb2 hw2 hb1 c61 c71 hlt1 hf1 ho1 hF1 hfr1 ho hd c6 g0
  generalize w1.setCell ⟨b, 6, none⟩ (.slice pv lm.length cv) = w2 at *
  have c6 : w2.cell? ⟨b, 6, none⟩ = some (.slice pv lm.length cv) := HB2.out.cellAt 6 _ rfl
  have c7 : w2.cell? ⟨b, 7, none⟩ = some (.bool true) := HB2.out.cellAt 7 _ rfl
  have c9 : w2.cell? ⟨b, 9, none⟩ = some (.int .i64 (-1)) := HB2.out.cellAt 9 _ rfl
  have hlt2 := HB2.out.lt
  go_wp2_with (go_at_call 50; refine HFi.out.mono ?_; rintro e w3 ⟨rfl, hG⟩; have g3 : w3.cell? ⟨0, 0, none⟩ = some (.iface 145 (.pointer (some a))) := (hG.cell hsz2).trans g2)
  go_ret2
  exact ⟨rfl, _, hG.blk HB2.out (fun e => e), HW2.out.grow hG⟩

set_option maxRecDepth 100000 in
set_option maxHeartbeats 2000000 in
theorem iwrite_whole (w : World) (b r bL pos n : Nat) (wb dv : Value) (a : Addr) (l m : List UInt8) (hb : Blk w b (iniC r bL 0 wb true 0 (-1) (-1) (-1) (-1)) 108) (ho : OwnB w wb l) (hd : Rd w dv m) (hlen : l.length + m.length ≤ 100000) (hne : ∀ k, wb.ownBlock = some k → k ≠ b ∧ k < w.heap.size) (hpos : pos ≤ 1000) (hn : n ≤ 1000)
    (hfind : ∀ w' v', Rd w' v' (l ++ m) → Calls Tryd.prog 50 #[v'] w' fun e w'' => e = .returned (.tuple #[.int .i64 (pos : Int), .int .i64 (n : Int), .int .i64 (-1), .nilIface]) ∧ Grow w' w'') (g0 : w.cell? ⟨0, 0, none⟩ = some (.iface 145 (.pointer (some a)))) (h0 : 0 < b) (h0w : ∀ k, wb.ownBlock = some k → 0 < k) (h0s : 0 < w.heap.size) :
    Calls Tryd.prog 39 #[pt b, dv] w fun e' w' => e' = .returned (.tuple #[.int .i64 (m.length : Int), .nilIface]) ∧ ∃ wb', Blk w' b (iniC r bL 0 wb' true ((l ++ m).length : Int) ((pos + n / 2 : Nat) : Int) ((pos + n : Nat) : Int) (-1) (-1)) 108 ∧ Wrote w w' b wb wb' (l ++ m) := by
  have c6 : w.cell? ⟨b, 6, none⟩ = some wb := hb.cellAt 6 _ rfl
  have hlt := hb.lt
  obtain ⟨pd, cd, rfl, _⟩ := id hd
  obtain ⟨lm, hlm⟩ : ∃ x, x = l ++ m := ⟨_, rfl⟩
  rw [← hlm]
  have HLM := Lib.hid hlm
  have HNE := Lib.hid hne
  clear hlm
  have HW0 := Lib.hid h0w
  have hq1 := fun w => eqErr w a
  have hq2 := fun w => eqErrNil w a
  have hfind2 := hfind
  rw [← HLM.out] at hfind2
  have HFI := Lib.hid hfind2
  clear hne hfind hfind2 h0w
  go_enter Tryd.func39, Tryd.ntmps39
  go_upto_region 2 with (at_builtin; refine wpList_appendB2 _ rfl _ _ rfl wb _ l m ho hd (by omega) rfl rfl ?_; intro v' w1 ho1 hF1 hfr1; rw [← HLM.out] at ho1; obtain ⟨_, pv, cv, rfl, _⟩ := id ho1; have hb1 := hF1.blk hb (fun e => (HNE.out _ e).1 rfl); have c61 : w1.cell? ⟨b, 6, none⟩ = some wb := hb1.cellAt 6 _ rfl; have c71 := hb1.cellAt 7 _ rfl; have hlt1 := hb1.lt; have hf1 := hb1.free)
  have hb2 := hb1.set 6 (.slice pv lm.length cv)
  have hw2 := Wrote.mk1 hb 6 (.slice pv lm.length cv) ho1 hF1 hfr1 HNE.out
  have g2 : (w1.setCell ⟨b, 6, none⟩ (.slice pv lm.length cv)).cell? ⟨0, 0, none⟩ = some (.iface 145 (.pointer (some a))) := (World.cell?_of_block (w := w) (a := ⟨0, 0, none⟩) (hw2.2.1.block 0 h0s (fun e => e.elim (fun e => absurd h0 (by omega)) (fun e => absurd (HW0.out 0 e) (by omega))))).trans g0
  have hsz2 : 0 < (w1.setCell ⟨b, 6, none⟩ (.slice pv lm.length cv)).heap.size := Nat.lt_of_lt_of_le h0s hw2.2.1.size
  have HB2 := Lib.hid hb2
  have HW2 := Lib.hid hw2
  have HFi := Lib.hid (HFI.out _ _ hw2.1.rd)
  clear hb2 hw2 hb1 c61 c71 hlt1 hf1 ho1 hF1 hfr1 ho hd c6 g0
  generalize w1.setCell ⟨b, 6, none⟩ (.slice pv lm.length cv) = w2 at *
  have c6 : w2.cell? ⟨b, 6, none⟩ = some (.slice pv lm.length cv) := HB2.out.cellAt 6 _ rfl
  have c7 : w2.cell? ⟨b, 7, none⟩ = some (.bool true) := HB2.out.cellAt 7 _ rfl
  have c9 : w2.cell? ⟨b, 9, none⟩ = some (.int .i64 (-1)) := HB2.out.cellAt 9 _ rfl
  have hlt2 := HB2.out.lt
  go_upto_region 6 with (go_at_call 50; refine HFi.out.mono ?_; rintro e w3 ⟨rfl, hG⟩; have g3 : w3.cell? ⟨0, 0, none⟩ = some (.iface 145 (.pointer (some a))) := (hG.cell hsz2).trans g2; have hb3 := hG.blk HB2.out (fun e => e))
  have hw3 := HW2.out.grow hG
  have HB3 := Lib.hid hb3
  have HW3 := Lib.hid hw3
  clear hb3 hw3 c6 c7 c9 hlt2
  have c6 : w3.cell? ⟨b, 6, none⟩ = some (.slice pv lm.length cv) := HB3.out.cellAt 6 _ rfl
  have c8 : w3.cell? ⟨b, 8, none⟩ = some (.int .i64 0) := HB3.out.cellAt 8 _ rfl
  have c9 : w3.cell? ⟨b, 9, none⟩ = some (.int .i64 (-1)) := HB3.out.cellAt 9 _ rfl
  have c10 : w3.cell? ⟨b, 10, none⟩ = some (.int .i64 (-1)) := HB3.out.cellAt 10 _ rfl
  have hlt3 := HB3.out.lt
  have hfr3 := HB3.out.free
  go_upto_region 20 with fail
  clear hq1 hq2
  rw [show (pos : Int) + (n : Int) / 2 = ((pos + n / 2 : Nat) : Int) from by omega, show (pos : Int) + (n : Int) = ((pos + n : Nat) : Int) from by omega]
  have hb4 := ((HB3.out.set 8 (.int .i64 (lm.length : Int))).set 9 (.int .i64 ((pos + n / 2 : Nat) : Int))).set 10 (.int .i64 ((pos + n : Nat) : Int))
  have hw4 := ((HW3.out.set 8 (.int .i64 (lm.length : Int))).set 9 (.int .i64 ((pos + n / 2 : Nat) : Int))).set 10 (.int .i64 ((pos + n : Nat) : Int))
  have HS := Lib.hid (sort_func _ b r bL 0 _ _ _ _ hb4)
  have HB4 := Lib.hid hb4
  have HW4 := Lib.hid hw4
  clear hb4 hw4 c6 c8 c9 c10 hlt3 hfr3
  generalize ((w3.setCell ⟨b, 8, none⟩ (.int .i64 (lm.length : Int))).setCell ⟨b, 9, none⟩ (.int .i64 ((pos + n / 2 : Nat) : Int))).setCell ⟨b, 10, none⟩ (.int .i64 ((pos + n : Nat) : Int)) = w4 at *
  have hlt4 := HB4.out.lt
  go_wp2_with (go_at_call 51; refine HS.out.mono ?_; rintro e w5 ⟨rfl, hG5⟩)
  go_ret2
  exact ⟨rfl, _, hG5.blk HB4.out (fun e => e), HW4.out.grow hG5⟩
end Go.Proofs.YtdhhccpeikhilaaDoor
