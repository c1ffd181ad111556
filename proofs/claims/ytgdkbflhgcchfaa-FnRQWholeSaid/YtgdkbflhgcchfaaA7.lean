/- Splitting a CRYPTO frame: MaybeSplitOffFrame. -/
import Derived.Test.YtgdkbflhgcchfaaA6
import Derived.Laws.CopyOwn
namespace Go.Proofs.Ytgdkbflhgcchfaa
open Go.RowKit

/-- Whatever else is written is younger. -/
theorem Fr.into {S S' : Nat → Prop} {w w1 w2 : World} (h : Fr S w w1) (h' : Fr S' w1 w2) (hS : ∀ j, S' j → S j ∨ w.heap.size ≤ j) : Fr S w w2 :=
  ⟨h'.os.trans h.os, h'.tape.trans h.tape, h'.output.trans h.output, Nat.le_trans h.size h'.size, fun k hk hs =>
    (h'.block k (Nat.lt_of_lt_of_le hk h.size) (fun e => by rcases hS k e with h1 | h1; exact hs h1; omega)).trans (h.block k hk hs)⟩
theorem copyB {w : World} {g n : Nat} {cur : Array Value} (hcur : w.heap[g]? = some (.cells cur 5 (0, 0))) (hsz : cur.size = n) {sv : Value} {l : List UInt8} (hr : Rd w sv l) (hl : l.length = n) (hn : n ≤ 1000000000) (ty : TypeId) :
    ∃ w', (Builtin.copy_ #[31, 31] ty #[.slice (some ⟨g, 0, none⟩) n n, sv]).run Try.prog w = .ok (goInt n) w' ∧ Rd w' (.slice (some ⟨g, 0, none⟩) n n) l ∧ Fr (fun k => k = g) w w' := by
  subst hl
  obtain ⟨p, c, rfl, h1, h2, h3⟩ := hr
  have hi : (Try.prog.info? 5).map (·.size) = some 1 := by
    have := info5
    cases hi : Try.prog.info? 5 with
    | none => rw [hi] at this; cases this
    | some i => rw [hi] at this; simp only [Option.map_some, Option.some.injEq, Prod.mk.injEq] at this ⊢; exact this.2.1
  have hlen : (l.map u8).length = l.length := List.length_map _
  by_cases h0 : l = []
  · subst h0
    refine ⟨w, run_copy_none w 31 31 ty 5 _ _ _ _ _ _ Try.underlying31 hi (by simp), ⟨_, _, rfl, by simp, by simp, fun h => (h rfl).elim⟩, Fr.refl _ _⟩
  · obtain ⟨b, o', rfl, hr⟩ := h3 h0
    have hrun := run_copy_row (P := Try.prog) w 31 31 ty 5 g 0 l.length l.length ⟨b, o', none⟩ l.length c cur 5 (l.map u8) Try.underlying31 hi hcur (by rw [hlen]; exact (Nat.min_self _).symm) (fun j v hv => by
      rw [List.getElem?_map] at hv
      obtain ⟨x, hx, rfl⟩ := Option.map_eq_some_iff.1 hv
      have := hr.2 j x hx
      simp only [Addr.add]
      split
      · rename_i hj0
        rw [hj0] at this; simpa using this
      · exact this) (by rw [hlen]; omega) (fun v hv => by obtain ⟨x, _, rfl⟩ := List.mem_map.1 hv; rfl)
    rw [hlen] at hrun
    have hb := setRow_heap w g _ (cur.toList.take 0 ++ l.map u8 ++ cur.toList.drop (0 + l.length)).toArray 5 _ hcur
    have he : (cur.toList.take 0 ++ l.map u8 ++ cur.toList.drop (0 + l.length)) = l.map u8 := by simp [hsz]
    have hF : Fr (fun k => k = g) w (w.setRow g (cur.toList.take 0 ++ l.map u8 ++ cur.toList.drop (0 + l.length)).toArray) := ⟨rfl, rfl, rfl, by simp [World.setRow], fun k _ hne => setRow_other w g k _ hne⟩
    rw [he] at hrun hb hF
    generalize w.setRow g (l.map u8).toArray = W at *
    refine ⟨_, hrun, ⟨_, _, rfl, Nat.le_refl _, by omega, fun _ => ⟨g, 0, rfl, ⟨_, _, hb⟩, fun i x hx => ?_⟩⟩, hF⟩
    simp only [World.cell?, hb, Nat.zero_add]
    simp [hx]
/-- 'copy(d, s)' into a fresh row, as one step of a region that draws. -/
theorem step_copyB {w : World} {ops : Array Oper} {o : Oper} {a : Act} {K : Act → World → Prop} {Q : Exit → Act → World → Prop} {E : Prop} (hgd : o.guard = none) (d s : Operand)
    (ho : o.op = .call { callee := .builtin .copy, args := #[d, s], argTypes := #[31, 31] }) {g n : Nat} {cur : Array Value} (hcur : w.heap[g]? = some (.cells cur 5 (0, 0))) (hsz : cur.size = n) {sv : Value} {l : List UInt8} (hr : Rd w sv l) (hl : l.length = n) (hn : n ≤ 1000000000)
    (hd : a.eval d = .slice (some ⟨g, 0, none⟩) n n) (hs : a.eval s = sv)
    (h : ∀ w', Rd w' (.slice (some ⟨g, 0, none⟩) n n) l → Fr (fun k => k = g) w w' → K (a.put o.dst (goInt n)) w') :
    if Region.wanted o (yielded ops a.tmps) = true then Oper.wp Try.prog o a w K Q else E := by
  have hw : Region.wanted o (yielded ops a.tmps) = true := by simp [Region.wanted, hgd]
  rw [if_pos hw]
  obtain ⟨w', hrun, h1, h2⟩ := copyB hcur hsz hr hl hn o.type
  unfold Oper.wp
  simp [execOp, ho, resolve, invoke, builtin, hd, hs, hrun, Result.andThen]
  exact h w' h1 h2
theorem wpList_copyB {w : World} {ops : Array Oper} {rest : List Oper} {o : Oper} {a : Act} {Q : Exit → Act → World → Prop} (hgd : o.guard = none) (d s : Operand)
    (ho : o.op = .call { callee := .builtin .copy, args := #[d, s], argTypes := #[31, 31] }) {g n : Nat} {cur : Array Value} (hcur : w.heap[g]? = some (.cells cur 5 (0, 0))) (hsz : cur.size = n) {sv : Value} {l : List UInt8} (hr : Rd w sv l) (hl : l.length = n) (hn : n ≤ 1000000000)
    (hd : a.eval d = .slice (some ⟨g, 0, none⟩) n n) (hs : a.eval s = sv)
    (h : ∀ w', Rd w' (.slice (some ⟨g, 0, none⟩) n n) l → Fr (fun k => k = g) w w' → wpList Try.prog ops Q rest (a.put o.dst (goInt n)) w') : wpList Try.prog ops Q (o :: rest) a w := by
  refine wpList_plain hgd fun K hK => ?_
  obtain ⟨w', hrun, h1, h2⟩ := copyB hcur hsz hr hl hn o.type
  unfold Oper.wp
  simp [execOp, ho, resolve, invoke, builtin, hd, hs, hrun, Result.andThen]
  exact hK _ _ (h w' h1 h2)

set_option maxRecDepth 100000 in
set_option maxHeartbeats 2000000 in
/-- It fits: no frame, no split. -/
theorem split_whole (w : World) (p o M : Nat) (d : Value) (l : List UInt8) (hf : Blk w p #[.int .i64 (o : Int), d] 122) (hr : Rd w d l) (ho : o ≤ 10000000000) (hl : l.length ≤ 400) (hM : 1 + vlen o + vlen l.length + l.length ≤ M) :
    Calls Try.prog 44 #[.pointer (some ⟨p, 0, none⟩), .int .i64 (M : Int), .int .u32 1] w fun e w' => e = .returned (.tuple #[.pointer none, .bool false]) ∧ Grow w w' := by
  have hlt := hf.lt
  have hL := Lib.hid (len_crypto w p o d l hf ho hr hl)
  have d0 : decide (1 + vlen o + vlen l.length + l.length ≤ M) = true := decide_eq_true (by omega)
  clear hf hr
  generalize 1 + vlen o + vlen l.length + l.length = L at *
  go_enter Try.func44, Try.ntmps44
  go_wp2_with fail
  refine hL.out.mono ?_
  rintro e w1 ⟨rfl, hG⟩
  have HG := Lib.hid hG
  clear hG
  go_wp2_with fail
  refine bodyPost_ret (v := .tuple #[.pointer none, .bool false]) (by simp [results, Try.results44, go_sem]) rfl ?_
  exact ⟨rfl, HG.out⟩

set_option maxRecDepth 100000 in
set_option maxHeartbeats 2000000 in
/-- Nothing of it fits. -/
theorem split_none (w : World) (p o M : Nat) (d : Value) (l : List UInt8) (hf : Blk w p #[.int .i64 (o : Int), d] 122) (hr : Rd w d l) (ho : o ≤ 10000000000) (hl : l.length ≤ 400) (hM2 : M ≤ 100000) (hM : ¬ (1 + vlen o + vlen l.length + l.length ≤ M)) (hroom : room o M = 0) :
    Calls Try.prog 44 #[.pointer (some ⟨p, 0, none⟩), .int .i64 (M : Int), .int .u32 1] w fun e w' => e = .returned (.tuple #[.pointer none, .bool true]) ∧ Grow w w' := by
  have hlt := hf.lt
  have hL := Lib.hid (len_crypto w p o d l hf ho hr hl)
  have hMD : Hid (∀ w', Grow w w' → Calls Try.prog 46 #[.pointer (some ⟨p, 0, none⟩), .int .i64 (M : Int)] w' fun e w'' => e = .returned (.int .i64 (0 : Int)) ∧ w' = w'') := Lib.hid fun w' hG => by
    have := maxDataLen_any w' p o M d (hG.blk hf (fun e => e)) (by omega) (by omega)
    rw [hroom] at this
    exact this
  have d0 : decide (1 + vlen o + vlen l.length + l.length ≤ M) = false := decide_eq_false (by omega)
  clear hf hr hroom hM
  generalize 1 + vlen o + vlen l.length + l.length = L at *
  go_enter Try.func44, Try.ntmps44
  go_wp2_with fail
  refine hL.out.mono ?_
  rintro e w1 ⟨rfl, hG⟩
  have HG := Lib.hid hG
  clear hG
  go_wp2_with fail
  refine (hMD.out _ HG.out).mono ?_
  rintro e w2 ⟨rfl, rfl⟩
  go_wp2_with fail
  refine bodyPost_ret (v := .tuple #[.pointer none, .bool true]) (by simp [results, Try.results44, go_sem]) rfl ?_
  exact ⟨rfl, HG.out⟩

set_option maxRecDepth 100000 in
set_option maxHeartbeats 4000000 in
/-- The first n bytes of it fit. -/
theorem split_part (w : World) (p o M : Nat) (d : Value) (l : List UInt8) (hf : Blk w p #[.int .i64 (o : Int), d] 122) (hr : Rd w d l) (ho : o ≤ 10000000000) (hl : l.length ≤ 400) (hM2 : M ≤ 100000) (hM : ¬ (1 + vlen o + vlen l.length + l.length ≤ M)) (n : Nat) (hroom : room o M = n) (hn : n ≠ 0) (hlt : n ≤ l.length) :
    Calls Try.prog 44 #[.pointer (some ⟨p, 0, none⟩), .int .i64 (M : Int), .int .u32 1] w fun e w' => ∃ k s s', e = .returned (.tuple #[.pointer (some ⟨k, 0, none⟩), .bool true]) ∧ w.heap.size ≤ k ∧ Blk w' k #[.int .i64 (o : Int), s] 122 ∧ Rd w' s (l.take n) ∧ Blk w' p #[.int .i64 ((o + n : Nat) : Int), s'] 122 ∧ Rd w' s' (l.drop n) ∧ Fr (fun j => j = p) w w' := by
  have hplt := hf.lt
  have hL := Lib.hid (len_crypto w p o d l hf ho hr hl)
  have hMD : Hid (∀ w', Grow w w' → Calls Try.prog 46 #[.pointer (some ⟨p, 0, none⟩), .int .i64 (M : Int)] w' fun e w'' => e = .returned (.int .i64 (n : Int)) ∧ w' = w'') := Lib.hid fun w' hG => by
    have := maxDataLen_any w' p o M d (hG.blk hf (fun e => e)) (by omega) (by omega)
    rw [hroom] at this
    exact this
  have d0 : decide (1 + vlen o + vlen l.length + l.length ≤ M) = false := decide_eq_false (by omega)
  have HF := Lib.hid hf
  have HR := Lib.hid hr
  obtain ⟨q, cap, rfl, hc1, hc2, _⟩ := id hr
  clear hroom hM
  generalize 1 + vlen o + vlen l.length + l.length = L at *
  have hnn : ((n : Nat) : Int) ≠ 0 := by omega
  have hmk := fun W => run_make_row' (P := Try.prog) 31 5 (.int .u8 0) 1 Try.underlying31 info5 rfl .i64 .i64 (l.length - n) (by omega) (by omega) W
  have hcast : ((l.length : Nat) : Int) - ((n : Nat) : Int) = ((l.length - n : Nat) : Int) := by omega
  clear hf hr
  go_enter Try.func44, Try.ntmps44
  go_wp2_with fail
  refine hL.out.mono ?_
  rintro e w1 ⟨rfl, hG⟩
  have HG := Lib.hid hG
  have c1 : w1.cell? ⟨p, 1, none⟩ = some (.slice q l.length cap) := (hG.blk HF.out (fun e => e)).cellAt 1 _ rfl
  have c0 : w1.cell? ⟨p, 0, none⟩ = some (.int .i64 (o : Int)) := (hG.blk HF.out (fun e => e)).cellAt 0 _ rfl
  have hp1 := (hG.blk HF.out (fun e => e)).lt
  have hks : w.heap.size ≤ w1.heap.size := hG.size
  clear hG
  go_wp2_with fail
  refine (hMD.out _ HG.out).mono ?_
  rintro e w2 ⟨rfl, rfl⟩
  generalize hk : w1.heap.size = k at *
  go_upto_region 8 with fail
  have HB2 := Lib.hid ((HG.out.blk HF.out (fun e => e)).alloc (.cells #[.int .i64 0, .slice none 0 0] 122))
  have HN2 := Lib.hid (Blk.newAt w1 #[.int .i64 0, .slice none 0 0] 122 k hk.symm)
  have HG2 := Lib.hid (HG.out.alloc (.cells #[.int .i64 0, .slice none 0 0] 122))
  generalize w1.alloc (.cells #[.int .i64 0, .slice none 0 0] 122) = w2 at *
  clear c0 c1 hp1 hk
  have hne : p ≠ k := by omega
  have a0 : w2.cell? ⟨p, 0, none⟩ = some (.int .i64 (o : Int)) := HB2.out.cellAt 0 _ rfl
  have a1 : w2.cell? ⟨p, 1, none⟩ = some (.slice q l.length cap) := HB2.out.cellAt 1 _ rfl
  have b0 : w2.cell? ⟨k, 0, none⟩ = some (.int .i64 0) := HN2.out.cellAt 0 _ rfl
  have b1 : w2.cell? ⟨k, 1, none⟩ = some (.slice none 0 0) := HN2.out.cellAt 1 _ rfl
  have hp2 := HB2.out.lt
  have hk2 := HN2.out.lt
  have hfp := HB2.out.free
  have hfk := HN2.out.free
  go_upto_region 9 with fail
  have HB3 := Lib.hid (HB2.out.setOther ⟨k, 0, none⟩ (.int .i64 (o : Int)) hne)
  have HN3 := Lib.hid (HN2.out.set 0 (.int .i64 (o : Int)))
  have HG3 := Lib.hid (HG2.out.setCell ⟨k, 0, none⟩ (.int .i64 (o : Int)) (.inr hks))
  generalize w2.setCell ⟨k, 0, none⟩ (.int .i64 (o : Int)) = w3 at *
  clear a0 a1 b0 b1 hp2 hk2 hfp hfk
  have b1 : w3.cell? ⟨k, 1, none⟩ = some (.slice none 0 0) := HN3.out.cellAt 1 _ rfl
  have hk2 := HN3.out.lt
  have hfk := HN3.out.free
  have hp2 := HB3.out.lt
  generalize hg : w3.heap.size = g at *
  go_upto_region 10 with fail
  have HB4 := Lib.hid ((HB3.out.setOther ⟨k, 1, none⟩ (.slice (some ⟨g, 0, none⟩) (l.length - n) (l.length - n)) hne).alloc (.cells (madeCells #[.int .u8 0] (l.length - n)) 5))
  have HN4 := Lib.hid ((HN3.out.set 1 (.slice (some ⟨g, 0, none⟩) (l.length - n) (l.length - n))).alloc (.cells (madeCells #[.int .u8 0] (l.length - n)) 5))
  have HM4 := Lib.hid (Blk.newAt (w3.setCell ⟨k, 1, none⟩ (.slice (some ⟨g, 0, none⟩) (l.length - n) (l.length - n))) (madeCells #[.int .u8 0] (l.length - n)) 5 g (by simp [hg]))
  have HG4 := Lib.hid ((HG3.out.setCell ⟨k, 1, none⟩ (.slice (some ⟨g, 0, none⟩) (l.length - n) (l.length - n)) (.inr hks)).alloc (.cells (madeCells #[.int .u8 0] (l.length - n)) 5))
  have hgs : w.heap.size ≤ g := hg ▸ HG3.out.size
  have hng : k ≠ g := by omega
  have hpg : p ≠ g := by omega
  generalize (w3.setCell ⟨k, 1, none⟩ (.slice (some ⟨g, 0, none⟩) (l.length - n) (l.length - n))).alloc (.cells (madeCells #[.int .u8 0] (l.length - n)) 5) = w4 at *
  clear b1 hk2 hfk hp2 hg hmk
  have a1 : w4.cell? ⟨p, 1, none⟩ = some (.slice q l.length cap) := HB4.out.cellAt 1 _ rfl
  have b1 : w4.cell? ⟨k, 1, none⟩ = some (.slice (some ⟨g, 0, none⟩) (l.length - n) (l.length - n)) := HN4.out.cellAt 1 _ rfl
  have hp4 := HB4.out.lt
  have hk4 := HN4.out.lt
  have hfp := HB4.out.free
  have hfk := HN4.out.free
  go_region
  have HB5 := Lib.hid ((HB4.out.setOther ⟨k, 1, none⟩ (.slice q l.length cap) hne).set 1 (.slice (some ⟨g, 0, none⟩) (l.length - n) (l.length - n))).drew
  have HN5 := Lib.hid ((HN4.out.set 1 (.slice q l.length cap)).setOther ⟨p, 1, none⟩ (.slice (some ⟨g, 0, none⟩) (l.length - n) (l.length - n)) (Ne.symm hne)).drew
  have HM5 := Lib.hid ((HM4.out.setOther ⟨k, 1, none⟩ (.slice q l.length cap) (Ne.symm hng)).setOther ⟨p, 1, none⟩ (.slice (some ⟨g, 0, none⟩) (l.length - n) (l.length - n)) (Ne.symm hpg)).drew
  have HG5 := Lib.hid (((Grow.to (S := fun j => j = p) HG4.out).setCell ⟨k, 1, none⟩ (.slice q l.length cap) (.inr hks)).setCell ⟨p, 1, none⟩ (.slice (some ⟨g, 0, none⟩) (l.length - n) (l.length - n)) (.inl rfl)).drew
  generalize ((w4.setCell ⟨k, 1, none⟩ (.slice q l.length cap)).setCell ⟨p, 1, none⟩ (.slice (some ⟨g, 0, none⟩) (l.length - n) (l.length - n))).drew = w5 at *
  clear a1 b1 hp4 hk4 hfp hfk
  have a1 : w5.cell? ⟨p, 1, none⟩ = some (.slice (some ⟨g, 0, none⟩) (l.length - n) (l.length - n)) := HB5.out.cellAt 1 _ rfl
  have b1 : w5.cell? ⟨k, 1, none⟩ = some (.slice q l.length cap) := HN5.out.cellAt 1 _ rfl
  have hp5 := HB5.out.lt
  have hk5 := HN5.out.lt
  have hR5 : Rd w5 (.slice q l.length cap) l := HR.out.keep (HG5.out.bytes (fun j hj => by rw [show j = p from hj]; exact HF.out.noBytes (by decide)))
  have HR5 := Lib.hid hR5
  have HD5 := Lib.hid (hR5.drop n hlt)
  clear hR5
  have hdl : (l.drop n).length = l.length - n := List.length_drop
  have hml : (madeCells #[Value.int .u8 0] (l.length - n)).size = l.length - n := by simp [madeCells]
  go_upto_region 11 with fail
  go_region_law (refine step_copyB rfl _ _ rfl HM5.out hml HD5.out hdl (by omega) rfl rfl ?_; intro w6 hR6 hF6)
  all_goals (
    have HB6 : Hid (Blk w6 p #[.int .i64 (o : Int), .slice (some ⟨g, 0, none⟩) (l.length - n) (l.length - n)] 122) := Lib.hid (hF6.blk HB5.out.drew (fun e => hpg e))
    have HN6 : Hid (Blk w6 k #[.int .i64 (o : Int), .slice q l.length cap] 122) := Lib.hid (hF6.blk HN5.out.drew (fun e => hng e))
    have HG6 := Lib.hid (HG5.out.drew.into hF6 (fun j e => .inr (by rw [show j = g from e]; exact hgs)))
    have HR6 := Lib.hid hR6
    clear hR6 hF6 a1 b1 hp5 hk5
    have a0 : w6.cell? ⟨p, 0, none⟩ = some (.int .i64 (o : Int)) := HB6.out.cellAt 0 _ rfl
    have b1 : w6.cell? ⟨k, 1, none⟩ = some (.slice q l.length cap) := HN6.out.cellAt 1 _ rfl
    have hp6 := HB6.out.lt
    have hk6 := HN6.out.lt
    have hfp := HB6.out.free
    have hfk := HN6.out.free
    have hnc : n ≤ cap := by omega
    go_upto_region 13 with fail
    have HB7 := Lib.hid (HB6.out.setOther ⟨k, 1, none⟩ (.slice q n cap) hne)
    have HN7 : Hid (Blk (w6.setCell ⟨k, 1, none⟩ (.slice q n cap)) k #[.int .i64 (o : Int), .slice q n cap] 122) := Lib.hid (HN6.out.set 1 (.slice q n cap))
    have HG7 := Lib.hid (HG6.out.setCell ⟨k, 1, none⟩ (.slice q n cap) (.inr hks))
    have HR7 := Lib.hid (HR6.out.keep (show KeepB w6 (w6.setCell ⟨k, 1, none⟩ (.slice q n cap)) from fun b hb => Below.heap_setCell _ _ _ _ (fun e => by have e : b = k := e; subst e; exact HN6.out.noBytes (by decide) hb)))
    generalize w6.setCell ⟨k, 1, none⟩ (.slice q n cap) = w7 at *
    clear a0 b1 hp6 hk6 hfp hfk
    have a0 : w7.cell? ⟨p, 0, none⟩ = some (.int .i64 (o : Int)) := HB7.out.cellAt 0 _ rfl
    have hp7 := HB7.out.lt
    have hfp := HB7.out.free
    go_wp2_with fail
    all_goals (
      refine bodyPost_ret (v := .tuple #[.pointer (some ⟨k, 0, none⟩), .bool true]) (by simp [results, Try.results44, go_sem]) rfl ?_
      refine ⟨k, rfl, hks, .slice q n cap, HN7.out.setOther _ _ (Ne.symm hne), ?_, .slice (some ⟨g, 0, none⟩) (l.length - n) (l.length - n), HB7.out.set 0 (.int .i64 ((o : Int) + (n : Int))), ?_, HG7.out.setCell _ _ (.inl rfl)⟩
      · exact ((HR.out.take n hlt).keep (Fr.bytes (HG7.out.setCell ⟨p, 0, none⟩ _ (.inl rfl)) (fun j hj => by rw [show j = p from hj]; exact HF.out.noBytes (by decide))))
      · exact HR7.out.keep (fun b hb => Below.heap_setCell _ _ _ _ (fun e => by have e : b = p := e; subst e; exact HB7.out.noBytes (by decide) hb))))
end Go.Proofs.Ytgdkbflhgcchfaa
