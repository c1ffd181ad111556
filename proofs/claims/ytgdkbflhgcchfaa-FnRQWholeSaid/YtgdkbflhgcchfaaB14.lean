/- laws.rqSteps. -/
import Derived.Test.YtgdkbflhgcchfaaB13
namespace Go.Proofs.Ytgdkbflhgcchfaa
open Go.RowKit

theorem RdC.src {w : World} {v : Value} {l : List UInt8} (h : RdC w v l) : Src Try.prog 1 31 v l.length (l.map u8) w := by
  obtain ⟨p, c, rfl, h1, h2, h3⟩ := h
  have one : ∀ u ∈ l.map u8, u.oneCell' = true := fun u hu => by
    obtain ⟨x, _, rfl⟩ := List.mem_map.1 hu; rfl
  cases l with
  | nil =>
    cases p with
    | none => exact Src.ofNil w Try.underlying31 c
    | some a => exact Src.ofSlice w Try.underlying31 a 0 c [] (by simp) (fun j u hj => by simp at hj) (fun u hu => by cases hu)
  | cons x r =>
    obtain ⟨b, o, rfl, _, hr⟩ := h3 (by simp)
    refine Src.ofSlice w Try.underlying31 _ _ c _ (by simp) (fun j u hj => ?_) one
    rw [List.getElem?_map] at hj
    obtain ⟨y, hy, rfl⟩ := Option.map_eq_some_iff.1 hj
    have := hr j y hy
    simpa [Addr.add_lit] using this
theorem RdC.take {w : World} {p : Option Addr} {n c : Nat} {l : List UInt8} (h : RdC w (.slice p n c) l) (k : Nat) (hk : k ≤ n) : RdC w (.slice p k c) (l.take k) := by
  obtain ⟨p', c', e, h1, h2, h3⟩ := h
  injection e with e1 e2 e3
  subst e1 e2 e3
  refine ⟨_, _, by rw [List.length_take, Nat.min_eq_left hk], by rw [List.length_take]; omega, h2, fun hne => ?_⟩
  have hl : l ≠ [] := fun e => hne (by rw [e, List.take_nil])
  obtain ⟨b, o, rfl, hb, h4⟩ := h3 hl
  refine ⟨b, o, rfl, hb, fun i x hx => h4 i x ?_⟩
  rw [List.getElem?_take] at hx
  split at hx
  · exact hx
  · cases hx
/-- 'append(s, x...)' of bytes that lie anywhere. -/
theorem run_appendRC {w : World} {v x : Value} {l m : List UInt8} (h : OwnB w v l) (hr : RdC w x m) (hlen : l.length + m.length ≤ 1000000) (ty : TypeId) :
    ∃ v' w', (Builtin.append_ #[31, 31] ty #[v, x]).run Try.prog w = .ok v' w' ∧ OwnB w' v' (l ++ m) ∧ Fr (fun k => v.ownBlock = some k) w w' := by
  obtain ⟨i, hi, hzz⟩ := Option.map_eq_some_iff.1 info5
  simp only [Prod.mk.injEq] at hzz
  obtain ⟨hz, hs, hb⟩ := hzz
  obtain ⟨v', w', h1, h2, h3, _⟩ := run_appendOwn (P := Try.prog) h 31 31 ty i (.int .u8 0) 1 Try.underlying31 hi hz hs hb rfl x m.length (m.map u8) hr.src (by omega) (by omega) (by omega)
  refine ⟨v', w', h1, ?_, h3⟩
  rw [← List.map_append, ← List.length_append] at h2
  exact h2
set_option maxRecDepth 100000 in
theorem types_any (w : World) : Calls Try.prog 15 #[] w fun e w' => e = .returned (.slice (some ⟨w.heap.size, 0, none⟩) 11 11) ∧ w' = w.alloc (.cells #[.int .i64 6, .int .i64 1, .int .i64 6, .int .i64 16, .int .i64 30, .int .i64 7, .int .i64 25, .int .i64 4, .int .i64 5, .int .i64 17, .int .i64 18] 3) := by
  go_enter Try.func15, Try.ntmps15
  go_wp2_with fail
  go_ret
  exact ⟨rfl, rfl⟩
def isTy (t : Nat) : Prop := t = 6 ∨ t = 1 ∨ t = 16 ∨ t = 30 ∨ t = 7 ∨ t = 25 ∨ t = 4 ∨ t = 5 ∨ t = 17 ∨ t = 18
theorem types_g (w : World) : Calls Try.prog 15 #[] w fun e w' => ∃ k, e = .returned (.slice (some ⟨k, 0, none⟩) 11 11) ∧ Grow w w' ∧ k < w'.heap.size ∧ ∀ j, j < 11 → ∃ t : Nat, isTy t ∧ w'.cell? ⟨k, j, none⟩ = some (.int .i64 (t : Int)) := by
  refine (types_any w).mono ?_
  rintro e w' ⟨rfl, rfl⟩
  have hB := Blk.new w #[.int .i64 6, .int .i64 1, .int .i64 6, .int .i64 16, .int .i64 30, .int .i64 7, .int .i64 25, .int .i64 4, .int .i64 5, .int .i64 17, .int .i64 18] 3
  refine ⟨_, rfl, (Fr.refl _ w).alloc _, hB.lt, fun j hj => ?_⟩
  have hc : j = 0 ∨ j = 1 ∨ j = 2 ∨ j = 3 ∨ j = 4 ∨ j = 5 ∨ j = 6 ∨ j = 7 ∨ j = 8 ∨ j = 9 ∨ j = 10 := by omega
  rcases hc with rfl | rfl | rfl | rfl | rfl | rfl | rfl | rfl | rfl | rfl | rfl
  · exact ⟨6, by simp [isTy], hB.cellAt 0 _ rfl⟩
  · exact ⟨1, by simp [isTy], hB.cellAt 1 _ rfl⟩
  · exact ⟨6, by simp [isTy], hB.cellAt 2 _ rfl⟩
  · exact ⟨16, by simp [isTy], hB.cellAt 3 _ rfl⟩
  · exact ⟨30, by simp [isTy], hB.cellAt 4 _ rfl⟩
  · exact ⟨7, by simp [isTy], hB.cellAt 5 _ rfl⟩
  · exact ⟨25, by simp [isTy], hB.cellAt 6 _ rfl⟩
  · exact ⟨4, by simp [isTy], hB.cellAt 7 _ rfl⟩
  · exact ⟨5, by simp [isTy], hB.cellAt 8 _ rfl⟩
  · exact ⟨17, by simp [isTy], hB.cellAt 9 _ rfl⟩
  · exact ⟨18, by simp [isTy], hB.cellAt 10 _ rfl⟩
/-- The control under way. -/
def CMid (w0 wx : World) (kC : Nat) : Prop := ∃ (c : Ct) (d : Value), c.a ≤ 4294967296 ∧ c.b ≤ 4294967296 ∧ c.data.length ≤ 301 ∧ Blk wx kC #[.int .i64 (c.ty : Int), .int .u64 (c.a : Int), .int .u64 (c.b : Int), .int .u64 (c.c : Int), d] 33 ∧ Rd wx d c.data ∧ Grow w0 wx
/-- The act under way. -/
def StepMid (w0 wx : World) (k : Nat) : Prop := ∃ x d, Sp.Ok x ∧ Blk wx k (stC x d).toArray 35 ∧ Rd wx d x.data ∧ Grow w0 wx

set_option maxRecDepth 100000 in
set_option maxHeartbeats 60000000 in
theorem steps_any (w : World) (v : Value) (ops : List ROp) (h : OpsAt w v ops) : Calls Try.prog 6 #[v] w fun e w' => Grow w w' ∧ ∃ v' xs, e = .returned v' ∧ StepsAt w' v' xs ∧ xs.length ≤ 60 ∧ (∀ x ∈ xs, x.Ok) ∧ ∀ k, v'.ownBlock = some k → w.heap.size ≤ k := by
  obtain ⟨p, c, rfl, h1, h2, h3⟩ := id h
  have HO := Lib.hid h
  clear h h3
  obtain ⟨L, hL⟩ : ∃ L, L = min ops.length 60 := ⟨_, rfl⟩
  have hmin : (if (60 : Int) < (ops.length : Int) then (60 : Int) else (ops.length : Int)) = (L : Int) := by rw [hL]; split <;> omega
  have hmin2 : min (ops.length : Int) 60 = (L : Int) := by omega
  have hLc : L ≤ c := by omega
  have hL6 : L ≤ 60 := by omega
  have hLo : L ≤ ops.length := by omega
  clear hL
  go_enter Try.func6, Try.ntmps6
  go_upto_region 3 with fail
  clear hmin hmin2
  go_loopg [3, 15] L (fun k s3 s15 wr => ∃ (i : Nat) (xs : List Sp), k + i = L ∧ s15 = .int .i64 (i : Int) ∧ Hid (StepsAt wr s3 xs ∧ xs.length = i ∧ (∀ x ∈ xs, x.Ok) ∧ Grow w wr ∧ ∀ k, s3.ownBlock = some k → w.heap.size ≤ k))
  case atStart => exact ⟨0, [], by simp, rfl, Lib.hid ⟨RowAt.nil _, rfl, (fun _ h => nomatch h), Fr.refl _ _, (fun _ h => nomatch h)⟩⟩
  case round =>
    obtain ⟨i, xs, hk, rfl, HI⟩ := hrel
    by_cases hend : i = L
    · have hne : ¬ (i < L) := by omega
      go_wp2_with fail
      go_ret
      exact ⟨HI.out.2.2.2.1, _, xs, rfl, HI.out.1, by have := HI.out.2.1; omega, HI.out.2.2.1, HI.out.2.2.2.2⟩
    · have hin : i < L := by omega
      have hin2 : i < ops.length := by omega
      have hx : ops[i]? = some (ops[i]'hin2) := List.getElem?_eq_getElem hin2
      generalize ops[i]'hin2 = X at hx
      obtain ⟨p', c', e', _, _, hall⟩ := HO.out.grow HI.out.2.2.2.1
      injection e' with q1 q2 q3
      subst q1
      subst q3
      obtain ⟨k1, k2, k3, k4, k5, k6, b, o, d, rfl, hb, hd, e0, e1, e2, e3, e4, e5, e6⟩ := hall i X hx
      obtain ⟨pd, cd, rfl, hdc, hdc2, _⟩ := id hd
      obtain ⟨xk, xl, xt, xa, xb, xm, D⟩ := X
      have HD := Lib.hid hd
      have hxk : xk < 256 := k1
      have hxl : xl < 256 := k2
      have hxt : xt < 256 := k3
      have hxa : xa < 4294967296 := k4
      have hxb : xb < 4294967296 := k5
      have hxm : xm < 65536 := k6
      obtain ⟨lv, hlv⟩ : ∃ lv, lv = xl % 3 := ⟨_, rfl⟩
      have hlv3 : lv ≤ 2 := by omega
      have hle : (xl : Int) % 3 = (lv : Int) := by omega
      have HLV := Lib.hid hlv
      have hdcc : D.length ≤ cd := hdc
      clear hlv
      clear hall hx hd q2 k1 k2 k3 k4 k5 k6 hend
      go_upto_block 2 with fail
      have hGa : Grow wr ((wr.alloc (.cells #[.int .u8 (xk : Int), .int .u8 (xl : Int), .int .u8 (xt : Int), .int .u32 (xa : Int), .int .u32 (xb : Int), .int .u16 (xm : Int), .slice pd D.length cd] 60)).alloc (.cells #[.int .i64 0, .int .i64 (lv : Int), .int .i64 0, .int .u64 0, .int .u64 0, .int .u64 0, .slice none 0 0, .int .i64 0] 35)) := ((Fr.refl _ _).alloc _).alloc _
      have hA : Blk ((wr.alloc (.cells #[.int .u8 (xk : Int), .int .u8 (xl : Int), .int .u8 (xt : Int), .int .u32 (xa : Int), .int .u32 (xb : Int), .int .u16 (xm : Int), .slice pd D.length cd] 60)).alloc (.cells #[.int .i64 0, .int .i64 (lv : Int), .int .i64 0, .int .u64 0, .int .u64 0, .int .u64 0, .slice none 0 0, .int .i64 0] 35)) wr.heap.size #[.int .u8 (xk : Int), .int .u8 (xl : Int), .int .u8 (xt : Int), .int .u32 (xa : Int), .int .u32 (xb : Int), .int .u16 (xm : Int), .slice pd D.length cd] 60 := (Blk.new wr _ _).alloc _
      have hX : Blk ((wr.alloc (.cells #[.int .u8 (xk : Int), .int .u8 (xl : Int), .int .u8 (xt : Int), .int .u32 (xa : Int), .int .u32 (xb : Int), .int .u16 (xm : Int), .slice pd D.length cd] 60)).alloc (.cells #[.int .i64 0, .int .i64 (lv : Int), .int .i64 0, .int .u64 0, .int .u64 0, .int .u64 0, .slice none 0 0, .int .i64 0] 35)) (wr.heap.size + 1) #[.int .i64 0, .int .i64 (lv : Int), .int .i64 0, .int .u64 0, .int .u64 0, .int .u64 0, .slice none 0 0, .int .i64 0] 35 := Blk.newAt _ _ _ _ (by simp)
      have HDa := Lib.hid (HD.out.grow hGa)
      generalize ((wr.alloc (.cells #[.int .u8 (xk : Int), .int .u8 (xl : Int), .int .u8 (xt : Int), .int .u32 (xa : Int), .int .u32 (xb : Int), .int .u16 (xm : Int), .slice pd D.length cd] 60)).alloc (.cells #[.int .i64 0, .int .i64 (lv : Int), .int .i64 0, .int .u64 0, .int .u64 0, .int .u64 0, .slice none 0 0, .int .i64 0] 35)) = wa at *
      have HGa := Lib.hid hGa
      have HA := Lib.hid hA
      have HX := Lib.hid hX
      clear e0 e1 e2 e3 e4 e5 e6 hGa hA hX hb hle
      go_cut [7, 8] from 26 to 136 (fun _ _ wx => Hid (StepMid wr wx (wr.heap.size + 1)))
      case first =>
        have a0 : wa.cell? ⟨wr.heap.size, 0, none⟩ = some (.int .u8 (xk : Int)) := HA.out.cellAt 0 _ rfl
        have a2 : wa.cell? ⟨wr.heap.size, 2, none⟩ = some (.int .u8 (xt : Int)) := HA.out.cellAt 2 _ rfl
        have a3 : wa.cell? ⟨wr.heap.size, 3, none⟩ = some (.int .u32 (xa : Int)) := HA.out.cellAt 3 _ rfl
        have a4 : wa.cell? ⟨wr.heap.size, 4, none⟩ = some (.int .u32 (xb : Int)) := HA.out.cellAt 4 _ rfl
        have a5 : wa.cell? ⟨wr.heap.size, 5, none⟩ = some (.int .u16 (xm : Int)) := HA.out.cellAt 5 _ rfl
        have a6 : wa.cell? ⟨wr.heap.size, 6, none⟩ = some (.slice pd D.length cd) := HA.out.cellAt 6 _ rfl
        have b0 : wa.cell? ⟨wr.heap.size + 1, 0, none⟩ = some (.int .i64 0) := HX.out.cellAt 0 _ rfl
        have b1 : wa.cell? ⟨wr.heap.size + 1, 1, none⟩ = some (.int .i64 (lv : Int)) := HX.out.cellAt 1 _ rfl
        have b7 : wa.cell? ⟨wr.heap.size + 1, 7, none⟩ = some (.int .i64 0) := HX.out.cellAt 7 _ rfl
        have hltA := HA.out.lt
        have hltX := HX.out.lt
        have hfX := HX.out.free
        have nilRd : ∀ W : World, Rd W (.slice none 0 0) [] := fun W => ⟨none, 0, rfl, Nat.le_refl _, by omega, fun h => (h rfl).elim⟩
        have NR := Lib.hid nilRd
        clear nilRd
        have hsz : wr.heap.size ≤ wr.heap.size + 1 := Nat.le_succ _
        have h8 : xk % 8 ≤ 2 ∨ xk % 8 = 6 ∨ xk % 8 = 7 ∨ xk % 8 = 3 ∨ xk % 8 = 4 ∨ xk % 8 = 5 := by omega
        rcases h8 with h8 | h8 | h8 | h8 | h8 | h8
        · have h3 : xk % 8 = 0 ∨ xk % 8 = 1 ∨ xk % 8 = 2 := by omega
          have H3 := Lib.hid h3
          clear h8 h3
          go_upto_if 33 with fail
          go_cut [33] from 34 to 36 (fun s33 wx => s33 = .bool true ∧ wa = wx)
          case first =>
            rcases H3.out with h | h | h
            · have hk8 : ((xk : Int) % 8 == 0) = true := by simp; omega
              clear h
              go_wp2_with fail
              go_meet
              exact ⟨rfl, rfl⟩
            · have hk8 : ((xk : Int) % 8 == 0) = false := by simp; omega
              have hk9 : ((xk : Int) % 8 == 1) = true := by simp; omega
              clear h
              go_wp2_with fail
              go_meet
              exact ⟨rfl, rfl⟩
            · have hk8 : ((xk : Int) % 8 == 0) = false := by simp; omega
              have hk9 : ((xk : Int) % 8 == 1) = false := by simp; omega
              have hk10 : ((xk : Int) % 8 == 2) = true := by simp; omega
              clear h
              go_wp2_with fail
              go_meet
              exact ⟨rfl, rfl⟩
          case rest =>
          obtain ⟨rfl, hwc⟩ := hcut
          subst hwc
          go_upto_if 39 with fail
          go_cut [7] from 39 to 41 (fun s7 wx => ∃ n' : Nat, (n' = 2 ∨ n' = 11) ∧ s7 = .int .i64 (n' : Int) ∧ Hid (Grow wa wx))
          case first =>
            by_cases hl2 : lv = 2
            · have hl2b : ((lv : Int) == 2) = true := by simp [hl2]
              have HL2 := Lib.hid hl2
              clear hl2
              go_wp2_with (go_at_call 15; refine (types_g _).mono ?_; rintro e w2 ⟨k, rfl, hg, _, _⟩; have HG := Lib.hid hg; clear hg)
              go_meet
              exact ⟨11, .inr rfl, rfl, HG⟩
            · have hl2b : ((lv : Int) == 2) = false := by simp; omega
              have HL2 := Lib.hid hl2
              clear hl2
              go_wp2_with fail
              go_meet
              exact ⟨2, .inl rfl, rfl, Lib.hid (Fr.refl _ _)⟩
          case rest =>
          obtain ⟨n', hn', rfl, HGn⟩ := hcut
          obtain ⟨j, hj⟩ : ∃ j, j = xt % n' := ⟨_, rfl⟩
          have hj11 : j < 11 := by rcases hn' with rfl | rfl <;> omega
          have hje : (xt : Int) % (n' : Int) = (j : Int) := by rw [hj]; omega
          have hn0 : ((n' : Int) == 0) = false := by rcases hn' with rfl | rfl <;> rfl
          have hn00 : ¬ ((n' : Int) = 0) := by rcases hn' with rfl | rfl <;> omega
          have hnp : (0 : Int) < (n' : Int) := by omega
          have hjlt : ((j : Int) < 11) = True := eq_true (by omega)
          have HJ := Lib.hid hj
          have HN' := Lib.hid hn'
          clear hj hn'
          have a2c : wc.cell? ⟨wr.heap.size, 2, none⟩ = some (.int .u8 (xt : Int)) := (HGn.out.cell hltA).trans a2
          have hltAc := Nat.lt_of_lt_of_le hltA HGn.out.size
          have HA2 := Lib.hid (And.intro hltA (And.intro a2 (And.intro a3 (And.intro a4 (And.intro a5 a6)))))
          clear a0 a2 a3 a4 a5 a6 b0 b1 b7 hltA hltX hfX
          go_upto_region 14 with fail
          go_cut [8] from 42 to 50 (fun s8 wx => ∃ t kC : Nat, isTy t ∧ s8 = .pointer (some ⟨kC, 0, none⟩) ∧ Hid (Blk wx kC #[.int .i64 (t : Int), .int .u64 0, .int .u64 0, .int .u64 0, .slice none 0 0] 33 ∧ Grow wa wx ∧ wa.heap.size ≤ kC))
          case first =>
            go_region_with (go_at_call 15; refine (types_g _).mono ?_; rintro e w3 ⟨k, rfl, hg3, hk3, hc3⟩; obtain ⟨t, ht, hct⟩ := hc3 j hj11; have HT := Lib.hid ht; have HGc : Hid (Grow wc w3) := Lib.hid (by repeat (first | exact Fr.refl _ _ | apply Fr.drew | apply Fr.alloc | refine Fr.trans ?_ hg3)); have a2d : w3.cell? ⟨wr.heap.size, 2, none⟩ = some (.int .u8 (xt : Int)) := (HGc.out.cell hltAc).trans a2c; have hlt3 : wr.heap.size < w3.heap.size := Nat.lt_of_lt_of_le hltAc HGc.out.size; try (have hz := hg3.blk ((Blk.new wc #[.int .i64 0, .int .u64 0, .int .u64 0, .int .u64 0, .slice none 0 0] 33).drew) (fun e => e); have HZ := Lib.hid hz; have z0 : w3.cell? ⟨wc.heap.size, 0, none⟩ = some (.int .i64 0) := hz.cellAt 0 _ rfl; have z1 : w3.cell? ⟨wc.heap.size, 1, none⟩ = some (.int .u64 0) := hz.cellAt 1 _ rfl; have z2 : w3.cell? ⟨wc.heap.size, 2, none⟩ = some (.int .u64 0) := hz.cellAt 2 _ rfl; have z3 : w3.cell? ⟨wc.heap.size, 3, none⟩ = some (.int .u64 0) := hz.cellAt 3 _ rfl; have z4 : w3.cell? ⟨wc.heap.size, 4, none⟩ = some (.slice none 0 0) := hz.cellAt 4 _ rfl; have hlz := hz.lt; have hfz := hz.free; clear hz); clear hc3 hg3 ht)
            all_goals (
              go_wp2_with fail
              go_meet
              first
                | (refine ⟨t, w3.heap.size, HT.out, ?_, Lib.hid ⟨?_, ?_, (HGn.out.trans HGc.out).size⟩⟩; (with_reducible rfl); (with_reducible exact Blk.new w3 _ _); (with_reducible exact (HGn.out.trans HGc.out).alloc _))
                | exact ⟨t, wc.heap.size, HT.out, rfl, Lib.hid ⟨((((HZ.out.set 0 (.int .i64 (t : Int))).set 1 (.int .u64 0)).set 2 (.int .u64 0)).set 3 (.int .u64 0)).set 4 (.slice none 0 0), (((((HGn.out.trans HGc.out).setCell _ _ (.inr HGn.out.size)).setCell _ _ (.inr HGn.out.size)).setCell _ _ (.inr HGn.out.size)).setCell _ _ (.inr HGn.out.size)).setCell _ _ (.inr HGn.out.size), HGn.out.size⟩⟩
                | (trace_state; fail))
          case rest =>
          obtain ⟨t, kC, hty, rfl, hcd⟩ := hcut
          obtain ⟨hCb, hCg, hCs⟩ := hcd.out
          have d0 : wc.cell? ⟨kC, 0, none⟩ = some (.int .i64 (t : Int)) := hCb.cellAt 0 _ rfl
          have d1 : wc.cell? ⟨kC, 1, none⟩ = some (.int .u64 0) := hCb.cellAt 1 _ rfl
          have d2 : wc.cell? ⟨kC, 2, none⟩ = some (.int .u64 0) := hCb.cellAt 2 _ rfl
          have d3 : wc.cell? ⟨kC, 3, none⟩ = some (.int .u64 0) := hCb.cellAt 3 _ rfl
          have d4 : wc.cell? ⟨kC, 4, none⟩ = some (.slice none 0 0) := hCb.cellAt 4 _ rfl
          have hltC := hCb.lt
          have hfC := hCb.free
          have HCB := Lib.hid hCb
          have HCG := Lib.hid hCg
          have HCS := Lib.hid hCs
          have a3 : wc.cell? ⟨wr.heap.size, 3, none⟩ = some (.int .u32 (xa : Int)) := (hCg.cell HA2.out.1).trans HA2.out.2.2.1
          have a4 : wc.cell? ⟨wr.heap.size, 4, none⟩ = some (.int .u32 (xb : Int)) := (hCg.cell HA2.out.1).trans HA2.out.2.2.2.1
          have a6 : wc.cell? ⟨wr.heap.size, 6, none⟩ = some (.slice pd D.length cd) := (hCg.cell HA2.out.1).trans HA2.out.2.2.2.2.2
          have hltA3 := Nat.lt_of_lt_of_le HA2.out.1 hCg.size
          have hneC : kC ≠ wr.heap.size := by have := HA2.out.1; omega
          have HDc := Lib.hid (HDa.out.grow hCg)
          have hTY := Lib.hid hty
          clear hCb hCg hCs hcd hty hje hn0 hn00 hnp hjlt a2c hltAc
          go_upto_block 3 with fail
          go_cut [] from 51 to 118 (fun wx => Hid (CMid wa wx kC))
          case first =>
            have hwa : IntKind.u64.wrap (xa : Int) = (xa : Int) := by rw [IntKind.wrap_u64]; omega
            have hwb : IntKind.u64.wrap (xb : Int) = (xb : Int) := by rw [IntKind.wrap_u64]; omega
            rcases hTY.out with rfl | rfl | rfl | rfl | rfl | rfl | rfl | rfl | rfl | rfl
            · -- CRYPTO
              obtain ⟨L7, hL7⟩ : ∃ L7, L7 = min D.length 300 := ⟨_, rfl⟩
              have hm7 : (if (300 : Int) < (D.length : Int) then (300 : Int) else (D.length : Int)) = (L7 : Int) := by rw [hL7]; split <;> omega
              have hm8 : min (D.length : Int) 300 = (L7 : Int) := by omega
              have hc7 : L7 ≤ cd := by omega
              have hl7 : L7 ≤ 300 := by omega
              have hD7 : L7 ≤ D.length := by omega
              have HL7 : Hid ((D.take L7).length = L7) := Lib.hid (by rw [List.length_take]; omega)
              have H7 : Hid (∀ (W w5 : World) (v5 : Value), Grow wc W → OwnB w5 v5 ([7] ++ D.take L7) → Fr (fun k => (Value.slice (some ⟨wc.heap.size, 0, none⟩) 1 1).ownBlock = some k) W w5 → Hid (OwnB w5 v5 ([7] ++ D.take L7) ∧ Grow wc w5 ∧ Blk w5 kC #[.int .i64 6, .int .u64 0, .int .u64 0, .int .u64 0, .slice none 0 0] 33)) := Lib.hid fun W w5 v5 hG hO hF => by
                have hg : Grow wc w5 := Grow.trans' hG hF (fun k hk => by have : wc.heap.size = k := Option.some.inj hk; omega)
                exact Lib.hid ⟨hO, hg, hg.blk HCB.out (fun e => e)⟩
              clear hL7
              have HO7 : OwnB (wc.drew.alloc (.cells #[.int .u8 7] 5)) (.slice (some ⟨wc.heap.size, 0, none⟩) 1 1) [7] := BRow.own (l := [7]) (k := 1) (show BRow (wc.drew.alloc (.cells #[.int .u8 7] 5)) wc.heap.size [7] from Blk.new wc.drew #[.int .u8 7] 5) rfl (by decide)
              have HS7 : RdC (wc.drew.alloc (.cells #[.int .u8 7] 5)) (.slice pd L7 cd) (D.take L7) := (HDc.out.grow ((Fr.refl _ wc).drew.alloc (.cells #[.int .u8 7] 5))).take L7 hD7
              have HApp := Lib.hid (run_appendRC HO7 HS7 (by have := HL7.out; simp only [List.length_cons, List.length_nil]; omega))
              clear HO7 HS7
              go_upto_region 17 with fail
              have HS : Hid (∀ w', Grow wa w' → (w'.cell? ⟨wr.heap.size, 3, none⟩ = some (.int .u32 (xa : Int)) ∧ w'.cell? ⟨wr.heap.size, 6, none⟩ = some (.slice pd D.length cd))) := Lib.hid fun w' hg => ⟨(hg.cell HA2.out.1).trans HA2.out.2.2.1, (hg.cell HA2.out.1).trans HA2.out.2.2.2.2.2⟩
              go_region_held3 (fun w' => w'.cell? ⟨wr.heap.size, 3, none⟩ = some (.int .u32 (xa : Int)) ∧ w'.cell? ⟨wr.heap.size, 6, none⟩ = some (.slice pd D.length cd))
                (first | exact HS.out _ (by repeat (first | exact HCG.out | assumption | apply Fr.drew | apply Fr.alloc | refine Fr.setCell ?_ _ _ (.inr HCS.out))))
                ((refine step_append_run (by go_simp) _ _ 31 (by rfl) _ _ (by rfl) (by rfl) (HApp.out _) ?_; rintro v5 w5 ⟨hO5, hF5⟩; have H5 := H7.out _ w5 v5 ((Fr.refl _ wc).drew.alloc _) hO5 hF5; have hg5 : Grow wa w5 := HCG.out.trans H5.out.2.1; obtain ⟨p5, c5, rfl, hr5⟩ := hO5.rd.int (n := L7 + 1) (by have := HL7.out; simp only [List.length_append, List.length_cons, List.length_nil]; omega); have HR5 := Lib.hid hr5; clear hr5; have g1 : w5.cell? ⟨kC, 1, none⟩ = some (.int .u64 0) := H5.out.2.2.cellAt 1 _ rfl; have g4 : w5.cell? ⟨kC, 4, none⟩ = some (.slice none 0 0) := H5.out.2.2.cellAt 4 _ rfl; have hlt5 := H5.out.2.2.lt; have hf5 := H5.out.2.2.free; clear hO5 hF5))
              all_goals (
                go_wp2_with fail
                go_meet
                refine Lib.hid ⟨.crypto xa ([7] ++ D.take L7), _, Nat.le_of_lt hxa, Nat.zero_le _, by show ([7] ++ D.take L7).length ≤ 301; have := HL7.out; simp; omega, (H5.out.2.2.set 1 (.int .u64 (xa : Int))).set 4 _, (HR5.out.set H5.out.2.2 (by decide) 1 _).set (H5.out.2.2.set 1 _) (by decide) 4 _, ((HCG.out.trans H5.out.2.1).setCell _ _ (.inr HCS.out)).setCell _ _ (.inr HCS.out)⟩)
            · go_wp2_with fail
              go_meet
              exact Lib.hid ⟨.ping, .slice none 0 0, by decide, by decide, by decide, HCB.out, NR.out _, HCG.out⟩
            · go_wp2_with fail
              go_meet
              exact Lib.hid ⟨.maxData xa, .slice none 0 0, Nat.le_of_lt hxa, Nat.zero_le _, Nat.zero_le _, HCB.out.set 1 (.int .u64 (xa : Int)), NR.out _, HCG.out.setCell _ _ (.inr HCS.out)⟩
            · go_wp2_with fail
              go_meet
              exact Lib.hid ⟨.done, .slice none 0 0, by decide, by decide, by decide, HCB.out, NR.out _, HCG.out⟩
            · -- NEW_TOKEN
              obtain ⟨L7, hL7⟩ : ∃ L7, L7 = min D.length 60 := ⟨_, rfl⟩
              have hm7 : (if (60 : Int) < (D.length : Int) then (60 : Int) else (D.length : Int)) = (L7 : Int) := by rw [hL7]; split <;> omega
              have hm8 : min (D.length : Int) 60 = (L7 : Int) := by omega
              have hc7 : L7 ≤ cd := by omega
              have hl7 : L7 ≤ 60 := by omega
              have hD7 : L7 ≤ D.length := by omega
              have HL7 : Hid ((D.take L7).length = L7) := Lib.hid (by rw [List.length_take]; omega)
              have H7 : Hid (∀ (W w5 : World) (v5 : Value), Grow wc W → OwnB w5 v5 ([7] ++ D.take L7) → Fr (fun k => (Value.slice (some ⟨wc.heap.size, 0, none⟩) 1 1).ownBlock = some k) W w5 → Hid (OwnB w5 v5 ([7] ++ D.take L7) ∧ Grow wc w5 ∧ Blk w5 kC #[.int .i64 7, .int .u64 0, .int .u64 0, .int .u64 0, .slice none 0 0] 33)) := Lib.hid fun W w5 v5 hG hO hF => by
                have hg : Grow wc w5 := Grow.trans' hG hF (fun k hk => by have : wc.heap.size = k := Option.some.inj hk; omega)
                exact Lib.hid ⟨hO, hg, hg.blk HCB.out (fun e => e)⟩
              clear hL7
              have HO7 : OwnB (wc.alloc (.cells #[.int .u8 7] 5)) (.slice (some ⟨wc.heap.size, 0, none⟩) 1 1) [7] := BRow.own (l := [7]) (k := 1) (show BRow (wc.alloc (.cells #[.int .u8 7] 5)) wc.heap.size [7] from Blk.new wc #[.int .u8 7] 5) rfl (by decide)
              have HS7 : RdC (wc.alloc (.cells #[.int .u8 7] 5)) (.slice pd L7 cd) (D.take L7) := (HDc.out.grow ((Fr.refl _ wc).alloc (.cells #[.int .u8 7] 5))).take L7 hD7
              have HApp := Lib.hid (run_appendRC HO7 HS7 (by have := HL7.out; simp only [List.length_cons, List.length_nil]; omega))
              clear HO7 HS7
              go_wp2_with (at_builtin; refine wpList_append_run _ rfl _ _ 31 rfl _ _ rfl rfl (HApp.out _) ?_; rintro v5 w5 ⟨hO5, hF5⟩; have H5 := H7.out _ w5 v5 ((Fr.refl _ wc).alloc _) hO5 hF5; obtain ⟨p5, c5, rfl, hr5⟩ := hO5.rd.int (n := L7 + 1) (by have := HL7.out; simp only [List.length_append, List.length_cons, List.length_nil]; omega); have HR5 := Lib.hid hr5; clear hr5; have g4 : w5.cell? ⟨kC, 4, none⟩ = some (.slice none 0 0) := H5.out.2.2.cellAt 4 _ rfl; have hlt5 := H5.out.2.2.lt; have hf5 := H5.out.2.2.free; clear hO5 hF5)
              go_meet
              refine Lib.hid ⟨.token ([7] ++ D.take L7), _, Nat.zero_le _, Nat.zero_le _, by show ([7] ++ D.take L7).length ≤ 301; have := HL7.out; simp; omega, H5.out.2.2.set 4 _, HR5.out.set H5.out.2.2 (by decide) 4 _, (HCG.out.trans H5.out.2.1).setCell _ _ (.inr HCS.out)⟩
            · go_wp2_with fail
              go_meet
              exact Lib.hid ⟨.retire xa, .slice none 0 0, Nat.le_of_lt hxa, Nat.zero_le _, Nat.zero_le _, HCB.out.set 1 (.int .u64 (xa : Int)), NR.out _, HCG.out.setCell _ _ (.inr HCS.out)⟩
            · go_upto_region 21 with fail
              go_region
              go_wp2_with fail
              go_meet
              exact Lib.hid ⟨.reset xa xb, .slice none 0 0, Nat.le_of_lt hxa, Nat.le_of_lt hxb, Nat.zero_le _, (((HCB.out.set 1 (.int .u64 (xa : Int))).set 2 (.int .u64 (xb : Int))).set 3 (.int .u64 (xa : Int))).drew, NR.out _, (((HCG.out.setCell _ _ (.inr HCS.out)).setCell _ _ (.inr HCS.out)).setCell _ _ (.inr HCS.out)).drew⟩
            · go_upto_region 26 with fail
              go_region
              go_wp2_with fail
              go_meet
              exact Lib.hid ⟨.stop xa xb, .slice none 0 0, Nat.le_of_lt hxa, Nat.le_of_lt hxb, Nat.zero_le _, ((HCB.out.set 1 (.int .u64 (xa : Int))).set 2 (.int .u64 (xb : Int))).drew, NR.out _, ((HCG.out.setCell _ _ (.inr HCS.out)).setCell _ _ (.inr HCS.out)).drew⟩
            · go_upto_region 26 with fail
              go_region
              go_wp2_with fail
              go_meet
              exact Lib.hid ⟨.maxStream xa xb, .slice none 0 0, Nat.le_of_lt hxa, Nat.le_of_lt hxb, Nat.zero_le _, ((HCB.out.set 1 (.int .u64 (xa : Int))).set 2 (.int .u64 (xb : Int))).drew, NR.out _, ((HCG.out.setCell _ _ (.inr HCS.out)).setCell _ _ (.inr HCS.out)).drew⟩
            · go_wp2_with fail
              go_meet
              exact Lib.hid ⟨.maxStreams xa, .slice none 0 0, Nat.le_of_lt hxa, Nat.zero_le _, Nat.zero_le _, HCB.out.set 1 (.int .u64 (xa : Int)), NR.out _, HCG.out.setCell _ _ (.inr HCS.out)⟩
          case rest =>
          obtain ⟨c9, d9, m1, m2, m3, mb, mr, mg⟩ := hcut.out
          obtain ⟨p9, q9, rfl, _⟩ := id mr
          have n0 : wc.cell? ⟨kC, 0, none⟩ = some (.int .i64 (c9.ty : Int)) := mb.cellAt 0 _ rfl
          have n1 : wc.cell? ⟨kC, 1, none⟩ = some (.int .u64 (c9.a : Int)) := mb.cellAt 1 _ rfl
          have n2 : wc.cell? ⟨kC, 2, none⟩ = some (.int .u64 (c9.b : Int)) := mb.cellAt 2 _ rfl
          have n3 : wc.cell? ⟨kC, 3, none⟩ = some (.int .u64 (c9.c : Int)) := mb.cellAt 3 _ rfl
          have n4 : wc.cell? ⟨kC, 4, none⟩ = some (.slice p9 c9.data.length q9) := mb.cellAt 4 _ rfl
          have hX9 := mg.blk HX.out (fun e => e)
          have v2 : wc.cell? ⟨wr.heap.size + 1, 2, none⟩ = some (.int .i64 0) := hX9.cellAt 2 _ rfl
          have v3 : wc.cell? ⟨wr.heap.size + 1, 3, none⟩ = some (.int .u64 0) := hX9.cellAt 3 _ rfl
          have v4 : wc.cell? ⟨wr.heap.size + 1, 4, none⟩ = some (.int .u64 0) := hX9.cellAt 4 _ rfl
          have v5 : wc.cell? ⟨wr.heap.size + 1, 5, none⟩ = some (.int .u64 0) := hX9.cellAt 5 _ rfl
          have v6 : wc.cell? ⟨wr.heap.size + 1, 6, none⟩ = some (.slice none 0 0) := hX9.cellAt 6 _ rfl
          have hlt9 := mb.lt
          have hltX9 := hX9.lt
          have hfX9 := hX9.free
          have HX9 := Lib.hid hX9
          have HM9 := Lib.hid (And.intro m1 (And.intro m2 (And.intro m3 (And.intro mr mg))))
          clear hcut mb mr mg hX9 m1 m2 m3 d0 d1 d2 d3 d4 hltC hfC a3 a4 a6 hltA3
          go_wp2_with fail
          go_meet
          obtain ⟨m1, m2, m3, mr, mg⟩ := HM9.out
          exact Lib.hid ⟨.lost lv c9, .slice p9 c9.data.length q9, ⟨hlv3, m1, m2, m3⟩, ((((HX9.out.set 2 (.int .i64 (c9.ty : Int))).set 3 (.int .u64 (c9.a : Int))).set 4 (.int .u64 (c9.b : Int))).set 5 (.int .u64 (c9.c : Int))).set 6 (.slice p9 c9.data.length q9),
            ((((mr.set HX9.out (by decide) 2 _).set (HX9.out.set 2 _) (by decide) 3 _).set ((HX9.out.set 2 _).set 3 _) (by decide) 4 _).set (((HX9.out.set 2 _).set 3 _).set 4 _) (by decide) 5 _).set ((((HX9.out.set 2 _).set 3 _).set 4 _).set 5 _) (by decide) 6 _,
            (((((HGa.out.trans mg).setCell _ _ (.inr hsz)).setCell _ _ (.inr hsz)).setCell _ _ (.inr hsz)).setCell _ _ (.inr hsz)).setCell _ _ (.inr hsz)⟩
        · have hk8 : (xk : Int) % 8 = 6 := by omega
          clear h8
          go_wp2_with fail
          go_meet
          exact Lib.hid ⟨.has lv, .slice none 0 0, hlv3, HX.out.set 0 (.int .i64 2), NR.out _, HGa.out.setCell _ _ (.inr hsz)⟩
        · have hk8 : (xk : Int) % 8 = 7 := by omega
          clear h8
          have hcase : ¬ (xt % 4 = 0) ∨ (xt % 4 = 0 ∧ lv = 2) ∨ (xt % 4 = 0 ∧ lv ≤ 1) := by omega
          rcases hcase with h4 | ⟨h4, h5⟩ | ⟨h4, h5⟩
          · have ht4 : (((xt : Int) % 4) == 0) = false := by simp; omega
            have HH := Lib.hid h4
            clear h4
            go_wp2_with fail
            go_meet
            exact Lib.hid ⟨.has lv, .slice none 0 0, hlv3, HX.out.set 0 (.int .i64 2), NR.out _, HGa.out.setCell _ _ (.inr hsz)⟩
          · have ht4 : (xt : Int) % 4 = 0 := by omega
            clear h4
            subst h5
            go_wp2_with fail
            go_meet
            exact Lib.hid ⟨.has 2, .slice none 0 0, Nat.le_refl _, HX.out.set 0 (.int .i64 2), NR.out _, HGa.out.setCell _ _ (.inr hsz)⟩
          · have ht4 : (xt : Int) % 4 = 0 := by omega
            have hlt2 : decide (lv < 2) = true := decide_eq_true (by omega)
            clear h4
            go_wp2_with fail
            go_meet
            exact Lib.hid ⟨.drop lv, .slice none 0 0, h5, (HX.out.set 0 (.int .i64 2)).set 0 (.int .i64 3), NR.out _, (HGa.out.setCell _ _ (.inr hsz)).setCell _ _ (.inr hsz)⟩
        all_goals (
          have hk8 : (xk : Int) % 8 = ((xk % 8 : Nat) : Int) := by omega
          rw [h8] at hk8
          clear h8
          go_upto_region 7 with fail
          go_region
          go_wp2_with fail
          go_meet
          exact Lib.hid ⟨.get lv (xm % 400), .slice none 0 0, ⟨hlv3, by omega⟩, by
            have := ((HX.out.set 0 (.int .i64 1)).set 7 (.int .i64 ((xm % 400 : Nat) : Int))).drew
            rw [show ((xm : Int) % 400) = ((xm % 400 : Nat) : Int) from by omega]
            exact this, NR.out _, ((HGa.out.setCell _ _ (.inr hsz)).setCell _ _ (.inr hsz)).drew⟩)
      case rest =>
      obtain ⟨x, d, hxo, hxb, hxd, hxg⟩ := hcut.out
      obtain ⟨pb, cb, rfl, _⟩ := id hxd
      have z0 : wc.cell? ⟨wr.heap.size + 1, 0, none⟩ = some (.int .i64 (x.kind : Int)) := hxb.cellAt 0 _ rfl
      have z1 : wc.cell? ⟨wr.heap.size + 1, 1, none⟩ = some (.int .i64 (x.lev : Int)) := hxb.cellAt 1 _ rfl
      have z2 : wc.cell? ⟨wr.heap.size + 1, 2, none⟩ = some (.int .i64 (x.ty : Int)) := hxb.cellAt 2 _ rfl
      have z3 : wc.cell? ⟨wr.heap.size + 1, 3, none⟩ = some (.int .u64 (x.a : Int)) := hxb.cellAt 3 _ rfl
      have z4 : wc.cell? ⟨wr.heap.size + 1, 4, none⟩ = some (.int .u64 (x.b : Int)) := hxb.cellAt 4 _ rfl
      have z5 : wc.cell? ⟨wr.heap.size + 1, 5, none⟩ = some (.int .u64 (x.c : Int)) := hxb.cellAt 5 _ rfl
      have z6 : wc.cell? ⟨wr.heap.size + 1, 6, none⟩ = some (.slice pb x.data.length cb) := hxb.cellAt 6 _ rfl
      have z7 : wc.cell? ⟨wr.heap.size + 1, 7, none⟩ = some (.int .i64 (x.most : Int)) := hxb.cellAt 7 _ rfl
      have hltc := hxb.lt
      have HGc := Lib.hid hxg
      have HRc := Lib.hid hxd
      have HXO := Lib.hid hxo
      have HGd := Lib.hid (show Grow wc (wc.alloc (.cells (stC x (.slice pb x.data.length cb)).toArray 35)) from (Fr.refl _ _).alloc _)
      clear hxb hxd hxg hxo hcut
      go_wp2_with (at_builtin; refine wpList_append_run _ rfl _ _ 24 rfl _ _ rfl rfl (run_appendStep _ xs x (.slice pb x.data.length cb) wc.heap.size ((HI.out.1.grow HGc.out).grow HGd.out) (Blk.new wc _ _) (by have := HI.out.2.1; omega) (HRc.out.keep (Grow.bytes HGd.out))) ?_; rintro v9 w9 ⟨hS9, hF9, hfr9⟩; obtain ⟨p8, c8, rfl, _⟩ := hS9.slice; have HS9 := Lib.hid (And.intro hS9 (And.intro hF9 hfr9)); clear hS9 hF9 hfr9)
      go_roundg (gk - 1)
      case measure => omega
      case rel =>
        obtain ⟨hS9, hF9, hfr9⟩ := HS9.out
        obtain ⟨i1, i2, i3, i4, i5⟩ := HI.out
        refine ⟨i + 1, xs ++ [x], by omega, by go_num, Lib.hid ⟨?_, by simp [i2], fun y hy => ?_, Grow.trans' (i4.trans (HGc.out.trans HGd.out)) hF9 (fun k hk => i5 k hk.1), fun k hk => ?_⟩⟩
        · simpa using hS9
        · rcases List.mem_append.1 hy with e | e
          · exact i3 y e
          · rw [List.mem_singleton.1 e]; exact HXO.out
        · rcases hfr9 k (by simpa using hk) with e | e
          · exact i5 k e
          · exact Nat.le_trans (Nat.le_trans i4.size (Nat.le_trans HGc.out.size HGd.out.size)) e.1
end Go.Proofs.Ytgdkbflhgcchfaa
