/- laws.FnRQWhole, walked. -/
import Derived.Test.YtgdkbflhgcchfaaE3
import Derived.Maps.RangeWalk
namespace Go.Proofs.Ytgdkbflhgcchfaa
open Go.RowKit

theorem CntAt.new (w : World) : CntAt ((w.alloc (.map #[] 0)).alloc (.map #[] 0)) w.heap.size (w.heap.size + 1) (cntF St0) (cntG St0) := by
  refine ⟨⟨_, (MapK.new pairv w).alloc _, fun x _ b => rfl, fun x u h => by cases h⟩, ⟨fun _ => none, ?_, fun k _ => rfl, fun x u h => by cases h⟩, by omega⟩
  have := MapK.new strv (w.alloc (.map #[] 0))
  rwa [size_alloc] at this
theorem build35 (z : Int) (w : World) : (Instr.build 35 #[(0, .int .i64 1), (1, .int .i64 z), (3, .int .i64 1200)]).run Try.prog w = .ok (.agg #[.int .i64 1, .int .i64 z, .int .i64 0, .int .u64 0, .int .u64 0, .int .u64 0, .slice none 0 0, .int .i64 1200]) w := run_build w 35 _ _ (by kernel_rfl)
theorem mk_map (t : TypeId) (w : World) : (Instr.makeMap t none).run Try.prog w = .ok (.map (some w.heap.size)) (w.alloc (.map #[] 0)) := by
  simp [Instr.makeMap]
set_option maxRecDepth 100000 in
set_option maxHeartbeats 8000000 in
theorem whole_any (w : World) (v : Value) (ops : List ROp) (h : OpsAt w v ops)
    (HSt : ∀ (W : World), Grow w W → Calls Try.prog 6 #[v] W fun e w' => Grow W w' ∧ ∃ v' xs, e = .returned v' ∧ StepsAt w' v' xs ∧ xs.length ≤ 60 ∧ (∀ x ∈ xs, x.Ok) ∧ ∀ k, v'.ownBlock = some k → W.heap.size ≤ k) :
    Calls Try.prog 3 #[v] w fun e w' => e = .returned (.bool true) ∧ Grow w w' := by
  have H5 := Lib.hid (fits3 w v ops h)
  have H6 := Lib.hid HSt
  clear h HSt
  go_enter Try.func3, Try.ntmps3
  go_wp2_with fail
  refine H5.out.mono ?_
  rintro e w1 ⟨⟨bb, rfl⟩, hG1⟩
  have HG1 := Lib.hid hG1
  clear hG1
  cases bb
  · go_wp2_with fail
    go_ret
    exact ⟨rfl, HG1.out⟩
  have k1 := mk_map 25 w1
  have k2 := mk_map 26 (w1.alloc (.map #[] 0))
  go_upto_region 5 with fail
  have hC0 : CntAt (((w1.alloc (.map #[] 0)).alloc (.map #[] 0)).alloc (.cells #[.map (some w1.heap.size), .map (some (w1.heap.size + 1))] 28)) w1.heap.size (w1.heap.size + 1) (cntF St0) (cntG St0) := (CntAt.new w1).grow ((Fr.refl _ _).alloc _)
  have hB0 : Blk (((w1.alloc (.map #[] 0)).alloc (.map #[] 0)).alloc (.cells #[.map (some w1.heap.size), .map (some (w1.heap.size + 1))] 28)) (w1.heap.size + 2) #[.map (some w1.heap.size), .map (some (w1.heap.size + 1))] 28 := Blk.newAt _ _ _ _ (by simp)
  have hG0 : Grow w (((w1.alloc (.map #[] 0)).alloc (.map #[] 0)).alloc (.cells #[.map (some w1.heap.size), .map (some (w1.heap.size + 1))] 28)) := ((HG1.out.alloc _).alloc _).alloc _
  have HZ := Lib.hid (And.intro hC0 (And.intro hB0 (And.intro hG0 HG1.out.size)))
  clear k1 k2 hC0 hB0 hG0
  generalize w1.heap.size = m1 at *
  generalize (((w1.alloc (.map #[] 0)).alloc (.map #[] 0)).alloc (.cells #[.map (some m1), .map (some (m1 + 1))] 28)) = w4 at *
  go_wp2_with fail
  refine (H6.out w4 HZ.out.2.2.1).mono ?_
  rintro e w5 ⟨hG5, v0, xs, rfl, hS, hl, hok, hnew⟩
  obtain ⟨p0, c0, rfl, hlc, _⟩ := hS.slice
  have Hok := Lib.hid hok
  have HI : Hid (W1 w4 w5 (.slice p0 xs.length c0) (.slice none 0 0) xs []) := Lib.hid ⟨hG5, hS, RowAt.nil _, (fun _ e => nomatch e)⟩
  clear hG5 hS hok hnew
  go_wp2_with fail
  go_loopg [3, 29] xs.length (fun k s3 s29 wr => ∃ i : Nat, k + i = xs.length ∧ s29 = .int .i64 (i : Int) ∧ Hid (W1 w4 wr (.slice p0 xs.length c0) s3 xs ((xs.take i).filter nd)))
  case atStart => exact ⟨0, by simp, rfl, HI⟩
  case round =>
    obtain ⟨i, hk, rfl, HI⟩ := hrel
    by_cases hend : i = xs.length
    · subst hend
      have hne : ¬ (xs.length < xs.length) := by omega
      obtain ⟨ys, hys⟩ : ∃ ys, ys = xs.filter nd := ⟨_, rfl⟩
      have HY : Hid (StepsAt wr u3 ys ∧ Grow w4 wr ∧ (∀ k, u3.ownBlock = some k → w4.heap.size ≤ k) ∧ ys.length ≤ 60 ∧ ∀ x ∈ ys, x.kind ≠ 3 ∧ x.Ok) := Lib.hid (by
        have h := HI.out
        rw [List.take_of_length_le (by omega), ← hys] at h
        refine ⟨h.kept, h.grow, fun k hk => (h.new k hk).1, ?_, fun x hx => ?_⟩
        · rw [hys]; exact Nat.le_trans (List.length_filter_le _ _) hl
        · rw [hys] at hx
          obtain ⟨h1, h2⟩ := List.mem_filter.1 hx
          exact ⟨by simpa [nd] using h2, Hok.out x h1⟩)
      clear hys HI Hok
      go_wp2_with fail
      go_loopg [3, 7] 186 (fun k s3 s7 wx => ∃ j : Nat, k + j = 186 ∧ s7 = .int .i64 (j : Int) ∧ Hid (StepsAt wx s3 (ys ++ gets j) ∧ Grow w4 wx ∧ ∀ k, s3.ownBlock = some k → w4.heap.size ≤ k))
      case atStart => exact ⟨0, rfl, rfl, Lib.hid ⟨by have := HY.out.1; simpa [gets] using this, HY.out.2.1, HY.out.2.2.1⟩⟩
      case round =>
        obtain ⟨j, hkj, rfl, HJ⟩ := hrel
        by_cases hej : j = 186
        · subst hej
          obtain ⟨zs, hzs⟩ : ∃ zs, zs = ys ++ gets 186 := ⟨_, rfl⟩
          have hz1 : zs.length ≤ 246 := by
            have := HY.out.2.2.2.1
            rw [hzs, List.length_append, gets_length]; omega
          have HQ : Hid (StepsAt wr u3 zs ∧ Grow w4 wr ∧ (∀ x ∈ zs, x.kind ≠ 3 ∧ x.Ok) ∧ cntF (St0.run zs) = (fun _ _ => 0) ∧ cntG (St0.run zs) = fun _ => 0) := Lib.hid (by
            rw [hzs]
            refine ⟨HJ.out.1, HJ.out.2.1, fun x hx => ?_, all_out ys HY.out.2.2.2.1 HY.out.2.2.2.2⟩
            rcases List.mem_append.1 hx with h | h
            · exact HY.out.2.2.2.2 x h
            · exact gets_ok 186 x h)
          clear hzs HJ HY
          obtain ⟨p3, c3, rfl, _⟩ := HQ.out.1.slice
          have HI3 : Hid (W3 w4 wr (.slice p3 zs.length c3) (.slice none 0 0) zs []) := Lib.hid ⟨HQ.out.2.1, HQ.out.1, RowAt.nil _, (fun _ e => nomatch e)⟩
          clear hkj
          go_wp2_with fail
          go_loopg [8, 53] zs.length (fun k s8 s53 wx => ∃ i : Nat, k + i = zs.length ∧ s53 = .int .i64 (i : Int) ∧ Hid (W3 w4 wx (.slice p3 zs.length c3) s8 zs ((zs.take i).map qf)))
          case atStart => exact ⟨0, by simp, rfl, HI3⟩
          case round =>
            obtain ⟨i, hki, rfl, HI⟩ := hrel
            by_cases hei : i = zs.length
            · subst hei
              have hne : ¬ (zs.length < zs.length) := by omega
              have hI := HI.out
              rw [List.take_length] at hI
              obtain ⟨p8, c8, hu8, _⟩ := hI.q.slice
              rw [List.length_map] at hu8
              subst hu8
              have HI3e := Lib.hid hI
              clear hI HI
              have HP := Lib.hid (rqPlay_any wr _ zs HI3e.out.all (by omega) (fun x hx => (HQ.out.2.2.1 x hx).2))
              clear hki
              go_wp2_with fail
              refine HP.out.mono ?_
              rintro e w6 ⟨hG6, vs, rfl, hS6⟩
              obtain ⟨p9, c9, hu9, _⟩ := hS6.slice
              rw [sees_length] at hu9
              subst hu9
              have HW : Hid (W4 w6 m1 (.slice p3 zs.length c3) (.slice p8 zs.length c8) (.slice p9 zs.length c9) zs) := Lib.hid ⟨HZ.out.1.grow (HI3e.out.grow.trans hG6), HI3e.out.all.grow hG6, HI3e.out.q.grow hG6, hS6, (HI3e.out.grow.trans hG6).blk HZ.out.2.1 (fun e => e)⟩
              have HG6 := Lib.hid (HI3e.out.grow.trans hG6)
              clear hG6 hS6 HP
              go_wp2_with fail
              go_loopg [86] zs.length (fun k s86 wx => ∃ i : Nat, k + i = zs.length ∧ s86 = .int .i64 (i : Int) ∧ Hid (Fr (fun k => k = m1 ∨ k = m1 + 1) w6 wx ∧ CntAt wx m1 (m1 + 1) (cntF (St0.run (zs.take i))) (cntG (St0.run (zs.take i)))))
              case atStart => exact ⟨0, by simp, rfl, Lib.hid ⟨Fr.refl _ _, HW.out.cnt⟩⟩
              case round =>
                obtain ⟨i, hki, rfl, HI⟩ := hrel
                by_cases hei : i = zs.length
                · subst hei
                  have hne : ¬ (zs.length < zs.length) := by omega
                  have hI := HI.out
                  rw [List.take_length, HQ.out.2.2.2.1, HQ.out.2.2.2.2] at hI
                  have hbx := HW.out.cnt.blk hI.1 HW.out.box
                  have b0 : wr.cell? ⟨m1 + 1 + 1, 0, none⟩ = some (.map (some m1)) := hbx.cellAt 0 _ rfl
                  have b1 : wr.cell? ⟨m1 + 1 + 1, 1, none⟩ = some (.map (some (m1 + 1))) := hbx.cellAt 1 _ rfl
                  have hltB := hbx.lt
                  have HB := Lib.hid hbx
                  obtain ⟨qO, hO1, hO2, hO3⟩ := hI.2.o
                  obtain ⟨qC, hC1, hC2, hC3⟩ := hI.2.c
                  have HO := Lib.hid (And.intro hO1 hO3)
                  have HCC := Lib.hid (And.intro hC1 hC3)
                  have HG : Hid (Grow w wr) := Lib.hid (Grow.trans' (HZ.out.2.2.1.trans HG6.out) hI.1 (fun k hk => by have := HZ.out.2.2.2; omega))
                  clear hI hbx hO1 hO2 hO3 hC1 hC2 hC3 hki HI
                  go_wp2_with (at_range; refine wpList_rangeA rfl _ rfl Try.underlying26 rfl HO.out.1 (Z := .int .i64 0) HO.out.2 ?_; intro w8 n8 hG8 hI8)
                  go_frame
                  have HI8 : Hid (IterA w8 wr.heap.size (.int .i64 0) n8 ∧ Fr (fun j => wr.heap.size ≤ j) wr w8) := Lib.hid ⟨hI8, Grow.to hG8⟩
                  clear hG8 hI8
                  obtain ⟨R, hR⟩ : ∃ R, R = wr := ⟨_, rfl⟩
                  rw [← hR] at HI8 HG HB HO HCC
                  go_loopg [17] n8 (fun k s17 wx => Hid (IterA wx R.heap.size (.int .i64 0) k ∧ Fr (fun j => R.heap.size ≤ j) R wx))
                  case atStart => exact HI8
                  case round =>
                    have HI := hrel
                    clear hrel
                    subst hR
                    have c0 : wr.cell? ⟨m1 + 1 + 1, 0, none⟩ = some (.map (some m1)) := (World.cell?_of_block (HI.out.2.block _ hltB (fun e => by have e : R.heap.size ≤ m1 + 1 + 1 := e; omega))).trans b0
                    have hltC : m1 + 1 + 1 < wr.heap.size := Nat.lt_of_lt_of_le hltB HI.out.2.size
                    have HCR : Hid (MapK pairv wr m1 qC) := Lib.hid (HCC.out.1.same (HI.out.2.block m1 HCC.out.1.lt (fun e => by have := HCC.out.1.lt; have e : R.heap.size ≤ m1 := e; omega)))
                    have HFw : Hid (Fr (fun j => R.heap.size ≤ j) R wr) := Lib.hid HI.out.2
                    go_wp2_with (first
                      | (at_next; refine wpList_nextA rfl _ rfl rfl HI.out.1 ?_ ?_; rotate_left; intro kv w9 n9 hn9 hI9 hF9 hen9)
                      | (at_range; refine wpList_rangeA rfl _ rfl Try.underlying25 rfl HCR.out (Z := .agg (arrC fun _ => 0)) HCC.out.2 ?_; intro w10 n10 hG10 hI10))
                    · have HE : Hid (IterA w9 R.heap.size (.int .i64 0) n9 ∧ Fr (fun j => R.heap.size ≤ j) R w9) := Lib.hid ⟨hI9, HI.out.2.trans (hF9.mono (fun k _ e => by have e : k = R.heap.size := e; omega))⟩
                      go_roundg n9
                      case measure => omega
                      case rel => exact HE
                    · go_frame
                      have HI10 : Hid (IterA w10 wr.heap.size (.agg (arrC fun _ => 0)) n10 ∧ Fr (fun j => R.heap.size ≤ j) R w10) := Lib.hid ⟨hI10, HFw.out.trans (Grow.to hG10)⟩
                      have hRw : R.heap.size ≤ wr.heap.size := HFw.out.size
                      clear hG10 hI10 HI c0 hltC
                      obtain ⟨X, hX⟩ : ∃ X, X = wr := ⟨_, rfl⟩
                      obtain ⟨A0, hA0⟩ : ∃ A0, A0 = arrC fun _ => 0 := ⟨_, rfl⟩
                      rw [← hA0] at HI10
                      have hAs : A0.size = 256 := by rw [hA0]; simp
                      have hA1 : A0.all (·.oneCell') = true := by
                        rw [hA0, Array.all_eq_true]
                        intro j hj
                        simp [Value.oneCell']
                      have HA := Lib.hid (And.intro hA0 (And.intro hAs hA1))
                      clear hA0 hA1
                      rw [← hX] at HI10 hRw
                      clear HCR HFw b0 b1 hltB
                      go_loopg [19] n10 (fun k s19 wx => Hid (IterA wx X.heap.size (.agg A0) k ∧ Fr (fun j => R.heap.size ≤ j) R wx))
                      case atStart => exact HI10
                      case round =>
                        have HI := hrel
                        clear hrel
                        subst hX
                        go_wp2_with (first
                          | (at_next; refine wpList_nextA rfl _ rfl rfl HI.out.1 ?_ ?_; rotate_left; intro kv w11 n11 hn11 hI11 hF11 hen11; have s2 := store46 w11 A0 w11.heap.size rfl HA.out.2.1 HA.out.2.2; have s3 := Lib.hid ((Blk.new w11 A0 46).load46 HA.out.2.1 size46); have s4 : (Op.equalIn 10000 46 (.agg A0) (.agg Try.zeroCells46)).run Try.prog (w11.alloc (.cells A0 46)) = .ok true (w11.alloc (.cells A0 46)) := by rw [HA.out.1]; exact eq46 _)
                          | (with_reducible refine wpList_load46 _ rfl _ rfl rfl s3.out ?_)
                          | (go_at_call 11; refine (awake_any _).mono ?_; rintro e w12 ⟨rfl, hG12⟩; have HG12 := Lib.hid hG12; clear hG12))
                        · have HE : Hid (IterA (w11.alloc (.cells A0 46)) X.heap.size (.agg A0) n11 ∧ Fr (fun j => R.heap.size ≤ j) R (w11.alloc (.cells A0 46))) := Lib.hid ⟨hI11.grow ((Fr.refl _ w11).alloc _), (HI.out.2.trans (hF11.mono (fun k _ e => by have e : k = X.heap.size := e; omega))).alloc _⟩
                          go_roundg n11
                          case measure => omega
                          case rel => exact HE
                        · go_ret
                          exact ⟨rfl, (Grow.trans' HG.out HI.out.2 (fun k hk => Nat.le_trans HG.out.size hk)).trans HG12.out⟩
                · have hil : i < zs.length := by omega
                  have hxi : zs[i]? = some (zs[i]'hil) := List.getElem?_eq_getElem hil
                  have htk : zs.take (i + 1) = zs.take i ++ [zs[i]'hil] := by rw [List.take_add_one, hxi]; rfl
                  have hxo : zs[i]'hil ∈ zs := List.getElem_mem _
                  generalize zs[i]'hil = x at hxi htk hxo
                  obtain ⟨hxk, hxok⟩ := HQ.out.2.2.1 x hxo
                  obtain ⟨st, hst⟩ : ∃ st, st = St0.run (zs.take i) := ⟨_, rfl⟩
                  have hst' : St0.run (zs.take (i + 1)) = (st.step x).2 := by rw [htk, run_snoc, ← hst]
                  have hsee := sees_at zs i x hxi
                  have hmem : ∀ y ∈ zs.take i, y.kind ≠ 3 ∧ y.Ok := fun y hy => HQ.out.2.2.1 y (List.mem_of_mem_take hy)
                  have hlive : Live st := by rw [hst]; exact run_live _ _ St0_live hmem
                  have hsok : SOk3 300 st := by
                    have h1 := run_ok (zs.take i) 0 St0 St0_ok (fun y hy => (hmem y hy).2)
                    rw [← hst] at h1
                    exact fun n L hn e => (h1 n L hn e).mono (by rw [List.length_take]; omega)
                  have hF0 := HI.out.1
                  have hC0 := HI.out.2
                  rw [← hst] at hC0 hsee
                  have hrs := HW.out.cnt.row hF0 HW.out.steps
                  have hrq := HW.out.cnt.row hF0 HW.out.q
                  have hry := HW.out.cnt.row hF0 HW.out.seen
                  have hbx := HW.out.cnt.blk hF0 HW.out.box
                  obtain ⟨bs, o, cs, d, hv, _, _, hd, hcell, cur, hcur⟩ := RowAt.get (cs := stC) (size := 8) (fun _ _ => rfl) hrs hxi
                  injection hv with hv1 hv2 hv3
                  subst hv1
                  clear hv2 hv3
                  have e0 : wr.cell? ⟨bs, o + i * 8, none⟩ = some (.int .i64 (x.kind : Int)) := hcell 0 _ rfl
                  have e1 : wr.cell? ⟨bs, o + i * 8 + 1, none⟩ = some (.int .i64 (x.lev : Int)) := hcell 1 _ rfl
                  have e2 : wr.cell? ⟨bs, o + i * 8 + 2, none⟩ = some (.int .i64 (x.ty : Int)) := hcell 2 _ rfl
                  have e3 : wr.cell? ⟨bs, o + i * 8 + 3, none⟩ = some (.int .u64 (x.a : Int)) := hcell 3 _ rfl
                  have e4 : wr.cell? ⟨bs, o + i * 8 + 4, none⟩ = some (.int .u64 (x.b : Int)) := hcell 4 _ rfl
                  have e5 : wr.cell? ⟨bs, o + i * 8 + 5, none⟩ = some (.int .u64 (x.c : Int)) := hcell 5 _ rfl
                  have e6 : wr.cell? ⟨bs, o + i * 8 + 6, none⟩ = some d := hcell 6 _ rfl
                  have e7 : wr.cell? ⟨bs, o + i * 8 + 7, none⟩ = some (.int .i64 (x.most : Int)) := hcell 7 _ rfl
                  have hbl : bs < wr.heap.size := (Array.getElem?_eq_some_iff.1 hcur).1
                  obtain ⟨pd, cd, rfl, _⟩ := id hd
                  have HR := Lib.hid (And.intro hrq (And.intro hry (And.intro hbx (And.intro hF0 hC0))))
                  have HP := Lib.hid (And.intro hxi (And.intro hst' (And.intro hsee (And.intro hlive hsok))))
                  clear hcell hcur cur hxi hd hxo hei htk hst hst' hsee hmem hlive hsok hF0 hC0 hrs hrq hry hbx
                  go_upto_region 30 with fail
                  have hX : Blk (wr.alloc (.cells (stC x (.slice pd x.data.length cd)).toArray 35)) wr.heap.size (stC x (.slice pd x.data.length cd)).toArray 35 := Blk.new wr _ _
                  have HGa : Hid (Grow wr (wr.alloc (.cells (stC x (.slice pd x.data.length cd)).toArray 35))) := Lib.hid ((Fr.refl _ _).alloc _)
                  have hfold : #[Value.int .i64 (x.kind : Int), .int .i64 (x.lev : Int), .int .i64 (x.ty : Int), .int .u64 (x.a : Int), .int .u64 (x.b : Int), .int .u64 (x.c : Int), .slice pd x.data.length cd, .int .i64 (x.most : Int)] = (stC x (.slice pd x.data.length cd)).toArray := rfl
                  rw [hfold]
                  clear hfold
                  generalize (wr.alloc (.cells (stC x (.slice pd x.data.length cd)).toArray 35)) = wa at *
                  have hltX := hX.lt
                  have HX := Lib.hid hX
                  clear e0 e1 e2 e3 e4 e5 e6 e7 hbl hX
                  obtain ⟨hxi, hst', hsee, hlive, hsok⟩ := HP.out
                  obtain ⟨hrq, hry, hbx, hF0, hC0⟩ := HR.out
                  have b0 : wa.cell? ⟨m1 + 1 + 1, 0, none⟩ = some (.map (some m1)) := (HGa.out.blk hbx (fun e => e)).cellAt 0 _ rfl
                  have b1 : wa.cell? ⟨m1 + 1 + 1, 1, none⟩ = some (.map (some (m1 + 1))) := (HGa.out.blk hbx (fun e => e)).cellAt 1 _ rfl
                  have hltB : m1 + 1 + 1 < wa.heap.size := (HGa.out.blk hbx (fun e => e)).lt
                  have hCa : CntAt wa m1 (m1 + 1) (cntF st) (cntG st) := hC0.grow HGa.out
                  have hFa : Fr (fun k => k = m1 ∨ k = m1 + 1) w6 wa := hF0.trans (Grow.to HGa.out)
                  have hbnd := cnt_bound hsok
                  have hsok' : SOk3 301 (st.step x).2 := step_ok hsok hxok
                  cases x with
                  | drop n => exact absurd rfl hxk
                  | lost n c =>
                    obtain ⟨hn, ha, hb, hd⟩ := hxok
                    obtain ⟨bq, oq, cq, dq, hvq, _, _, hdq, hcq, curq, hcurq⟩ := RowAt.get (cs := cQ) (size := 1) (fun _ _ => rfl) hrq (i := i) (x := c.enc) (by rw [List.getElem?_map, hxi]; rfl)
                    injection hvq with hv1 hv2 hv3
                    subst hv1
                    clear hv2 hv3
                    have hqa : wa.cell? ⟨bq, oq + i, none⟩ = some dq := by
                      have := hcq 0 _ rfl
                      rw [Nat.mul_one] at this
                      exact (Grow.cell HGa.out (Array.getElem?_eq_some_iff.1 hcurq).1).trans this
                    have hlq : bq < wa.heap.size := Nat.lt_of_lt_of_le (Array.getElem?_eq_some_iff.1 hcurq).1 HGa.out.size
                    have hda : Rd wa dq c.enc := hdq.keep (Grow.bytes HGa.out)
                    obtain ⟨pq, cq2, rfl, _⟩ := id hda
                    obtain ⟨hl1, hl2, hl3⟩ := cnt_lost hlive n hn c
                    have x0 : wa.cell? ⟨wr.heap.size, 0, none⟩ = some (.int .i64 0) := HX.out.cellAt 0 _ rfl
                    have x1 : wa.cell? ⟨wr.heap.size, 1, none⟩ = some (.int .i64 (n : Int)) := HX.out.cellAt 1 _ rfl
                    have hcell : ∀ (W w7 : World), Grow wa W → Fr (fun k => k = m1 ∨ k = m1 + 1) W w7 → ∀ b j v, b < wa.heap.size → (∃ cur T f, wa.heap[b]? = some (Obj.cells cur T f)) → wa.cell? ⟨b, j, none⟩ = some v → w7.cell? ⟨b, j, none⟩ = some v := fun W w7 hG hF b j v hb ⟨cur, T, f, hc⟩ hv => by
                      have hk := (hCa.grow hG).keeps hF b cur T f ((hG.block b hb (fun e => e)).trans hc)
                      exact (World.cell?_of_block (w := W) (w' := w7) (a := ⟨b, j, none⟩) hk).trans ((Grow.cell hG hb).trans hv)
                    have hS : ∀ (W w7 : World), Grow wa W → Fr (fun k => k = m1 ∨ k = m1 + 1) W w7 → (w7.cell? ⟨wr.heap.size, 0, none⟩ = some (.int .i64 0) ∧ w7.cell? ⟨wr.heap.size, 1, none⟩ = some (.int .i64 (n : Int)) ∧ w7.cell? ⟨m1 + 1 + 1, 0, none⟩ = some (.map (some m1)) ∧ w7.cell? ⟨m1 + 1 + 1, 1, none⟩ = some (.map (some (m1 + 1))) ∧ w7.cell? ⟨bq, oq + i, none⟩ = some (.slice pq c.enc.length cq2)) := fun W w7 hG hF =>
                      ⟨hcell W w7 hG hF _ _ _ hltX ⟨_, _, _, HX.out⟩ x0, hcell W w7 hG hF _ _ _ hltX ⟨_, _, _, HX.out⟩ x1, hcell W w7 hG hF _ _ _ hltB ⟨_, _, _, HGa.out.blk hbx (fun e => e)⟩ b0, hcell W w7 hG hF _ _ _ hltB ⟨_, _, _, HGa.out.blk hbx (fun e => e)⟩ b1,
                        hcell W w7 hG hF _ _ _ hlq ⟨_, _, _, (HGa.out.block bq (Array.getElem?_eq_some_iff.1 hcurq).1 (fun e => e)).trans hcurq⟩ hqa⟩
                    have HS : Hid (∀ W, Grow wa W → (W.cell? ⟨wr.heap.size, 0, none⟩ = some (.int .i64 0) ∧ W.cell? ⟨wr.heap.size, 1, none⟩ = some (.int .i64 (n : Int)) ∧ W.cell? ⟨m1 + 1 + 1, 0, none⟩ = some (.map (some m1)) ∧ W.cell? ⟨m1 + 1 + 1, 1, none⟩ = some (.map (some (m1 + 1))) ∧ W.cell? ⟨bq, oq + i, none⟩ = some (.slice pq c.enc.length cq2))) := Lib.hid fun W hG => hS W W hG (Fr.refl _ _)
                    have HCa : Hid (∀ W, Grow wa W → Calls Try.prog 10 #[.agg #[.map (some m1), .map (some (m1 + 1))], .int .i64 (n : Int), .slice pq c.enc.length cq2, .int .i64 1] W fun e w7 => e = .returned (.bool true) ∧ Hid (Fr (fun k => k = m1 ∨ k = m1 + 1) w6 w7 ∧ CntAt w7 m1 (m1 + 1) (cntF (St0.run (zs.take (i + 1)))) (cntG (St0.run (zs.take (i + 1))))) ∧ Hid (w7.cell? ⟨wr.heap.size, 0, none⟩ = some (.int .i64 0) ∧ w7.cell? ⟨wr.heap.size, 1, none⟩ = some (.int .i64 (n : Int)) ∧ w7.cell? ⟨m1 + 1 + 1, 0, none⟩ = some (.map (some m1)) ∧ w7.cell? ⟨m1 + 1 + 1, 1, none⟩ = some (.map (some (m1 + 1))) ∧ w7.cell? ⟨bq, oq + i, none⟩ = some (.slice pq c.enc.length cq2)) ∧ wa.heap.size ≤ w7.heap.size) := Lib.hid fun W hG => by
                      have hst2 : St0.run (zs.take (i + 1)) = st.lost n c := hst'
                      have hb2 : (∀ x b, 0 ≤ cntF (st.lost n c) x b) ∧ ∀ k, 0 ≤ cntG (st.lost n c) k := by
                        refine ⟨fun x b => ?_, fun k => ?_⟩
                        · rw [hl2]
                          have h1 := (hbnd.1 x b).1
                          have h2 : 0 ≤ ctF n c x b := by cases c <;> first | exact (crC_bound n x b _ _).1 | exact Int.le_refl _
                          omega
                        · rw [hl3]
                          have h1 := (hbnd.2 k).1
                          have h2 := (ctG_bound n c k).1
                          omega
                      refine (count_ct W m1 (m1 + 1) (cntF st) (cntF (st.lost n c)) (cntG st) (cntG (st.lost n c)) (hCa.grow hG) n c hn ⟨by omega, by omega, by omega⟩ _ (hda.keep (Grow.bytes hG)) 1 (.inl rfl) (fun x b => by rw [hl2]; omega) (fun k => by rw [hl3]; omega) hbnd.1 hbnd.2 hb2.1 hb2.2).mono ?_
                      rintro e w7 ⟨rfl, h1, h2⟩
                      exact ⟨rfl, Lib.hid ⟨(hFa.trans (Grow.to hG)).trans h2, by rw [hst2]; exact h1⟩, Lib.hid (hS W w7 hG h2), Nat.le_trans hG.size h2.size⟩
                    clear hxi hst' hsee hlive hsok hrq hry hbx hF0 hC0 hCa hFa hbnd hsok' hcq hcurq hdq hda hl1 hl2 hl3 hcell hS b0 b1 hqa x0 x1
                    go_region_held3 (fun w' => w'.cell? ⟨wr.heap.size, 0, none⟩ = some (.int .i64 0) ∧ w'.cell? ⟨wr.heap.size, 1, none⟩ = some (.int .i64 (n : Int)) ∧ w'.cell? ⟨m1 + 1 + 1, 0, none⟩ = some (.map (some m1)) ∧ w'.cell? ⟨m1 + 1 + 1, 1, none⟩ = some (.map (some (m1 + 1))) ∧ w'.cell? ⟨bq, oq + i, none⟩ = some (.slice pq c.enc.length cq2))
                      (first | exact HS7.out | exact HS.out _ (by repeat (first | exact Fr.refl _ _ | assumption | apply Fr.drew | apply Fr.alloc | refine Fr.trans ?_ (by assumption))))
                      (first | (go_at_call 10; refine (HCa.out _ (by repeat (first | exact Fr.refl _ _ | assumption | apply Fr.drew | apply Fr.alloc | refine Fr.trans ?_ (by assumption)))).mono ?_; rintro e w7 ⟨rfl, HE, HS7, hsz7⟩))
                    obtain ⟨y0, y1, _, _, _⟩ := HS7.out
                    have hlt7 : wr.heap.size < w7.heap.size := Nat.lt_of_lt_of_le hltX hsz7
                    go_upto_region 32 with fail
                    go_region
                    go_wp2_with fail
                    go_roundg (gk - 1)
                    case measure => omega
                    case rel => exact ⟨i + 1, by omega, by go_num, Lib.hid ⟨HE.out.1.drew, HE.out.2.grow (Fr.refl _ w7).drew⟩⟩
                  | get n M =>
                    obtain ⟨hn, hM⟩ := hxok
                    have x0 : wa.cell? ⟨wr.heap.size, 0, none⟩ = some (.int .i64 1) := HX.out.cellAt 0 _ rfl
                    have x1 : wa.cell? ⟨wr.heap.size, 1, none⟩ = some (.int .i64 (n : Int)) := HX.out.cellAt 1 _ rfl
                    have x7 : wa.cell? ⟨wr.heap.size, 3 + 4, none⟩ = some (.int .i64 (M : Int)) := HX.out.cellAt 7 _ rfl
                    obtain ⟨hlv, hcs⟩ := cnt_get hlive hsok n M hn
                    have hst2 : St0.run (zs.take (i + 1)) = (st.get n M).2 := hst'
                    have hsee2 : (sees St0 zs)[i]? = some (match (st.get n M).1 with | none => ⟨false, false, []⟩ | some c => ⟨true, false, c.enc⟩) := hsee
                    clear hst' hsee
                    have getrow : ∀ y : Sn, (sees St0 zs)[i]? = some y → ∃ b9 o9 d9, p9 = some ⟨b9, o9, none⟩ ∧ wa.cell? ⟨b9, o9 + i * 3, none⟩ = some (.bool y.is) ∧ wa.cell? ⟨b9, o9 + i * 3 + 2, none⟩ = some d9 ∧ Rd wa d9 y.frame ∧ b9 < wa.heap.size ∧ ∃ cur T f, wa.heap[b9]? = some (Obj.cells cur T f) := fun y hy => by
                      obtain ⟨b9, o9, cc9, d9, hv9, _, _, hd9, hcl9, cur9, hcur9⟩ := RowAt.get (cs := snC) (size := 3) (fun _ _ => rfl) hry hy
                      injection hv9 with hv1 hv2 hv3
                      have hb9 := (Array.getElem?_eq_some_iff.1 hcur9).1
                      exact ⟨b9, o9, d9, hv1, (Grow.cell HGa.out hb9).trans (hcl9 0 _ rfl), (Grow.cell HGa.out hb9).trans (hcl9 2 _ rfl), hd9.keep (Grow.bytes HGa.out), Nat.lt_of_lt_of_le hb9 HGa.out.size, _, _, _, (HGa.out.block b9 hb9 (fun e => e)).trans hcur9⟩
                    rcases hcs with ⟨hnone, hcF, hcG⟩ | ⟨c, hsome, hfit, hcF, hcG⟩
                    · rw [hnone] at hsee2
                      obtain ⟨b9, o9, d9, rfl, z0, z2, _, hlt9, _⟩ := getrow _ hsee2
                      have z0 : wa.cell? ⟨b9, o9 + i * 3, none⟩ = some (.bool false) := z0
                      have HE : Hid (Fr (fun k => k = m1 ∨ k = m1 + 1) w6 wa ∧ CntAt wa m1 (m1 + 1) (cntF (St0.run (zs.take (i + 1)))) (cntG (St0.run (zs.take (i + 1))))) := Lib.hid ⟨hFa, by rw [hst2, hcF, hcG]; exact hCa⟩
                      clear hxi hsee2 getrow hnone hcF hcG hlive hsok hrq hry hbx hF0 hC0 hCa hFa hbnd hsok' b0 b1 hst2 z2
                      go_region
                      go_upto_region 32 with fail
                      go_region
                      go_wp2_with fail
                      go_roundg (gk - 1)
                      case measure => omega
                      case rel => exact ⟨i + 1, by omega, by go_num, Lib.hid ⟨HE.out.1.drew.drew, HE.out.2.grow (Fr.refl _ wa).drew.drew⟩⟩
                    · rw [hsome] at hsee2
                      obtain ⟨b9, o9, d9, rfl, z0, z2, hd9, hlt9, hblk9⟩ := getrow _ hsee2
                      have z0 : wa.cell? ⟨b9, o9 + i * 3, none⟩ = some (.bool true) := z0
                      have hd9 : Rd wa d9 c.enc := hd9
                      obtain ⟨p7, c7, rfl, _⟩ := id hd9
                      have x7 : wa.cell? ⟨wr.heap.size, 7, none⟩ = some (.int .i64 (M : Int)) := x7
                      have hcok : c.Ok := (get_ok hsok n M hn).2 c hsome
                      have hsn : SOk3 300 (st.get n M).2 := (get_ok hsok n M hn).1
                      have hbn := cnt_bound hsn
                      have hcell : ∀ (W w7 : World), Grow wa W → Fr (fun k => k = m1 ∨ k = m1 + 1) W w7 → ∀ b j v, b < wa.heap.size → (∃ cur T f, wa.heap[b]? = some (Obj.cells cur T f)) → wa.cell? ⟨b, j, none⟩ = some v → w7.cell? ⟨b, j, none⟩ = some v := fun W w7 hG hF b j v hb ⟨cur, T, f, hc⟩ hv => by
                        have hk := (hCa.grow hG).keeps hF b cur T f ((hG.block b hb (fun e => e)).trans hc)
                        exact (World.cell?_of_block (w := W) (w' := w7) (a := ⟨b, j, none⟩) hk).trans ((Grow.cell hG hb).trans hv)
                      have hS : ∀ (W w7 : World), Grow wa W → Fr (fun k => k = m1 ∨ k = m1 + 1) W w7 → (w7.cell? ⟨wr.heap.size, 0, none⟩ = some (.int .i64 1) ∧ w7.cell? ⟨wr.heap.size, 1, none⟩ = some (.int .i64 (n : Int)) ∧ w7.cell? ⟨wr.heap.size, 7, none⟩ = some (.int .i64 (M : Int)) ∧ w7.cell? ⟨m1 + 1 + 1, 0, none⟩ = some (.map (some m1)) ∧ w7.cell? ⟨m1 + 1 + 1, 1, none⟩ = some (.map (some (m1 + 1))) ∧ w7.cell? ⟨b9, o9 + i * 3, none⟩ = some (.bool true) ∧ w7.cell? ⟨b9, o9 + i * 3 + 2, none⟩ = some (.slice p7 c.enc.length c7)) := fun W w7 hG hF =>
                        ⟨hcell W w7 hG hF _ _ _ hltX ⟨_, _, _, HX.out⟩ x0, hcell W w7 hG hF _ _ _ hltX ⟨_, _, _, HX.out⟩ x1, hcell W w7 hG hF _ _ _ hltX ⟨_, _, _, HX.out⟩ x7, hcell W w7 hG hF _ _ _ hltB ⟨_, _, _, HGa.out.blk hbx (fun e => e)⟩ b0, hcell W w7 hG hF _ _ _ hltB ⟨_, _, _, HGa.out.blk hbx (fun e => e)⟩ b1,
                          hcell W w7 hG hF _ _ _ hlt9 hblk9 z0, hcell W w7 hG hF _ _ _ hlt9 hblk9 z2⟩
                      have HS : Hid (∀ W, Grow wa W → (W.cell? ⟨wr.heap.size, 0, none⟩ = some (.int .i64 1) ∧ W.cell? ⟨wr.heap.size, 1, none⟩ = some (.int .i64 (n : Int)) ∧ W.cell? ⟨wr.heap.size, 7, none⟩ = some (.int .i64 (M : Int)) ∧ W.cell? ⟨m1 + 1 + 1, 0, none⟩ = some (.map (some m1)) ∧ W.cell? ⟨m1 + 1 + 1, 1, none⟩ = some (.map (some (m1 + 1))) ∧ W.cell? ⟨b9, o9 + i * 3, none⟩ = some (.bool true) ∧ W.cell? ⟨b9, o9 + i * 3 + 2, none⟩ = some (.slice p7 c.enc.length c7))) := Lib.hid fun W hG => hS W W hG (Fr.refl _ _)
                      have HCa : Hid (∀ W, Grow wa W → Calls Try.prog 10 #[.agg #[.map (some m1), .map (some (m1 + 1))], .int .i64 (n : Int), .slice p7 c.enc.length c7, .int .i64 (-1)] W fun e w7 => e = .returned (.bool true) ∧ Hid (Fr (fun k => k = m1 ∨ k = m1 + 1) w6 w7 ∧ CntAt w7 m1 (m1 + 1) (cntF (St0.run (zs.take (i + 1)))) (cntG (St0.run (zs.take (i + 1))))) ∧ Hid (w7.cell? ⟨wr.heap.size, 0, none⟩ = some (.int .i64 1) ∧ w7.cell? ⟨wr.heap.size, 1, none⟩ = some (.int .i64 (n : Int)) ∧ w7.cell? ⟨wr.heap.size, 7, none⟩ = some (.int .i64 (M : Int)) ∧ w7.cell? ⟨m1 + 1 + 1, 0, none⟩ = some (.map (some m1)) ∧ w7.cell? ⟨m1 + 1 + 1, 1, none⟩ = some (.map (some (m1 + 1))) ∧ w7.cell? ⟨b9, o9 + i * 3, none⟩ = some (.bool true) ∧ w7.cell? ⟨b9, o9 + i * 3 + 2, none⟩ = some (.slice p7 c.enc.length c7)) ∧ wa.heap.size ≤ w7.heap.size) := Lib.hid fun W hG => by
                        refine (count_ct W m1 (m1 + 1) (cntF st) (cntF (st.get n M).2) (cntG st) (cntG (st.get n M).2) (hCa.grow hG) n c hn hcok _ (hd9.keep (Grow.bytes hG)) (-1) (.inr rfl) (fun x b => by rw [hcF]; omega) (fun k => by rw [hcG]; omega) hbnd.1 hbnd.2 (fun x b => (hbn.1 x b).1) (fun k => (hbn.2 k).1)).mono ?_
                        rintro e w7 ⟨rfl, h1, h2⟩
                        exact ⟨rfl, Lib.hid ⟨(hFa.trans (Grow.to hG)).trans h2, by rw [hst2]; exact h1⟩, Lib.hid (hS W w7 hG h2), Nat.le_trans hG.size h2.size⟩
                      have hgt : decide (M < c.enc.length) = false := decide_eq_false (by omega)
                      have hgt2 : ¬ (M < c.enc.length) := by omega
                      clear hxi hsee2 getrow hsome hcF hcG hlive hsok hrq hry hbx hF0 hC0 hCa hFa hbnd hsok' b0 b1 hst2 hcell hS hd9 hsn hbn hcok z0 z2 x1 x7 hblk9 hfit hlv
                      go_region
                      clear x0
                      go_upto_region 32 with fail
                      go_region_held3 (fun w' => (w'.cell? ⟨wr.heap.size, 0, none⟩ = some (.int .i64 1) ∧ w'.cell? ⟨wr.heap.size, 1, none⟩ = some (.int .i64 (n : Int)) ∧ w'.cell? ⟨wr.heap.size, 7, none⟩ = some (.int .i64 (M : Int)) ∧ w'.cell? ⟨m1 + 1 + 1, 0, none⟩ = some (.map (some m1)) ∧ w'.cell? ⟨m1 + 1 + 1, 1, none⟩ = some (.map (some (m1 + 1))) ∧ w'.cell? ⟨b9, o9 + i * 3, none⟩ = some (.bool true) ∧ w'.cell? ⟨b9, o9 + i * 3 + 2, none⟩ = some (.slice p7 c.enc.length c7)))
                        (first | exact HS7.out | exact HS.out _ (by repeat (first | exact Fr.refl _ _ | assumption | apply Fr.drew | apply Fr.alloc | refine Fr.trans ?_ (by assumption))))
                        (first | (go_at_call 10; refine (HCa.out _ (by repeat (first | exact Fr.refl _ _ | assumption | apply Fr.drew | apply Fr.alloc | refine Fr.trans ?_ (by assumption)))).mono ?_; rintro e w7 ⟨rfl, HE, HS7, hsz7⟩))
                      go_wp2_with fail
                      go_roundg (gk - 1)
                      case measure => omega
                      case rel => exact ⟨i + 1, by omega, by go_num, HE⟩
                  | has n =>
                    have x0 : wa.cell? ⟨wr.heap.size, 0, none⟩ = some (.int .i64 2) := HX.out.cellAt 0 _ rfl
                    have hst2 : St0.run (zs.take (i + 1)) = st := hst'
                    have HE : Hid (Fr (fun k => k = m1 ∨ k = m1 + 1) w6 wa ∧ CntAt wa m1 (m1 + 1) (cntF (St0.run (zs.take (i + 1)))) (cntG (St0.run (zs.take (i + 1))))) := Lib.hid ⟨hFa, by rw [hst2]; exact hCa⟩
                    clear hxi hst' hsee hlive hsok hrq hry hbx hF0 hC0 hCa hFa hbnd hsok' b0 b1 hst2
                    go_region
                    go_upto_region 32 with fail
                    go_region
                    go_wp2_with fail
                    go_roundg (gk - 1)
                    case measure => omega
                    case rel => exact ⟨i + 1, by omega, by go_num, Lib.hid ⟨HE.out.1.drew.drew, HE.out.2.grow (Fr.refl _ wa).drew.drew⟩⟩
            · have hil : i < zs.length := by omega
              have hxi : zs[i]? = some (zs[i]'hil) := List.getElem?_eq_getElem hil
              have htk : (zs.take (i + 1)).map qf = (zs.take i).map qf ++ [qf (zs[i]'hil)] := by rw [List.take_add_one, hxi, List.map_append]; rfl
              have hxo : zs[i]'hil ∈ zs := List.getElem_mem _
              generalize zs[i]'hil = x at hxi htk hxo
              have hxok := (HQ.out.2.2.1 x hxo).2
              obtain ⟨bs, o, cs, d, hv, _, _, hd, hcell, cur, hcur⟩ := RowAt.get (cs := stC) (size := 8) (fun _ _ => rfl) HI.out.all hxi
              injection hv with hv1 hv2 hv3
              subst hv1
              clear hv2 hv3
              have e0 : wr.cell? ⟨bs, o + i * 8, none⟩ = some (.int .i64 (x.kind : Int)) := hcell 0 _ rfl
              have e1 : wr.cell? ⟨bs, o + i * 8 + 1, none⟩ = some (.int .i64 (x.lev : Int)) := hcell 1 _ rfl
              have e2 : wr.cell? ⟨bs, o + i * 8 + 2, none⟩ = some (.int .i64 (x.ty : Int)) := hcell 2 _ rfl
              have e3 : wr.cell? ⟨bs, o + i * 8 + 3, none⟩ = some (.int .u64 (x.a : Int)) := hcell 3 _ rfl
              have e4 : wr.cell? ⟨bs, o + i * 8 + 4, none⟩ = some (.int .u64 (x.b : Int)) := hcell 4 _ rfl
              have e5 : wr.cell? ⟨bs, o + i * 8 + 5, none⟩ = some (.int .u64 (x.c : Int)) := hcell 5 _ rfl
              have e6 : wr.cell? ⟨bs, o + i * 8 + 6, none⟩ = some d := hcell 6 _ rfl
              have e7 : wr.cell? ⟨bs, o + i * 8 + 7, none⟩ = some (.int .i64 (x.most : Int)) := hcell 7 _ rfl
              have hbl : bs < wr.heap.size := (Array.getElem?_eq_some_iff.1 hcur).1
              obtain ⟨pd, cd, rfl, _⟩ := id hd
              have Hd := Lib.hid hd
              have hyl : ((zs.take i).map qf).length ≤ 1000000 := by
                rw [List.length_map, List.length_take]
                omega
              clear hcell hcur cur hxi hd hxo hei
              go_upto_region 19 with fail
              have hX : Blk (wr.alloc (.cells (stC x (.slice pd x.data.length cd)).toArray 35)) wr.heap.size (stC x (.slice pd x.data.length cd)).toArray 35 := Blk.new wr _ _
              have HGa : Hid (Grow wr (wr.alloc (.cells (stC x (.slice pd x.data.length cd)).toArray 35))) := Lib.hid ((Fr.refl _ _).alloc _)
              have hfold : #[Value.int .i64 (x.kind : Int), .int .i64 (x.lev : Int), .int .i64 (x.ty : Int), .int .u64 (x.a : Int), .int .u64 (x.b : Int), .int .u64 (x.c : Int), .slice pd x.data.length cd, .int .i64 (x.most : Int)] = (stC x (.slice pd x.data.length cd)).toArray := rfl
              rw [hfold]
              clear hfold
              generalize (wr.alloc (.cells (stC x (.slice pd x.data.length cd)).toArray 35)) = wa at *
              have x2 : wa.cell? ⟨wr.heap.size, 2, none⟩ = some (.int .i64 (x.ty : Int)) := hX.cellAt 2 _ rfl
              have x3 : wa.cell? ⟨wr.heap.size, 3, none⟩ = some (.int .u64 (x.a : Int)) := hX.cellAt 3 _ rfl
              have x4 : wa.cell? ⟨wr.heap.size, 4, none⟩ = some (.int .u64 (x.b : Int)) := hX.cellAt 4 _ rfl
              have x5 : wa.cell? ⟨wr.heap.size, 5, none⟩ = some (.int .u64 (x.c : Int)) := hX.cellAt 5 _ rfl
              have x6 : wa.cell? ⟨wr.heap.size, 6, none⟩ = some (.slice pd x.data.length cd) := hX.cellAt 6 _ rfl
              have hltX := hX.lt
              have HX := Lib.hid hX
              have HI4 := Lib.hid (HI.out.growTo HGa.out)
              have HR4 := Lib.hid (Hd.out.keep (Grow.bytes HGa.out))
              have HO := Lib.hid (other_of wa x hxok (.slice pd x.data.length cd) HR4.out)
              clear e0 e1 e2 e3 e4 e5 e6 e7 hbl hX
              go_wp2_with fail
              refine HO.out.mono ?_
              rintro e w5 ⟨v5, l5, rfl, hB5, hq5⟩
              have hX5 := hB5.2.1.blk HX.out (fun e => e)
              have x2 : w5.cell? ⟨wr.heap.size, 2, none⟩ = some (.int .i64 (x.ty : Int)) := hX5.cellAt 2 _ rfl
              have x3 : w5.cell? ⟨wr.heap.size, 3, none⟩ = some (.int .u64 (x.a : Int)) := hX5.cellAt 3 _ rfl
              have x6 : w5.cell? ⟨wr.heap.size, 6, none⟩ = some (.slice pd x.data.length cd) := hX5.cellAt 6 _ rfl
              have hltX5 := hX5.lt
              obtain ⟨p5, c5, rfl, _⟩ := id hB5.1.rd
              have HI5 := Lib.hid (HI4.out.growTo hB5.2.1)
              have HB5 := Lib.hid (And.intro hB5 hq5)
              have HR5 := Lib.hid (HR4.out.keep (Grow.bytes hB5.2.1))
              clear hB5 hq5 hX5 HO
              by_cases h6 : x.ty = 6
              · have hk6 : ((x.ty : Int) == 6) = true := by simp; omega
                obtain ⟨ha, hC⟩ := crypto_of w5 x hxok h6 (.slice pd x.data.length cd) HR5.out
                have HC := Lib.hid hC
                clear hC
                clear h6
                go_wp2_with fail
                refine HC.out.mono ?_
                rintro e w6 ⟨v6, rfl, hB6⟩
                obtain ⟨p6, c6, rfl, _⟩ := id hB6.1.rd
                have HI6 := Lib.hid ((HI5.out.growTo hB6.2.1).growTo ((Fr.refl _ w6).alloc (.cells #[.slice p6 (qf x).length c6] 31)))
                have HR6 : Hid (Rd (w6.alloc (.cells #[.slice p6 (qf x).length c6] 31)) (.slice p6 (qf x).length c6) (qf x)) := Lib.hid (hB6.1.rd.keep (Grow.bytes ((Fr.refl _ w6).alloc _)))
                clear hB6
                go_wp2_with (at_builtin; refine wpList_append_run _ rfl _ _ 36 rfl _ _ rfl rfl (run_appendQ u8 _ (qf x) (.slice p6 (qf x).length c6) w6.heap.size HI6.out.q (Blk.new w6 _ _) hyl HR6.out) ?_; rintro v9 w9 ⟨g1, g2, g3⟩; have HE := Lib.hid (HI6.out.app g1 g2 g3); clear g1 g2 g3)
                go_roundg (gk - 1)
                case measure => omega
                case rel => exact ⟨i + 1, by omega, by go_num, by rw [htk]; exact HE⟩
              · have hk6 : ((x.ty : Int) == 6) = false := by simp; omega
                have HI6 := Lib.hid (HI5.out.growTo ((Fr.refl _ w5).alloc (.cells #[.slice p5 l5.length c5] 31)))
                have HR6 : Hid (Rd (w5.alloc (.cells #[.slice p5 l5.length c5] 31)) (.slice p5 l5.length c5) (qf x)) := Lib.hid (by rw [← HB5.out.2 h6]; exact HB5.out.1.1.rd.keep (Grow.bytes ((Fr.refl _ w5).alloc _)))
                clear h6
                go_wp2_with (at_builtin; refine wpList_append_run _ rfl _ _ 36 rfl _ _ rfl rfl (run_appendQ u8 _ (qf x) (.slice p5 l5.length c5) w5.heap.size HI6.out.q (Blk.new w5 _ _) hyl HR6.out) ?_; rintro v9 w9 ⟨g1, g2, g3⟩; have HE := Lib.hid (HI6.out.app g1 g2 g3); clear g1 g2 g3)
                go_roundg (gk - 1)
                case measure => omega
                case rel => exact ⟨i + 1, by omega, by go_num, by rw [htk]; exact HE⟩
        · have hj : j < 186 := by omega
          have HA : Hid (StepsAt (wr.alloc (.cells (stC (Sp.get (j % 3) 1200) (.slice none 0 0)).toArray 35)) u3 (ys ++ gets j)) := Lib.hid (HJ.out.1.grow ((Fr.refl _ wr).alloc _))
          have hyl : (ys ++ gets j).length ≤ 1000000 := by
            have := HY.out.2.2.2.1
            rw [List.length_append, gets_length]; omega
          have HU : Hid (∀ v9 w9, StepsAt w9 v9 (ys ++ gets j ++ [Sp.get (j % 3) 1200]) → Fr (fun k => u3.ownBlock = some k ∧ ¬ BytesBlk (wr.alloc (.cells (stC (Sp.get (j % 3) 1200) (.slice none 0 0)).toArray 35)) k) (wr.alloc (.cells (stC (Sp.get (j % 3) 1200) (.slice none 0 0)).toArray 35)) w9 → (∀ k, v9.ownBlock = some k → u3.ownBlock = some k ∨ ((wr.alloc (.cells (stC (Sp.get (j % 3) 1200) (.slice none 0 0)).toArray 35)).heap.size ≤ k ∧ k < w9.heap.size)) →
              Hid (StepsAt w9 v9 (ys ++ gets (j + 1)) ∧ Grow w4 w9 ∧ ∀ k, v9.ownBlock = some k → w4.heap.size ≤ k)) := Lib.hid fun v9 w9 g1 g2 g3 => Lib.hid ⟨by rw [gets_succ, ← List.append_assoc]; exact g1, Grow.trans' (HJ.out.2.1.alloc _) g2 (fun k hk => HJ.out.2.2 k hk.1), fun k hk => by
            rcases g3 k hk with e | e
            · exact HJ.out.2.2 k e
            · have := HJ.out.2.1.size
              have e1 := e.1
              rw [size_alloc] at e1
              omega⟩
          have hbd := build35 ((j : Int) % 3) wr
          go_wp2_with (at_builtin; refine wpList_append_run _ rfl _ _ 24 rfl _ _ rfl rfl (run_appendStep u3 _ (Sp.get (j % 3) 1200) (.slice none 0 0) wr.heap.size HA.out (Blk.new wr _ _) hyl (rd_nil _)) ?_; rintro v9 w9 ⟨g1, g2, g3⟩; have HE := HU.out v9 w9 g1 g2 g3; clear g1 g2 g3)
          go_roundg (gk - 1)
          case measure => omega
          case rel => exact ⟨j + 1, by omega, by go_num, HE⟩
    · have hxi : xs[i]? = some (xs[i]'(by omega)) := List.getElem?_eq_getElem (by omega)
      have htk : xs.take (i + 1) = xs.take i ++ [xs[i]'(by omega)] := by rw [List.take_add_one, hxi]; rfl
      generalize xs[i]'(by omega) = x at hxi htk
      obtain ⟨bs, o, cs, d, hv, _, _, hd, hcell, cur, hcur⟩ := RowAt.get (cs := stC) (size := 8) (fun _ _ => rfl) HI.out.all hxi
      injection hv with hv1 hv2 hv3
      subst hv1
      clear hv2 hv3
      have e0 : wr.cell? ⟨bs, o + i * 8, none⟩ = some (.int .i64 (x.kind : Int)) := hcell 0 _ rfl
      have e1 : wr.cell? ⟨bs, o + i * 8 + 1, none⟩ = some (.int .i64 (x.lev : Int)) := hcell 1 _ rfl
      have e2 : wr.cell? ⟨bs, o + i * 8 + 2, none⟩ = some (.int .i64 (x.ty : Int)) := hcell 2 _ rfl
      have e3 : wr.cell? ⟨bs, o + i * 8 + 3, none⟩ = some (.int .u64 (x.a : Int)) := hcell 3 _ rfl
      have e4 : wr.cell? ⟨bs, o + i * 8 + 4, none⟩ = some (.int .u64 (x.b : Int)) := hcell 4 _ rfl
      have e5 : wr.cell? ⟨bs, o + i * 8 + 5, none⟩ = some (.int .u64 (x.c : Int)) := hcell 5 _ rfl
      have e6 : wr.cell? ⟨bs, o + i * 8 + 6, none⟩ = some d := hcell 6 _ rfl
      have e7 : wr.cell? ⟨bs, o + i * 8 + 7, none⟩ = some (.int .i64 (x.most : Int)) := hcell 7 _ rfl
      have hbl : bs < wr.heap.size := (Array.getElem?_eq_some_iff.1 hcur).1
      have hil : i < xs.length := by omega
      obtain ⟨pd, cd, rfl, _⟩ := id hd
      have Hd := Lib.hid hd
      have hyl : ((xs.take i).filter nd).length ≤ 1000000 := by
        have := List.length_filter_le nd (xs.take i)
        rw [List.length_take] at this
        omega
      clear hcell hcur cur hxi hd hend
      go_upto_region 8 with fail
      have hX : Blk (wr.alloc (.cells (stC x (.slice pd x.data.length cd)).toArray 35)) wr.heap.size (stC x (.slice pd x.data.length cd)).toArray 35 := Blk.new wr _ _
      have HGa : Hid (Grow wr (wr.alloc (.cells (stC x (.slice pd x.data.length cd)).toArray 35))) := Lib.hid ((Fr.refl _ _).alloc _)
      have hfold : #[Value.int .i64 (x.kind : Int), .int .i64 (x.lev : Int), .int .i64 (x.ty : Int), .int .u64 (x.a : Int), .int .u64 (x.b : Int), .int .u64 (x.c : Int), .slice pd x.data.length cd, .int .i64 (x.most : Int)] = (stC x (.slice pd x.data.length cd)).toArray := rfl
      rw [hfold]
      clear hfold
      generalize (wr.alloc (.cells (stC x (.slice pd x.data.length cd)).toArray 35)) = wa at *
      have x0 : wa.cell? ⟨wr.heap.size, 0, none⟩ = some (.int .i64 (x.kind : Int)) := hX.cellAt 0 _ rfl
      have x1 : wa.cell? ⟨wr.heap.size, 1, none⟩ = some (.int .i64 (x.lev : Int)) := hX.cellAt 1 _ rfl
      have x2 : wa.cell? ⟨wr.heap.size, 2, none⟩ = some (.int .i64 (x.ty : Int)) := hX.cellAt 2 _ rfl
      have x3 : wa.cell? ⟨wr.heap.size, 3, none⟩ = some (.int .u64 (x.a : Int)) := hX.cellAt 3 _ rfl
      have x4 : wa.cell? ⟨wr.heap.size, 4, none⟩ = some (.int .u64 (x.b : Int)) := hX.cellAt 4 _ rfl
      have x5 : wa.cell? ⟨wr.heap.size, 5, none⟩ = some (.int .u64 (x.c : Int)) := hX.cellAt 5 _ rfl
      have x6 : wa.cell? ⟨wr.heap.size, 6, none⟩ = some (.slice pd x.data.length cd) := hX.cellAt 6 _ rfl
      have x7 : wa.cell? ⟨wr.heap.size, 7, none⟩ = some (.int .i64 (x.most : Int)) := hX.cellAt 7 _ rfl
      have hltX := hX.lt
      have HI4 := Lib.hid (HI.out.growTo HGa.out)
      have HR4 := Lib.hid (Hd.out.keep (Grow.bytes HGa.out))
      clear e0 e1 e2 e3 e4 e5 e6 e7 hbl hX
      by_cases h3 : x.kind = 3
      · have hk3 : ((x.kind : Int) != 3) = false := by simp; omega
        have hf : (xs.take (i + 1)).filter nd = (xs.take i).filter nd := by
          rw [htk, List.filter_append]
          simp [nd, h3]
        go_wp2_with fail
        go_roundg (gk - 1)
        case measure => omega
        case rel => exact ⟨i + 1, by omega, by go_num, by rw [hf]; exact HI4⟩
      · have hk3 : ((x.kind : Int) != 3) = true := by simp; omega
        have hf : (xs.take (i + 1)).filter nd = (xs.take i).filter nd ++ [x] := by
          rw [htk, List.filter_append]
          simp [nd, h3]
        have HI5 := Lib.hid (HI4.out.growTo ((Fr.refl _ wa).alloc (.cells (stC x (.slice pd x.data.length cd)).toArray 35)))
        have HR5 := Lib.hid (HR4.out.keep (w' := wa.alloc (.cells (stC x (.slice pd x.data.length cd)).toArray 35)) (Grow.bytes ((Fr.refl _ wa).alloc _)))
        go_wp2_with (at_builtin; refine wpList_append_run _ rfl _ _ 24 rfl _ _ rfl rfl (run_appendStep u3 _ x (.slice pd x.data.length cd) wa.heap.size HI5.out.kept (Blk.new wa _ _) hyl HR5.out) ?_; rintro v9 w9 ⟨g1, g2, g3⟩; have HE := Lib.hid (HI5.out.app g1 g2 g3); clear g1 g2 g3)
        go_roundg (gk - 1)
        case measure => omega
        case rel => exact ⟨i + 1, by omega, by go_num, by rw [hf]; exact HE⟩
end Go.Proofs.Ytgdkbflhgcchfaa
