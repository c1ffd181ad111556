/- laws.FnCYHello, walked. -/
import Derived.Test.YtdhhccpeikhilaaDoorJ5a
import Derived.Test.YtdhhccpeikhilaaDoorJ3
import Derived.Test.YtdhhccpeikhilaaDoorF4b
import Derived.Deep.CutBlock
import Derived.Deep.CutRange
import Derived.Test.YtdhhccpeikhilaaDoorD8
namespace Go.Proofs.YtdhhccpeikhilaaDoor
open Go.RowKit

theorem letter (b : Nat) : Value.int .u8 (97 + (b : Int) % 26) = u8 (UInt8.ofNat (97 + b % 26)) := by
  rw [u8_of _ (by omega) (by omega)]
  congr 3

set_option maxRecDepth 100000 in
set_option maxHeartbeats 8000000 in
theorem hello_law (w : World) (s : ByteArray) (a c cut : Nat) (mv : Value) (most : List UInt8) (scr : Bool) (ad : Addr) (hm : RdC w mv most) (ha : a < 256) (hc : c < 256) (hcut : cut < 65536)
    (g0 : w.cell? ⟨0, 0, none⟩ = some (.iface 145 (.pointer (some ad)))) (h0s : 0 < w.heap.size) :
    Calls Tryd.prog 4 #[.string s, .int .u8 (a : Int), .int .u8 (c : Int), .int .u16 (cut : Int), mv, .bool scr] w fun e w' => e = .returned (.bool true) ∧ Grow w w' := by
  obtain ⟨pm, cm, rfl, hml, hmc, _⟩ := id hm
  have HM0 := Lib.hid hm
  have G0 := Lib.hid g0
  clear hm g0
  by_cases hz1 : (2147483647 : Int) < (s.size : Int)
  · go_enter Tryd.func4, Tryd.ntmps4
    go_wp2_with fail
    go_ret
    exact ⟨rfl, Fr.refl _ _⟩
  by_cases hz2 : (2147483647 : Int) < (most.length : Int)
  · go_enter Tryd.func4, Tryd.ntmps4
    go_wp2_with fail
    go_ret
    exact ⟨rfl, Fr.refl _ _⟩
  go_enter Tryd.func4, Tryd.ntmps4
  go_upto_region 4 with fail
  go_cut [45, 46, 47] from 40 to 44 (fun s45 s46 s47 wx => ∃ (p : Option Addr) (n cc : Nat), s45 = .slice p n cc ∧ s46 = .int .i64 (n : Int) ∧ s47 = .int .i64 0 ∧ n ≤ 59 ∧ Hid (∃ l, l.length = n ∧ Rd wx (.slice p n cc) l ∧ Grow w wx))
  case first =>
    have hss : ∀ t : ByteArray, t.data.toList.length = t.size := fun t => Array.length_toList
    rcases Nat.lt_or_ge s.size 60 with h | h
    · obtain ⟨p, cc, W2, hcv, hR, hG⟩ := conv_string w s s.data.toList rfl (by rw [hss]; omega)
      rw [hss] at hcv
      have HX : Hid (∃ l, l.length = s.size ∧ Rd W2 (.slice p s.size cc) l ∧ Grow w W2) := Lib.hid ⟨s.data.toList, hss s, by have h := hR; rw [hss] at h; exact h, hG⟩
      have hle : s.size ≤ 59 := by omega
      clear hR hG hss h hz1
      go_wp2_with fail
      all_goals
        go_meet
        exact ⟨p, s.size, cc, rfl, rfl, rfl, hle, HX⟩
    · have hes : (s.extract 0 59).size = 59 := by rw [ByteArray.size_extract]; omega
      obtain ⟨p, cc, W2, hcv, hR, hG⟩ := conv_string w (s.extract 0 59) (s.extract 0 59).data.toList rfl (by rw [hss, hes]; omega)
      rw [hss, hes] at hcv
      have HX : Hid (∃ l, l.length = 59 ∧ Rd W2 (.slice p 59 cc) l ∧ Grow w W2) := Lib.hid ⟨(s.extract 0 59).data.toList, by rw [hss, hes], by have h := hR; rw [hss, hes] at h; exact h, hG⟩
      clear hR hG hss hes hz1
      go_wp2_with fail
      all_goals
        go_meet
        exact ⟨p, 59, cc, rfl, rfl, rfl, by omega, HX⟩
  case rest =>
  obtain ⟨p, n, cc, rfl, rfl, rfl, hn59, HX⟩ := hcut
  obtain ⟨l0, hl0, hR0, hG0⟩ := HX.out
  have HR0 := Lib.hid hR0
  have HG0 := Lib.hid hG0
  have Hl0 := Lib.hid hl0
  clear hR0 hG0 hl0 HX hz1 hz2
  go_wp2_with fail
  go_loopg [13, 15, 47] n (fun k s13 s15 s47 wr => ∃ (i : Nat) (ls : List UInt8), k + i = n ∧ s47 = .int .i64 (i : Int) ∧ ls.length = i ∧ Hid (OwnB wr s13 ls ∧ Grow wc wr ∧ (∀ k, s13.ownBlock = some k → wc.heap.size ≤ k ∧ k < wr.heap.size)))
  case atStart => exact ⟨0, [], rfl, rfl, rfl, Lib.hid ⟨Own.nil _ 5 1, Fr.refl _ _, fun k hk => nomatch hk⟩⟩
  case round =>
    obtain ⟨i, ls, hk, rfl, hls, HI⟩ := hrel
    by_cases hend : i = n
    · have hne : ¬ (i < n) := by omega
      have hG1 : Grow wr (wr.alloc (.cells #[.int .u8 122] 5)) := (Fr.refl _ _).alloc _
      have hrow := own_row_n wr [122] 1 rfl #[.int .u8 122] rfl (by decide)
      have HRow := Lib.hid hrow
      have HG1 := Lib.hid (HI.out.2.1.trans hG1)
      have HN1 := Lib.hid (New.grow HI.out.2.2 hG1)
      have HO1 := Lib.hid (HI.out.1.keep (fun k hk => hG1.block k (HI.out.2.2 k hk).2 (fun e => e)))
      have hls5 : ls.length ≤ 59 := by omega
      obtain ⟨host, hhost⟩ : ∃ host, host = ls ++ [122] := ⟨_, rfl⟩
      have hhl : 0 < host.length ∧ host.length ≤ 60 := by rw [hhost, List.length_append]; simp; omega
      have HHo := Lib.hid hhost
      clear hG1 hrow hls hhost hend
      go_upto_region 12 with (first
        | (at_builtin; refine wpList_appendB2 _ rfl _ _ rfl u13 (.slice (some ⟨wr.heap.size, 0, none⟩) 1 1) ls [122] HO1.out HRow.out.rd (by simp; omega) rfl rfl ?_; intro v2 w2 hO2 hF2 hf2; have n2 := app_next HG1.out HN1.out hF2 hf2; rw [← HHo.out] at hO2; have hstr := Rd.string hO2.rd)
        | (go_at_call 15; refine (cyHello_any _ ⟨host.toArray⟩ host a c (by simp) ha hc hhl.2).mono ?_; rintro e w3 ⟨v3, rfl, hR3, hG3, hf3⟩; obtain ⟨p3, c3, rfl, hR3⟩ := hR3.int rfl))
      have hG3w : Grow w w3 := (HG0.out.trans n2.1).trans hG3
      obtain ⟨P, hP⟩ : ∃ P : HP, P = ⟨scr, host, a, c⟩ := ⟨_, rfl⟩
      have hPok : P.Ok := by rw [hP]; exact ⟨ha, hc, hhl.2, hhl.1⟩
      have hbd := hPok.bounds
      obtain ⟨N, hN⟩ : ∃ N, N = (hello host a c).length := ⟨_, rfl⟩
      have hNP : P.N = N := by rw [hN, hP]
      have hPH : P.H = hello host a c := by rw [hP]
      obtain ⟨H, hH⟩ : ∃ H, H = hello host a c := ⟨_, rfl⟩
      have hNb : 60 ≤ N ∧ N ≤ 700 := by omega
      rw [← hN, ← hH] at hR3
      rw [← hN]
      obtain ⟨k, hk0⟩ : ∃ k, k = cut % N := ⟨_, rfl⟩
      have hkN : k < N := by rw [hk0]; exact Nat.mod_lt _ (by omega)
      have hkc : ((cut : Int) % (N : Int)) = (k : Int) := by rw [hk0]; exact (Int.natCast_emod cut N).symm
      rw [hkc]
      have hHl : H.length = N := by rw [hH, hN]
      have hc3 : N ≤ c3 := by
        obtain ⟨p', c', hv, h1, _⟩ := hR3
        injection hv with e1 e2 e3
        omega
      have hR3a : Rd w3 (.slice p3 k c3) (H.take k) := hR3.take k (by omega)
      have hR3b := hR3.drop k (by omega)
      rw [if_neg (by omega)] at hR3b
      have HR3 := Lib.hid hR3
      have HR3a := Lib.hid hR3a
      have HR3b := Lib.hid hR3b
      have HG3 := Lib.hid hG3w
      have HP := Lib.hid hP
      have HNP := Lib.hid hNP
      have HPH : Hid (P.H = H) := Lib.hid (by rw [hPH, hH])
      have HHl := Lib.hid hHl
      have HPok := Lib.hid hPok
      have hkI : (k : Int) ≤ (N : Int) := by omega
      have hkI2 : (k : Int) ≤ (c3 : Int) := by omega
      have hk0I : (0 : Int) ≤ (k : Int) := by omega
      have hck : ¬ (c3 = k) := by omega
      have HNm : Hid (namePos a = namePos P.a) := Lib.hid (by rw [hP])
      have HHo2 : Hid (P.host = host) := Lib.hid (by rw [hP])
      have HSc : Hid (P.scr = scr) := Lib.hid (by rw [hP])
      clear hG3w hP hPok hbd hN hNP hPH hH hk0 hkc hHl hR3 hR3a hR3b hstr hO2 hF2 hf2 n2 hG3 hf3
      go_region_held3 (fun w' => True) (trivial)
        (first
          | (go_at_call 16; with_reducible refine (clone_int _ p3 c3 k (H.take k) (by rw [List.length_take, HHl.out]; omega) (HR3a.out.keep (Grow.bytes (by repeat (first | exact Fr.refl _ _ | assumption | apply Fr.drew | apply Fr.alloc | refine Fr.trans ?_ (by assumption))))) (by omega)).mono ?_; rintro e w4 ⟨p4, c4, rfl, hO4, hG4, hf4⟩)
          | (go_at_call 16; with_reducible refine (clone_int _ _ _ _ (H.drop k) (by rw [List.length_drop, HHl.out]) (HR3b.out.keep (Grow.bytes (by repeat (first | exact Fr.refl _ _ | assumption | apply Fr.drew | apply Fr.alloc | refine Fr.trans ?_ (by assumption))))) (by omega)).mono ?_; rintro e w5 ⟨p5, c5, rfl, hO5, hG5, hf5⟩))
      go_wp2_with fail
      have hB5 : Blk (w5.alloc (.cells #[.int .i64 3, .int .i64 0, .int .i64 0, .slice p4 k c4, .int .i64 5, .int .i64 0, .int .i64 0, .slice none 0 0, .int .i64 3, .int .i64 0, .int .i64 0, .slice p5 (N - k) c5] 30)) w5.heap.size #[.int .i64 3, .int .i64 0, .int .i64 0, .slice p4 k c4, .int .i64 5, .int .i64 0, .int .i64 0, .slice none 0 0, .int .i64 3, .int .i64 0, .int .i64 0, .slice p5 (N - k) c5] 30 := Blk.new w5 _ _
      obtain ⟨mo, hmo⟩ : ∃ mo : Nat → Nat, mo = fun i => if most.length = 0 then 1400 else 40 + (most[i % most.length]?.getD 0).toNat := ⟨_, rfl⟩
      have hGw5 : Grow w3 w5 := (by repeat (first | exact Fr.refl _ _ | assumption | apply Fr.drew | apply Fr.alloc | refine Fr.trans ?_ (by assumption)))
      have hGa5 : Grow w5 (w5.alloc (.cells #[.int .i64 3, .int .i64 0, .int .i64 0, .slice p4 k c4, .int .i64 5, .int .i64 0, .int .i64 0, .slice none 0 0, .int .i64 3, .int .i64 0, .int .i64 0, .slice p5 (N - k) c5] 30)) := (Fr.refl _ _).alloc _
      have hSt : StepsAt (w5.alloc (.cells #[.int .i64 3, .int .i64 0, .int .i64 0, .slice p4 k c4, .int .i64 5, .int .i64 0, .int .i64 0, .slice none 0 0, .int .i64 3, .int .i64 0, .int .i64 0, .slice p5 (N - k) c5] 30)) (.slice (some ⟨w5.heap.size, 0, none⟩) 3 3) (hsteps P k mo 0) := by
        have h := steps_three (y1 := ⟨3, 0, 0, H.take k⟩) (y2 := sAsk) (y3 := ⟨3, 0, 0, H.drop k⟩) hB5 (hO4.rd.keep (Grow.bytes (by repeat (first | exact Fr.refl _ _ | assumption | apply Fr.drew | apply Fr.alloc | refine Fr.trans ?_ (by assumption))))) (rd_nil _) (hO5.rd.keep (Grow.bytes (by repeat (first | exact Fr.refl _ _ | assumption | apply Fr.drew | apply Fr.alloc | refine Fr.trans ?_ (by assumption)))))
        rw [← HPH.out] at h
        exact h
      have HSt := Lib.hid hSt
      have HGb := Lib.hid (hGw5.trans hGa5)
      have hNb5 : ∀ kk, (Value.slice (some ⟨w5.heap.size, 0, none⟩) 3 3).ownBlock = some kk → w3.heap.size ≤ kk ∧ kk < (w5.alloc (.cells #[.int .i64 3, .int .i64 0, .int .i64 0, .slice p4 k c4, .int .i64 5, .int .i64 0, .int .i64 0, .slice none 0 0, .int .i64 3, .int .i64 0, .int .i64 0, .slice p5 (N - k) c5] 30)).heap.size := fun kk hk => by
        have e : w5.heap.size = kk := Option.some.inj hk
        subst e
        exact ⟨hGw5.size, by simp⟩
      have HNb := Lib.hid hNb5
      have HMoD := Lib.hid hmo
      obtain ⟨lg, hlgd⟩ : ∃ lg : Bool, lg = ((most.length : Int) == 0) := ⟨_, rfl⟩
      rw [← hlgd]
      have HLG := Lib.hid hlgd
      clear hlgd
      clear hB5 hGw5 hGa5 hSt hNb5 hO4 hO5 hG4 hG5 hf4 hf5 hmo hkI hkI2 hk0I hck hne hk
      generalize w5.alloc (.cells #[.int .i64 3, .int .i64 0, .int .i64 0, .slice p4 k c4, .int .i64 5, .int .i64 0, .int .i64 0, .slice none 0 0, .int .i64 3, .int .i64 0, .int .i64 0, .slice p5 (N - k) c5] 30) = w6 at *
      go_loopg [20, 22] 40 (fun kk s20 s22 wr => ∃ j : Nat, kk + j = 40 ∧ s22 = .int .i64 (j : Int) ∧ Hid (StepsAt wr s20 (hsteps P k mo j) ∧ Grow w3 wr ∧ (∀ kk, s20.ownBlock = some kk → w3.heap.size ≤ kk ∧ kk < wr.heap.size)))
      case atStart => exact ⟨0, rfl, rfl, Lib.hid ⟨HSt.out, HGb.out, HNb.out⟩⟩
      case round =>
      obtain ⟨j, hj, rfl, HJ⟩ := hrel
      by_cases hjend : j = 40
      · subst hjend
        have hmoB : ∀ j, 40 ≤ mo j ∧ mo j ≤ 1400 := fun j => by
          rw [HMoD.out]
          show 40 ≤ (if most.length = 0 then 1400 else 40 + (most[j % most.length]?.getD 0).toNat) ∧ (if most.length = 0 then 1400 else 40 + (most[j % most.length]?.getD 0).toNat) ≤ 1400
          split
          · omega
          · have := (most[j % most.length]?.getD 0).toNat_lt
            omega
        have hkP : k < P.N := by rw [HNP.out]; exact hkN
        have hGr : Grow w wr := HG3.out.trans HJ.out.2.1
        have g0r : wr.cell? ⟨0, 0, none⟩ = some (.iface 145 (.pointer (some ad))) := (hGr.cell h0s).trans G0.out
        have hsl : (hsteps P k mo 40).length = 83 := by rw [hsteps_length]
        obtain ⟨p20, c20, hu20, hc20, _⟩ := HJ.out.1.slice
        rw [hsl] at hu20 hc20
        subst hu20
        have h17 := play_hello P HPok.out wr _ ad (hsteps P k mo 40) HJ.out.1 (by rw [hsl]; omega) (hsteps_ok P HPok.out k hkP mo hmoB 40) g0r (Nat.lt_of_lt_of_le h0s hGr.size)
        rw [HSc.out] at h17
        have H17 := Lib.hid h17
        obtain ⟨YS, hYS⟩ : ∃ YS, YS = hsees P (.wr []) (hsteps P k mo 40) := ⟨_, rfl⟩
        have hYSl : YS.length = 83 := by rw [hYS, hsees_length, hsl]
        have hYS2 : YS = hs3 P k ++ hsp P mo 40 := by rw [hYS]; exact hsteps_sees P k hkP mo 40
        have HYS := Lib.hid hYS
        have HYS2 := Lib.hid hYS2
        have HYSl := Lib.hid hYSl
        have HMoB := Lib.hid hmoB
        have HkP := Lib.hid hkP
        clear h17 hYS hYS2 hYSl hmoB g0r hsl hkP hGr
        go_upto_region 22 with (go_at_call 17; refine H17.out.mono ?_; rintro e w7 ⟨hG7, vs, rfl, hSn⟩; rw [← HYS.out] at hSn; obtain ⟨p7, c7, hv7, hc7, _⟩ := hSn.slice; rw [HYSl.out] at hv7 hc7; subst hv7)
        have HSn := Lib.hid hSn
        have HSt2 := Lib.hid (HJ.out.1.grow hG7)
        have HG7 := Lib.hid (HJ.out.2.1.trans hG7)
        clear hSn hG7
        go_cut [147] from 117 to 146 (fun s147 wx => s147 = .bool false ∧ wx = w7)
        case first =>
          obtain ⟨y1, hy1, hy1h⟩ := seen_one P k HkP.out (hsp P mo 40)
          rw [← HYS2.out] at hy1
          obtain ⟨gb, go, gc, gd, hv, _, _, hgd, gcell, gcur, hgcur⟩ := RowAt.get (cs := snC) (size := 5) (fun _ _ => rfl) HSn.out hy1
          injection hv with hv1 hv2 hv3
          subst hv1
          have f1 : w7.cell? ⟨gb, go + 1 * 5 + 1, none⟩ = some (.bool y1.has) := gcell 1 _ rfl
          rw [hy1h, HSc.out] at f1
          have hglt : gb < w7.heap.size := (Array.getElem?_eq_some_iff.1 hgcur).1
          clear gcell hgcur hy1 hy1h hgd hv2 hv3
          cases hscr : scr with
          | true =>
            subst hscr
            have f1 : w7.cell? ⟨gb, go + 6, none⟩ = some (.bool false) := f1
            go_wp2_with fail
            go_meet
            exact ⟨rfl, rfl⟩
          | false =>
            subst hscr
            rcases Nat.eq_zero_or_pos k with hk0 | hk0
            · have f1 : w7.cell? ⟨gb, go + 6, none⟩ = some (.bool false) := by rw [f1, hk0]; rfl
              have hkz : ¬ ((0 : Int) < (k : Int)) := by omega
              clear hk0
              go_wp2_with fail
              go_meet
              exact ⟨rfl, rfl⟩
            · have f1 : w7.cell? ⟨gb, go + 6, none⟩ = some (.bool true) := by rw [f1, decide_eq_true hk0]; rfl
              have hkz : (0 : Int) < (k : Int) := by omega
              go_wp2_with fail
              go_meet
              exact ⟨rfl, rfl⟩
        case rest =>
        obtain ⟨rfl, rfl⟩ := hcut
        obtain ⟨wO, rfl⟩ : ∃ wO, wO = wc := ⟨wc, rfl⟩
        have hmk := make_bools N (by omega)
        have hBa : BoolsAt (wO.alloc (.cells (Array.replicate N (.bool false)) 4)) wO.heap.size N ((hst P mo 0).sent P) := BoolsAt.new _ _ _ (hs0_good P HPok.out).2.2.2
        have hGba : Grow wO (wO.alloc (.cells (Array.replicate N (.bool false)) 4)) := (Fr.refl _ _).alloc _
        have hc0 : (hst P mo 0).count P = 0 := (hs0_good P HPok.out).2.1
        have HBa := Lib.hid hBa
        have HGba := Lib.hid hGba
        have HC0 := Lib.hid hc0
        clear hBa hGba hc0
        go_wp2_with fail
        obtain ⟨kb, hkb⟩ : ∃ kb, kb = wO.heap.size := ⟨_, rfl⟩
        obtain ⟨w8, hw8⟩ : ∃ w8, w8 = wO.alloc (.cells (Array.replicate N (.bool false)) 4) := ⟨_, rfl⟩
        have hba := HBa.out
        have hgba := HGba.out
        rw [← hw8, ← hkb] at hba
        rw [← hw8] at hgba ⊢
        rw [← hkb]
        have HBa2 := Lib.hid hba
        have HGb2 := Lib.hid hgba
        have hkbs : wO.heap.size ≤ kb := by omega
        clear hmk hw8 hkb hba hgba HBa HGba
        go_loopg [27, 28] 40 (fun kk s27 s28 wr => ∃ (j ii cnt : Nat), kk + j = 40 ∧ s28 = .int .i64 (ii : Int) ∧ s27 = .int .i64 (cnt : Int) ∧ Hid (ii = 4 + 2 * j ∧ cnt = (hst P mo j).count P ∧ Grow wO wr ∧ BoolsAt wr kb N ((hst P mo j).sent P)))
        case atStart => exact ⟨0, 4, 0, rfl, rfl, rfl, Lib.hid ⟨rfl, HC0.out.symm, HGb2.out, HBa2.out⟩⟩
        case round =>
        obtain ⟨j, ii, cnt, hj, rfl, rfl, HK⟩ := hrel
        have hgood := hst_good P HPok.out mo HMoB.out j
        by_cases hjend : j = 40
        · have hii : ¬ ((ii : Int) < 83) := by have := HK.out.1; omega
          have hcnt : cnt = N := by
            have h := hst_end P HPok.out mo HMoB.out
            rw [← hjend] at h
            have := (good_done P HPok.out _ hgood.1 h).1
            rw [HK.out.2.1, this, HNP.out]
          subst hcnt
          clear hgood hjend
          go_wp2_with (go_at_call 14; refine (awake _).mono ?_; rintro e w9 ⟨rfl, hG9⟩)
          go_ret
          exact ⟨rfl, ((HG3.out.trans HG7.out).trans HK.out.2.2.1).trans hG9⟩
        have hj40 : j < 40 := by omega
        have hii : (ii : Int) < 83 := by have := HK.out.1; omega
        obtain ⟨im, him⟩ : ∃ im, im = 3 + 2 * j := ⟨_, rfl⟩
        obtain ⟨st, hst0⟩ : ∃ st, st = hst P mo j := ⟨_, rfl⟩
        obtain ⟨M, hM⟩ : ∃ M, M = mo j := ⟨_, rfl⟩
        obtain ⟨hs1, hs2⟩ := seen_get P k mo 40 j hj40
        rw [← HYS2.out, ← hst0] at hs1 hs2
        rw [← hM] at hs2
        rw [← him] at hs1
        rw [← HK.out.1] at hs2
        rw [← hst0] at hgood
        have hMb := HMoB.out j
        rw [← hM] at hMb
        have hxs : (hsteps P k mo 40)[ii]? = some (sPop M) := by rw [HK.out.1, hM]; exact hsteps_get P k mo 40 j hj40
        have hGwr : Grow wO wr := HK.out.2.2.1
        obtain ⟨gb, go, gc, gd, hv, _, _, hgd, gcell, gcur, hgcur⟩ := RowAt.get (cs := snC) (size := 5) (fun _ _ => rfl) (HSn.out.grow hGwr) hs1
        injection hv with hv1 hv2 hv3
        subst hv1
        have f1 : wr.cell? ⟨gb, go + im * 5 + 1, none⟩ = some (.bool (st.has P)) := by
          have h := gcell 1 _ rfl
          rw [ask_seen] at h
          exact h
        have hglt : gb < wr.heap.size := (Array.getElem?_eq_some_iff.1 hgcur).1
        have him2 : (ii : Int) - 1 = (im : Int) := by have := HK.out.1; omega
        have hi0 : (0 : Int) ≤ (im : Int) := by omega
        have hi1 : (im : Int) < 83 := by omega
        have HIm := Lib.hid him2
        have HST := Lib.hid hst0
        have HM := Lib.hid hM
        have HIME := Lib.hid him
        have HS2 := Lib.hid hs2
        have HXS := Lib.hid hxs
        have HGood := Lib.hid hgood.1
        clear hv2 hv3 hgd gcell hgcur hs1 hs2 hxs him hst0 hM hgood
        cases hhas : st.has P with
        | false =>
          rw [hhas] at f1
          have hcnt : cnt = N := by
            have := (good_done P HPok.out _ HGood.out hhas).1
            rw [HK.out.2.1, ← HST.out, this, HNP.out]
          subst hcnt
          clear hhas
          go_wp2_with (go_at_call 14; refine (awake _).mono ?_; rintro e w9 ⟨rfl, hG9⟩)
          go_ret
          exact ⟨rfl, ((HG3.out.trans HG7.out).trans hGwr).trans hG9⟩
        | true =>
          rw [hhas] at f1
          have hl := pop_law P HPok.out st M HGood.out hhas hMb.1 hMb.2
          obtain ⟨np, hnp⟩ : ∃ np, np = st.num P M := ⟨_, rfl⟩
          obtain ⟨so, hso⟩ : ∃ so, so = st.off := ⟨_, rfl⟩
          obtain ⟨hp1, hp2, hp3⟩ := pop_seen P st M hl.pos
          have hs2 := HS2.out
          have hnext : hst P mo (j + 1) = st.popped P np := by
            show hnext P (hst P mo j) (sPop (mo j)) = _
            rw [← HST.out, ← HM.out, hnext_pop, if_pos hl.pos, hnp]
          obtain ⟨Y, hY⟩ : ∃ Y, Y = hseen P st (sPop M) := ⟨_, rfl⟩
          rw [← hY] at hp1 hp2 hp3 hs2
          rw [← hnp] at hl hp3
          obtain ⟨yd, hyd, ycell, _⟩ := RowAt.at (cs := snC) (size := 5) (fun _ _ => rfl) (HSn.out.grow hGwr) hs2
          obtain ⟨Yi, Yh, Yo, Yd, Yc⟩ := Y
          have hYi : Yi = true := hp1
          subst hYi
          have hYo : Yo = so := by rw [hso]; exact hp2
          subst hYo
          have hYd : Yd = (H.drop Yo).take np := by
            have h := hl.data
            rw [HPH.out, ← hso] at h
            rw [← h]; exact hp3
          have hYl : Yd.length = np := by
            have h := hl.len
            rw [← hp3] at h; exact h
          have hfit : Yo + np ≤ N := by have h := hl.fits; rw [← hso, HNP.out] at h; exact h
          have hpos := hl.pos
          obtain ⟨T, hT⟩ : ∃ T, T = 1 + vlen Yo + vlen np + np := ⟨_, rfl⟩
          have hTM : T ≤ M := by have h := hl.wire; rw [← hso] at h; omega
          obtain ⟨xb, xo, xc, xd, hv, _, _, hxd, xcell, xcur, hxcur⟩ := RowAt.get (cs := stC) (size := 4) (fun _ _ => rfl) (HSt2.out.grow hGwr) HXS.out
          injection hv with hv1 hv2 hv3
          subst hv1
          have e2 : wr.cell? ⟨xb, xo + ii * 4 + 2, none⟩ = some (.int .i64 (M : Int)) := xcell 2 _ rfl
          have hxlt : xb < wr.heap.size := (Array.getElem?_eq_some_iff.1 hxcur).1
          obtain ⟨yp, yq, rfl, hyd⟩ := hyd.int hYl
          have hyq : np ≤ yq := by
            obtain ⟨p', c', hv, h1, _⟩ := hyd
            injection hv with e1 e2 e3
            have h1 : Yd.length ≤ c' := h1
            omega
          have f0 : wr.cell? ⟨gb, go + ii * 5, none⟩ = some (.bool true) := ycell 0 _ rfl
          have f1b : wr.cell? ⟨gb, go + ii * 5 + 1, none⟩ = some (.bool Yh) := ycell 1 _ rfl
          have f2 : wr.cell? ⟨gb, go + ii * 5 + 2, none⟩ = some (.int .i64 (Yo : Int)) := ycell 2 _ rfl
          have f3 : wr.cell? ⟨gb, go + ii * 5 + 3, none⟩ = some (.slice yp np yq) := ycell 3 _ rfl
          have f4 : wr.cell? ⟨gb, go + ii * 5 + 4, none⟩ = some (.int .i64 (Yc : Int)) := ycell 4 _ rfl
          have hii0 : (0 : Int) ≤ (ii : Int) := by omega
          have HL := Lib.hid hl
          have HNext := Lib.hid hnext
          have HYd := Lib.hid hYd
          have HYl := Lib.hid hYl
          have HRy := Lib.hid hyd
          have HSo := Lib.hid hso
          have HT := Lib.hid hT
          clear hl hnp hso hp1 hp2 hp3 hs2 hnext hY hYd hYl hyd hT hv2 hv3 hxd xcell hxcur ycell hhas
          go_upto_region 31 with fail
          have hG9 : Grow wr (wr.alloc (.cells #[.bool true, .bool Yh, .int .i64 (Yo : Int), .slice yp np yq, .int .i64 (Yc : Int)] 41)) := (Fr.refl _ _).alloc _
          have hb9 : Blk (wr.alloc (.cells #[.bool true, .bool Yh, .int .i64 (Yo : Int), .slice yp np yq, .int .i64 (Yc : Int)] 41)) wr.heap.size #[.bool true, .bool Yh, .int .i64 (Yo : Int), .slice yp np yq, .int .i64 (Yc : Int)] 41 := Blk.new wr _ _
          generalize wr.alloc (.cells #[.bool true, .bool Yh, .int .i64 (Yo : Int), .slice yp np yq, .int .i64 (Yc : Int)] 41) = wa at *
          have HS : Hid (∀ w', Grow wa w' → w'.cell? ⟨wr.heap.size, 0, none⟩ = some (.bool true) ∧ w'.cell? ⟨wr.heap.size, 2, none⟩ = some (.int .i64 (Yo : Int)) ∧ w'.cell? ⟨wr.heap.size, 3, none⟩ = some (.slice yp np yq) ∧ w'.cell? ⟨xb, xo + ii * 4 + 2, none⟩ = some (.int .i64 (M : Int))) :=
            Lib.hid (fun w' hg => by
              have hq := hg.blk hb9 (fun e => e)
              exact ⟨hq.cellAt 0 _ rfl, hq.cellAt 2 _ rfl, hq.cellAt 3 _ rfl, (World.cell?_of_block (w := wr) (w' := w') (a := ⟨xb, xo + ii * 4 + 2, none⟩) ((hG9.trans hg).block xb hxlt (fun e => e))).trans e2⟩)
          have HBq := Lib.hid hb9
          have HG9 := Lib.hid hG9
          have HRya := Lib.hid (HRy.out.keep hG9.bytes)
          have hRH : Rd wa (.slice (Option.map (fun x => x.add Yo) p3) np (c3 - Yo)) ((H.drop Yo).take np) := by
            have h := (HR3.out.keep (Grow.bytes ((HG7.out.trans hGwr).trans hG9))).drop Yo (by rw [HHl.out]; omega)
            rw [if_neg (by omega)] at h
            exact h.take np (by rw [List.length_drop, HHl.out]; omega)
          have HRH := Lib.hid hRH
          have H18 : Hid (∀ w', Grow wa w' → Calls Tryd.prog 18 #[.int .i64 (Yo : Int), .slice yp np yq] w' fun e w2 => Grow w' w2 ∧ ∃ q d, e = .returned (.slice q T d)) :=
            Lib.hid (fun w' hg => by rw [HT.out]; exact crypto_any w' Yo np yp yq Yd HYl.out (HRya.out.keep (Grow.bytes hg)) (by omega) (by omega))
          have hTn := Nat.not_lt.2 hTM
          have htn : ((Yo : Int) + (np : Int)).toNat = Yo + np := by omega
          have np0 : ¬ (np = 0) := by omega
          have npb : ((np : Int) == 0) = false := by simp; omega
          have npi : ¬ ((np : Int) = 0) := by omega
          have hYo0 : ¬ ((Yo : Int) < 0) := by omega
          have hfi : ¬ ((N : Int) < (Yo : Int) + (np : Int)) := by omega
          have hs1 : (Yo : Int) ≤ (Yo : Int) + (np : Int) := by omega
          have hs2 : (Yo : Int) + (np : Int) ≤ (c3 : Int) := by omega
          have hcc : ¬ (c3 = Yo) := by omega
          have hlq := hb9.lt
          have hxla : xb < wa.heap.size := Nat.lt_of_lt_of_le hxlt hG9.size
          clear hb9 hG9 f0 f1 f1b f2 f3 f4 e2 hRH him2
          obtain ⟨q0, q2, q3, m2⟩ := HS.out wa (Fr.refl _ _)
          go_region_held3 (fun w' => w'.cell? ⟨wr.heap.size, 0, none⟩ = some (.bool true) ∧ w'.cell? ⟨wr.heap.size, 2, none⟩ = some (.int .i64 (Yo : Int)) ∧ w'.cell? ⟨wr.heap.size, 3, none⟩ = some (.slice yp np yq) ∧ w'.cell? ⟨xb, xo + ii * 4 + 2, none⟩ = some (.int .i64 (M : Int)))
            (first | exact HS.out _ (by repeat (first | exact Fr.refl _ _ | assumption | apply Fr.drew | apply Fr.alloc | refine Fr.trans ?_ (by assumption))))
            (first
              | (go_at_call 11; refine (equal_same _ _ _ Yd (HRya.out.keep (Grow.bytes (by repeat (first | exact Fr.refl _ _ | assumption | apply Fr.drew | apply Fr.alloc | refine Fr.trans ?_ (by assumption))))) (by rw [HYd.out]; exact HRH.out.keep (Grow.bytes (by repeat (first | exact Fr.refl _ _ | assumption | apply Fr.drew | apply Fr.alloc | refine Fr.trans ?_ (by assumption)))))).mono ?_; rintro e w6 ⟨rfl, rfl⟩)
              | (go_at_call 18; refine (H18.out _ (by repeat (first | exact Fr.refl _ _ | assumption | apply Fr.drew | apply Fr.alloc | refine Fr.trans ?_ (by assumption)))).mono ?_; rintro e w5 ⟨hG5, q5, d5, rfl⟩))
          go_upto_region 33 with fail
          have hGe : Grow wa w5 := (by repeat (first | exact Fr.refl _ _ | assumption | apply Fr.drew | apply Fr.alloc | refine Fr.trans ?_ (by assumption)))
          obtain ⟨r0, r2, r3, n2b⟩ := HS.out w5 hGe
          have hlt5 : wr.heap.size < w5.heap.size := Nat.lt_of_lt_of_le hlq hGe.size
          have hw5 : Grow wO w5 := (hGwr.trans HG9.out).trans hGe
          have HW5 := Lib.hid hw5
          have HGre := Lib.hid (HG9.out.trans hGe)
          have hap : P.scr = true → 1 < P.host.length → Yo ≤ namePos P.a → namePos P.a + P.host.length ≤ Yo + np → False := fun h1 h2 h3 h4 => HL.out.apart h1 h2 (by rw [← HSo.out]; exact h3) (by rw [← HSo.out]; exact h4)
          rw [HSc.out, HHo2.out, ← HNm.out] at hap
          have HAp := Lib.hid hap
          obtain ⟨ap, hapd⟩ : ∃ ap, ap = namePos a := ⟨_, rfl⟩
          have hapb : ap ≤ 400 := by have := HPok.out.bounds.2.2.2.2.1; have := HNm.out; omega
          clear hap q0 q2 q3 m2 hG5 hw5 hTn np0 npb npi hfi hs1 hs2 hcc htn hYo0
          go_cut [238] from 219 to 237 (fun s238 wx => s238 = .bool false ∧ wx = w5)
          case first =>
            cases hscr : scr with
            | false =>
              subst hscr
              go_wp2_with fail
              go_meet
              exact ⟨rfl, rfl⟩
            | true =>
              subst hscr
              by_cases h1 : 1 < host.length
              · by_cases h2 : Yo ≤ namePos a
                · have h3 : ¬ (namePos a + host.length ≤ Yo + np) := fun h => HAp.out rfl h1 h2 h
                  have h3i : ¬ (((namePos a : Nat) : Int) + (host.length : Int) ≤ (Yo : Int) + (np : Int)) := by omega
                  have h1i : (1 : Int) < (host.length : Int) := by omega
                  go_wp2_with fail
                  go_meet
                  exact ⟨rfl, rfl⟩
                · have h2i : ¬ ((Yo : Int) ≤ ((namePos a : Nat) : Int)) := by omega
                  have h1i : (1 : Int) < (host.length : Int) := by omega
                  go_wp2_with fail
                  go_meet
                  exact ⟨rfl, rfl⟩
              · have h1i : ¬ ((1 : Int) < (host.length : Int)) := by omega
                go_wp2_with fail
                go_meet
                exact ⟨rfl, rfl⟩
          case rest =>
          obtain ⟨rfl, hw5e⟩ := hcut
          subst hw5e
          go_wp2_with fail
          obtain ⟨g0, rfl⟩ : ∃ g0, g0 = gk := ⟨gk, rfl⟩
          have hBw := HK.out.2.2.2.grow HGre.out
          rw [← HST.out] at hBw
          have HBw := Lib.hid hBw
          clear hBw r0 r2 r3 n2b hlt5 hlq
          go_loopg [27, 31] np (fun kk s27 s31 ww => ∃ (t x c2 : Nat), kk + t = np ∧ s31 = .int .i64 (x : Int) ∧ s27 = .int .i64 (c2 : Int) ∧ Hid (x = Yo + t ∧ c2 = cnt + t ∧ Grow wO ww ∧ BoolsAt ww kb N (fun i => (st.sent P i || (decide (Yo ≤ i) && decide (i < Yo + t))))))
          case atStart => exact ⟨0, Yo, cnt, by omega, rfl, rfl, Lib.hid ⟨rfl, rfl, HW5.out, HBw.out.ext (fun i => by
            have : (decide (Yo ≤ i) && decide (i < Yo + 0)) = false := by rw [Bool.eq_false_iff]; simp
            rw [this, Bool.or_false])⟩⟩
          case round =>
          obtain ⟨t, x, c2, ht, rfl, rfl, HT2⟩ := hrel
          by_cases hte : t = np
          · have hxn : ¬ ((x : Int) < (Yo : Int) + (np : Int)) := by have := HT2.out.1; omega
            have HTE := Lib.hid hte
            clear hte
            go_wp2_with fail
            go_roundg (g0 - 1)
            case measure => omega
            case rel =>
              refine ⟨j + 1, ii + 2, c2, by omega, by go_num, rfl, Lib.hid ⟨by have := HK.out.1; omega, ?_, HT2.out.2.2.1, ?_⟩⟩
              · rw [HNext.out, HL.out.count, HT2.out.2.1, HK.out.2.1, HST.out, HTE.out]
              · refine HT2.out.2.2.2.ext (fun i => ?_)
                rw [HNext.out, HL.out.sent, HTE.out, ← HSo.out]
          · have htn : t < np := by omega
            have hxi : (x : Int) < (Yo : Int) + (np : Int) := by have := HT2.out.1; omega
            have hx0 : (0 : Int) ≤ (x : Int) := by omega
            have hxN : (x : Int) < (N : Int) := by have := HT2.out.1; omega
            have hxNn : x < N := by omega
            have hcell := HT2.out.2.2.2.cell hxNn
            have hfx : (st.sent P x || (decide (Yo ≤ x) && decide (x < Yo + t))) = false := by
              have h1 : st.sent P x = false := HL.out.fresh x (by rw [← HSo.out]; have := HT2.out.1; omega) (by rw [← HSo.out]; have := HT2.out.1; omega)
              have h2 : (decide (Yo ≤ x) && decide (x < Yo + t)) = false := by rw [Bool.eq_false_iff]; simp; have := HT2.out.1; omega
              rw [h1, h2]; rfl
            simp only [hfx] at hcell
            have hltk := HT2.out.2.2.2.lt
            have hfrk := HT2.out.2.2.2.free
            have hc2b : c2 ≤ 100000 := by
              have h1 := HT2.out.2.1
              have h2 := HK.out.2.1
              have h3 := HL.out.count
              have h4 := count_le P HPok.out _ HL.out.good
              have h5 := HPok.out.bounds.2.2.2.1
              rw [← HST.out] at h2
              omega
            clear hfx hte
            go_wp2_with fail
            go_roundg (gk - 1)
            case measure => omega
            case rel =>
              refine ⟨t + 1, x + 1, c2 + 1, by omega, by go_num, by go_num, Lib.hid ⟨by have := HT2.out.1; omega, by have := HT2.out.2.1; omega, HT2.out.2.2.1.setCell _ _ (.inr hkbs), ?_⟩⟩
              refine HT2.out.2.2.2.set x hxNn (fun i => ?_)
              have hxe := HT2.out.1
              rw [Bool.or_assoc]
              congr 1
              rw [Bool.eq_iff_iff]; simp; omega
      have hj40 : j < 40 := by omega
      cases hlgc : lg with
      | true =>
        subst hlgc
        have hlg : most.length = 0 := by have h := HLG.out; simp at h; rw [h]; rfl
        obtain ⟨M, hM⟩ : ∃ M, M = mo j := ⟨_, rfl⟩
        have hM14 : M = 1400 := by rw [hM, HMoD.out]; exact if_pos hlg
        have HMo := Lib.hid hM.symm
        have HM14 := Lib.hid hM14
        clear hM hM14 hlg
        go_upto_region 20 with fail
        have hXB : Blk (wr.alloc (.cells #[.int .i64 4, .int .i64 0, .int .i64 1400, .slice none 0 0] 30)) wr.heap.size #[.int .i64 4, .int .i64 0, .int .i64 (M : Int), .slice none 0 0] 30 := by rw [HM14.out]; exact Blk.new _ _ _
        have HXB := Lib.hid hXB
        have HXG : Hid (Grow wr (wr.alloc (.cells #[.int .i64 4, .int .i64 0, .int .i64 1400, .slice none 0 0] 30))) := Lib.hid ((Fr.refl _ _).alloc _)
        clear hXB
        generalize wr.alloc (.cells #[.int .i64 4, .int .i64 0, .int .i64 1400, .slice none 0 0] 30) = wx at *

        have hx0 : wx.cell? ⟨wr.heap.size, 0, none⟩ = some (.int .i64 4) := HXB.out.cellAt 0 _ rfl
        have hx1 : wx.cell? ⟨wr.heap.size, 1, none⟩ = some (.int .i64 0) := HXB.out.cellAt 1 _ rfl
        have hx2 : wx.cell? ⟨wr.heap.size, 2, none⟩ = some (.int .i64 (M : Int)) := HXB.out.cellAt 2 _ rfl
        have hx3 : wx.cell? ⟨wr.heap.size, 3, none⟩ = some (.slice none 0 0) := HXB.out.cellAt 3 _ rfl
        have hltx := HXB.out.lt
        have hGy : Grow wx (wx.alloc (.cells #[.int .i64 5, .int .i64 0, .int .i64 0, .slice none 0 0, .int .i64 4, .int .i64 0, .int .i64 (M : Int), .slice none 0 0] 30)) := (Fr.refl _ _).alloc _
        have HGy := Lib.hid (HXG.out.trans hGy)
        have hxl : (hsteps P k mo j).length ≤ 1000000 := by rw [hsteps_length]; omega
        clear hGy
        go_wp2_with (at_builtin; refine wpList_append_run _ rfl _ _ 24 rfl u20 (.slice (some ⟨wx.heap.size, 0, none⟩) 2 2) rfl rfl (run_appendSteps2 u20 (hsteps P k mo j) sAsk (sPop M) (.slice none 0 0) (.slice none 0 0) wx.heap.size (HJ.out.1.grow HGy.out) (Blk.new wx _ _) hxl (rd_nil _) (rd_nil _)) ?_; rintro v9 w9 ⟨hS9, hF9, hK9, hf9⟩; obtain ⟨p8, c8, rfl, _⟩ := hS9.slice)
        go_roundg (gk - 1)
        case measure => omega
        case rel =>
          have n9 := app_next (HJ.out.2.1.trans HGy.out) (New.grow HJ.out.2.2 HGy.out) hF9 hf9
          have e1 : hsteps P k mo (j + 1) = hsteps P k mo j ++ [sAsk, sPop M] := by rw [hsteps_succ, HMo.out, List.append_assoc]; rfl
          exact ⟨j + 1, by omega, by go_num, Lib.hid ⟨by rw [e1]; simpa using hS9, n9.1, by simpa using n9.2⟩⟩
      | false =>
        subst hlgc
        have hlg : 0 < most.length := by
          have h := HLG.out
          rcases Nat.eq_zero_or_pos most.length with e | e
          · rw [e] at h; cases h
          · exact e
        obtain ⟨x, hx⟩ : ∃ x, most[j % most.length]? = some x := ⟨_, List.getElem?_eq_getElem (Nat.mod_lt _ hlg)⟩
        obtain ⟨p', c', hv, _, _, hall⟩ := HM0.out.grow (HG3.out.trans HJ.out.2.1)
        injection hv with hv1 hv2 hv3
        subst hv1 hv3
        obtain ⟨mb, mof, rfl, hmb, hcell⟩ := hall (fun e => by rw [e] at hlg; simp at hlg)
        obtain ⟨jm, hjm⟩ : ∃ jm, jm = j % most.length := ⟨_, rfl⟩
        have hjml : jm < most.length := by rw [hjm]; exact Nat.mod_lt _ hlg
        have cm1 : wr.cell? ⟨mb, mof + jm, none⟩ = some (.int .u8 (x.toNat : Int)) := hcell jm x (by rw [hjm]; exact hx)
        obtain ⟨M, hM⟩ : ∃ M, M = mo j := ⟨_, rfl⟩
        have hM40 : M = 40 + x.toNat := by
          rw [hM, HMoD.out]
          show (if most.length = 0 then 1400 else 40 + (most[j % most.length]?.getD 0).toNat) = _
          rw [if_neg (by omega), hx]; rfl
        have HMo := Lib.hid hM.symm
        have HM40 := Lib.hid hM40
        have hmod : (j : Int) % (most.length : Int) = (jm : Int) := by rw [hjm]; exact (Int.natCast_emod j most.length).symm
        have Hmod := Lib.hid hmod
        have hl0 : ¬ (most.length = 0) := by omega
        have hl0i : (0 : Int) < (most.length : Int) := by omega
        have hjmi : (jm : Int) < (most.length : Int) := by omega
        have x0 : 0 ≤ (x.toNat : Int) := by omega
        have x1 : (x.toNat : Int) < 256 := by have := x.toNat_lt; omega
        have hmlt : mb < wr.heap.size := hmb
        clear hall hcell hx hjm hM hM40 hv2 hlg
        go_upto_region 20 with fail
        have hXB : Blk (wr.alloc (.cells #[.int .i64 4, .int .i64 0, .int .i64 (40 + (x.toNat : Int)), .slice none 0 0] 30)) wr.heap.size #[.int .i64 4, .int .i64 0, .int .i64 (M : Int), .slice none 0 0] 30 := by
          rw [show (40 + (x.toNat : Int)) = (M : Int) from by rw [HM40.out]; omega]
          exact Blk.new wr _ _
        have HXB := Lib.hid hXB
        have HXG : Hid (Grow wr (wr.alloc (.cells #[.int .i64 4, .int .i64 0, .int .i64 (40 + (x.toNat : Int)), .slice none 0 0] 30))) := Lib.hid ((Fr.refl _ _).alloc _)
        clear hXB
        generalize wr.alloc (.cells #[.int .i64 4, .int .i64 0, .int .i64 (40 + (x.toNat : Int)), .slice none 0 0] 30) = wx at *
        have hx0 : wx.cell? ⟨wr.heap.size, 0, none⟩ = some (.int .i64 4) := HXB.out.cellAt 0 _ rfl
        have hx1 : wx.cell? ⟨wr.heap.size, 1, none⟩ = some (.int .i64 0) := HXB.out.cellAt 1 _ rfl
        have hx2 : wx.cell? ⟨wr.heap.size, 2, none⟩ = some (.int .i64 (M : Int)) := HXB.out.cellAt 2 _ rfl
        have hx3 : wx.cell? ⟨wr.heap.size, 3, none⟩ = some (.slice none 0 0) := HXB.out.cellAt 3 _ rfl
        have hltx := HXB.out.lt
        have hGy : Grow wx (wx.alloc (.cells #[.int .i64 5, .int .i64 0, .int .i64 0, .slice none 0 0, .int .i64 4, .int .i64 0, .int .i64 (M : Int), .slice none 0 0] 30)) := (Fr.refl _ _).alloc _
        have HGy := Lib.hid (HXG.out.trans hGy)
        have hxl : (hsteps P k mo j).length ≤ 1000000 := by rw [hsteps_length]; omega
        clear hGy
        go_wp2_with (at_builtin; refine wpList_append_run _ rfl _ _ 24 rfl u20 (.slice (some ⟨wx.heap.size, 0, none⟩) 2 2) rfl rfl (run_appendSteps2 u20 (hsteps P k mo j) sAsk (sPop M) (.slice none 0 0) (.slice none 0 0) wx.heap.size (HJ.out.1.grow HGy.out) (Blk.new wx _ _) hxl (rd_nil _) (rd_nil _)) ?_; rintro v9 w9 ⟨hS9, hF9, hK9, hf9⟩; obtain ⟨p8, c8, rfl, _⟩ := hS9.slice)
        go_roundg (gk - 1)
        case measure => omega
        case rel =>
          have n9 := app_next (HJ.out.2.1.trans HGy.out) (New.grow HJ.out.2.2 HGy.out) hF9 hf9
          have e1 : hsteps P k mo (j + 1) = hsteps P k mo j ++ [sAsk, sPop M] := by rw [hsteps_succ, HMo.out, List.append_assoc]; rfl
          exact ⟨j + 1, by omega, by go_num, Lib.hid ⟨by rw [e1]; simpa using hS9, n9.1, by simpa using n9.2⟩⟩
    · have hin : i < n := by omega
      obtain ⟨x, hx⟩ : ∃ x, l0[i]? = some x := ⟨_, List.getElem?_eq_getElem (by have := Hl0.out; omega)⟩
      obtain ⟨p', c', hv, hlc, hcm, hrd⟩ := HR0.out.keep HI.out.2.1.bytes
      injection hv with hv1 hv2 hv3
      subst hv1 hv3
      obtain ⟨b, o, rfl, hrb⟩ := hrd (fun e => by rw [e] at hx; simp at hx)
      have cb : wr.cell? ⟨b, o + i, none⟩ = some (.int .u8 (x.toNat : Int)) := hrb.2 i x hx
      have x0 : 0 ≤ (x.toNat : Int) := by omega
      have x1 : (x.toNat : Int) < 256 := by have := x.toNat_lt; omega
      have hbl := hrb.1.lt
      clear hrb hrd hv2
      have hG1 : Grow wr (wr.alloc (.cells #[.int .u8 (97 + (x.toNat : Int) % 26)] 5)) := (Fr.refl _ _).alloc _
      have hrow := own_row_n wr [UInt8.ofNat (97 + x.toNat % 26)] 1 rfl #[.int .u8 (97 + (x.toNat : Int) % 26)] (by rw [letter]; rfl) (by decide)
      have HRow := Lib.hid hrow
      have HG1 := Lib.hid (HI.out.2.1.trans hG1)
      have HN1 := Lib.hid (New.grow HI.out.2.2 hG1)
      have HO1 := Lib.hid (HI.out.1.keep (fun k hk => hG1.block k (HI.out.2.2 k hk).2 (fun e => e)))
      have hls5 : ls.length ≤ 59 := by omega
      have HLS := Lib.hid hls
      clear hG1 hrow hls hend hx
      go_wp2_with (at_builtin; refine wpList_appendB2 _ rfl _ _ rfl u13 (.slice (some ⟨wr.heap.size, 0, none⟩) 1 1) ls [UInt8.ofNat (97 + x.toNat % 26)] HO1.out HRow.out.rd (by simp; omega) rfl rfl ?_; intro v2 w2 hO2 hF2 hf2; have n2 := app_next HG1.out HN1.out hF2 hf2)
      go_roundg (gk - 1)
      case measure => omega
      case rel => exact ⟨i + 1, ls ++ [UInt8.ofNat (97 + x.toNat % 26)], by omega, by go_num, by rw [List.length_append, HLS.out]; rfl, Lib.hid ⟨hO2, n2⟩⟩
end Go.Proofs.YtdhhccpeikhilaaDoor
