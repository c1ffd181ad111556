/- The reference's ClientHello (laws.cyHello), walked. -/
import Derived.Test.YtdhhccpeikhilaaDoorJ3a
namespace Go.Proofs.YtdhhccpeikhilaaDoor
open Go.RowKit

set_option maxRecDepth 100000 in
set_option maxHeartbeats 4000000 in
theorem cyHello_any (w : World) (s : ByteArray) (host : List UInt8) (a c : Nat) (hs : s.data.toList = host) (ha : a < 256) (hc : c < 256) (hn : host.length ≤ 60) :
    Calls Tryd.prog 15 #[.string s, .int .u8 (a : Int), .int .u8 (c : Int)] w fun e w' => ∃ v', e = .returned (.tuple #[v', .int .i64 (namePos a : Int)]) ∧ Rd w' v' (hello host a c) ∧ Grow w w' ∧ (∀ k, v'.ownBlock = some k → w.heap.size ≤ k) := by
  have H := Lib.hid hs
  clear hs
  go_enter Tryd.func15, Tryd.ntmps15
  obtain ⟨ps, cs, W2, hcv, hRs, hGs⟩ := conv_string (w.alloc (.cells #[.int .u8 0] 5)) s host H.out (by omega)
  have hO0 := own_row w [0] #[.int .u8 0] rfl (by simp)
  have hG1 : Grow w W2 := ((Fr.refl _ w).alloc _).trans hGs
  have hO1 := hO0.grow hGs (.inl (by decide))
  have HO1 := Lib.hid hO1
  have HG1 := Lib.hid hG1
  have HRs := Lib.hid hRs
  clear hO0 hO1 hG1 hRs hGs
  go_upto_region 3 with (first
    | (go_at_call 22; refine (two_any _ _ host HRs.out (by omega)).mono ?_; rintro e w3 ⟨v3, rfl, hO3, hG3, hf3⟩)
    | (at_builtin; refine wpList_appendB2 _ rfl _ _ rfl (.slice (some ⟨w.heap.size, 0, none⟩) 1 1) _ [0] (twoB host) (HO1.out.grow hG3 (.inl (by decide))) hO3.rd (by simp; omega) rfl rfl ?_; intro v4 w4 hO4 hF4 hf4))
  have hn3 : ∀ k, v4.ownBlock = some k → w.heap.size ≤ k := fun k hk => by
    rcases hf4 k hk with e | e
    · exact Nat.le_of_eq (Option.some.inj e)
    · have := e.1; have := HG1.out.size; have := hG3.size; omega
  have hG4 : Grow w w4 := Grow.trans' (HG1.out.trans hG3) hF4 (fun k hk => Nat.le_of_eq (Option.some.inj hk))
  have HO4 := Lib.hid hO4
  have HN4 := Lib.hid hn3
  have HG4 := Lib.hid hG4
  clear hG4 hn3 hF4 hf4 hO4 hO3 hG3 hf3 hcv
  have hh0 : ([0] ++ twoB host).length = host.length + 3 := by simp
  have HH0 := Lib.hid hh0
  go_upto_if 24 with (go_at_call 22; refine (two_any _ _ ([0] ++ twoB host) HO4.out.rd (by simp; omega)).mono ?_; rintro e w5 ⟨v5, rfl, hO5, hG5, hf5⟩)
  have hG5' : Grow w w5 := HG4.out.trans hG5
  have HO5 := Lib.hid hO5
  have HG5 := Lib.hid hG5'
  have HL5 : Hid (∀ k, v5.ownBlock = some k → w.heap.size ≤ k ∧ k < w5.heap.size) := Lib.hid (fun k hk => ⟨by have := (hf5 k hk).1; have := HG4.out.size; omega, (hf5 k hk).2⟩)
  clear hO5 hG5 hG5' hf5 hh0
  go_cut [11] from 24 to 32 (fun s11 wx => Hid (OwnB wx s11 (aheadExt a) ∧ Grow w5 wx ∧ (∀ k, s11.ownBlock = some k → w5.heap.size ≤ k ∧ k < wx.heap.size)))
  case first =>
    rcases Nat.eq_zero_or_pos a with h0 | h0
    · subst h0
      go_wp2_with fail
      go_meet
      exact Lib.hid ⟨Own.nil _ 5 1, Fr.refl _ _, fun k hk => nomatch hk⟩
    · have h0' : (0 : Int) < (a : Int) := by omega
      go_upto_region 6 with fail
      obtain ⟨MV, MW, hmk, hMf, _⟩ := made a ha
      have HM := Lib.hid hMf
      clear hMf
      go_region_held3 (fun w' => True) (trivial)
        (first
          | (go_at_call 22; with_reducible refine (two_any _ _ (zeros a) (Rd.keep (HM.out _).1.rd (Grow.bytes (by repeat (first | exact Fr.refl _ _ | assumption | apply Fr.drew | apply Fr.alloc | refine Fr.trans ?_ (HM.out _).2 | refine Fr.trans ?_ (by assumption))))) (by simp; omega)).mono ?_; rintro e w7 ⟨v7, rfl, hO7, hG7, hf7⟩)
          | (refine step_appendB2 (by go_simp) _ _ (by rfl) (.slice none 0 0) _ [] [0, 45] (Own.nil _ 5 1) (Rd.keep (own_row_n _ [0, 45] 2 rfl _ rfl (by decide)).rd (Grow.bytes (by repeat (first | exact Fr.refl _ _ | assumption | apply Fr.drew | apply Fr.alloc | refine Fr.trans ?_ (HM.out _).2 | refine Fr.trans ?_ (by assumption))))) (by decide) (by rfl) (by rfl) ?_; intro v6 w6 hO6 hF6 hf6; have hG6 := Grow.trans' (Fr.refl _ _) hF6 (fun k hk => nomatch hk))
          | (refine step_appendB2 (by go_simp) _ _ (by rfl) v6 v7 [0, 45] (twoB (zeros a)) (Own.grow hO6 (by repeat (first | exact Fr.refl _ _ | assumption | apply Fr.drew | apply Fr.alloc | refine Fr.trans ?_ (HM.out _).2 | refine Fr.trans ?_ (by assumption))) (.inl (by decide))) (Rd.keep hO7.rd (Grow.bytes (by repeat (first | exact Fr.refl _ _ | assumption | apply Fr.drew | apply Fr.alloc | refine Fr.trans ?_ (HM.out _).2 | refine Fr.trans ?_ (by assumption))))) (by simp; omega) (by rfl) (by rfl) ?_; intro v8 w8 hO8 hF8 hf8))
      all_goals
        go_wp2_with fail
        go_meet
        have n6 := app_next (w0 := w5) (by repeat (first | exact Fr.refl _ _ | apply Fr.drew | apply Fr.alloc | refine Fr.trans ?_ (HM.out _).2)) (New.nil _ _) hF6 hf6
        have n8 := app_next (w0 := w5) (n6.1.trans (by repeat (first | exact Fr.refl _ _ | assumption | apply Fr.drew | apply Fr.alloc | refine Fr.trans ?_ (HM.out _).2 | refine Fr.trans ?_ (HBd.out _).2 | refine Fr.trans ?_ (by assumption)))) (New.grow n6.2 (by repeat (first | exact Fr.refl _ _ | assumption | apply Fr.drew | apply Fr.alloc | refine Fr.trans ?_ (HM.out _).2 | refine Fr.trans ?_ (HBd.out _).2 | refine Fr.trans ?_ (by assumption)))) hF8 hf8
        refine Lib.hid ⟨?_, n8⟩
        have e : aheadExt a = [0, 45] ++ twoB (zeros a) := by rw [zeros_two]; unfold aheadExt; rw [if_pos h0]; rfl
        rw [e]
        exact hO8
  case rest =>
  have hO6 := hcut.out.1
  have hN6 := hcut.out.2.2
  have hG6 := hcut.out.2.1
  have hN6' : ∀ k, u11.ownBlock = some k → w.heap.size ≤ k ∧ k < wc.heap.size := fun k hk => ⟨by have := (hN6 k hk).1; have := HG5.out.size; omega, (hN6 k hk).2⟩
  have hO5 := HO5.out.grow hG6 (.inl (by simp))
  have hrow := own_row_n wc [0, 0] 2 rfl #[.int .u8 0, .int .u8 0] rfl (by decide)
  have hGr : Grow wc (wc.alloc (.cells #[.int .u8 0, .int .u8 0] 5)) := (Fr.refl _ _).alloc _
  have hG6w : Grow w wc := HG5.out.trans hG6
  have HO6 : Hid (OwnB (wc.alloc (.cells #[.int .u8 0, .int .u8 0] 5)) u11 (aheadExt a)) := Lib.hid (hO6.keep (fun k hk => hGr.block k (hN6 k hk).2 (fun e => e)))
  have HO5b : Hid (Rd (wc.alloc (.cells #[.int .u8 0, .int .u8 0] 5)) v5 (twoB ([0] ++ twoB host))) := Lib.hid (hO5.rd.keep hGr.bytes)
  have HRow := Lib.hid hrow
  have HN6 := Lib.hid (New.grow hN6' hGr)
  have HG6 := Lib.hid (hG6w.trans hGr)
  have h5n : ∀ k, v5.ownBlock = some k → ¬ (u11.ownBlock = some k) := fun k hk e => by have := (hN6 k e).1; have := (HL5.out k hk).2; omega
  have H5N := Lib.hid h5n
  have hA : (aheadExt a).length ≤ 259 := by rw [aheadExt_length]; unfold aheadLen; split <;> omega
  have HA := Lib.hid hA
  obtain ⟨L8, hL8⟩ : ∃ L8, L8 = aheadLen a + (host.length + 9) := ⟨_, rfl⟩
  have hl8 : (aheadExt a ++ [0, 0] ++ twoB (twoB ([0] ++ twoB host))).length = L8 := by rw [hL8, List.length_append, List.length_append, aheadExt_length]; simp; omega
  have hAl : aheadLen a ≤ 259 := by unfold aheadLen; split <;> omega
  obtain ⟨m, hm⟩ : ∃ m, m = host.length := ⟨_, rfl⟩
  have hsz : s.size = m := by rw [hm, ← H.out]; exact Array.length_toList.symm
  have hm8 : m + 9 ≤ L8 := by omega
  have hL8b : L8 ≤ 400 := by omega
  have HLL := Lib.hid hl8
  have HL8e := Lib.hid hL8
  have Hme := Lib.hid hm
  clear hO6 hN6 hG6 hN6' hO5 hrow hGr hG6w h5n hA hcut hl8 hL8 hAl hm
  go_upto_region 9 with (first
    | (at_builtin; refine wpList_appendB2 _ rfl _ _ rfl u11 (.slice (some ⟨wc.heap.size, 0, none⟩) 2 2) (aheadExt a) [0, 0] HO6.out HRow.out.rd (by have := HA.out; simp; omega) rfl rfl ?_; intro v6 w6 hO6 hF6 hf6; have n6 := app_next HG6.out HN6.out hF6 hf6; have hR5 := HO5b.out.avoid hF6 (fun k hk _ e => H5N.out k e hk))
    | (go_at_call 22; refine (two_any _ _ (twoB ([0] ++ twoB host)) hR5 (by simp; omega)).mono ?_; rintro e w7 ⟨v7, rfl, hO7, hG7, hf7⟩)
    | (at_builtin; refine wpList_appendB2 _ rfl _ _ rfl v6 v7 (aheadExt a ++ [0, 0]) (twoB (twoB ([0] ++ twoB host))) (hO6.grow hG7 (.inl (by simp))) hO7.rd (by have := HA.out; simp; omega) rfl rfl ?_; intro v8 w8 hO8 hF8 hf8; have n8 := app_next (n6.1.trans hG7) (New.grow n6.2 hG7) hF8 hf8; obtain ⟨p8, c8, rfl, hO8⟩ := hO8.int HLL.out))
  obtain ⟨E8, hE8⟩ : ∃ E8, E8 = aheadExt a ++ [0, 0] ++ twoB (twoB ([0] ++ twoB host)) := ⟨_, rfl⟩
  rw [← hE8] at hO8
  have hl8 : E8.length = L8 := by rw [hE8]; exact HLL.out
  have HE8 := Lib.hid hE8
  have HO8 := Lib.hid hO8
  have HG8 := Lib.hid n8.1
  have HN8 := Lib.hid n8.2
  have Hl8 := Lib.hid hl8
  have hlp : 0 < E8.length := by omega
  have HLP := Lib.hid hlp
  clear hO8 n8 hF8 hf8 hO7 hG7 hf7 hO6 hF6 hf6 n6 hR5 hsz hE8 hl8 hlp
  obtain ⟨MV, MW, hmk, hMf, hMn⟩ := made c hc
  have HM := Lib.hid hMf
  have HY : Hid (∀ x, Fr (fun k => (Value.slice p8 L8 c8).ownBlock = some k) w8 x → ∀ k, x.heap.size ≤ k → (Value.slice p8 L8 c8).ownBlock = some k → False) := Lib.hid (fun x hx k hk e => by have := (HN8.out k e).2; have := hx.size; omega)
  have HX : Hid (∀ x, Fr (fun k => (Value.slice p8 L8 c8).ownBlock = some k) w8 x → ∀ k, (MV x).ownBlock = some k → (Value.slice p8 L8 c8).ownBlock = some k → False) := Lib.hid (fun x hx k hk e => HY.out x hx k (hMn x k hk) e)
  clear hMf hMn
  go_region_held3 (fun w' => True) (trivial)
    (first
      | (go_at_call 22; with_reducible refine (two_any _ _ (zeros c) (Rd.avoid (S := fun k => (Value.slice p8 L8 c8).ownBlock = some k) (HM.out _).1.rd (by repeat (first | exact Fr.refl _ _ | assumption | apply Fr.drew | apply Fr.alloc | refine Fr.trans ?_ (Grow.to (HM.out _).2) | refine Fr.trans ?_ (by assumption) | refine Fr.trans ?_ (Grow.to (by assumption)))) (fun k hk _ e => HX.out _ (by repeat (first | exact Fr.refl _ _ | assumption | apply Fr.drew | apply Fr.alloc | refine Fr.trans ?_ (Grow.to (HM.out _).2) | refine Fr.trans ?_ (by assumption) | refine Fr.trans ?_ (Grow.to (by assumption)))) k e hk)) (by simp; omega)).mono ?_; rintro e w7 ⟨v7, rfl, hO7, hG7, hf7⟩; have n7 : ∀ k, v7.ownBlock = some k → (Value.slice p8 L8 c8).ownBlock = some k → False := fun k e hk => HY.out _ (by repeat (first | exact Fr.refl _ _ | assumption | apply Fr.drew | apply Fr.alloc | refine Fr.trans ?_ (Grow.to (HM.out _).2) | refine Fr.trans ?_ (by assumption) | refine Fr.trans ?_ (Grow.to (by assumption)))) k (hf7 k e).1 hk)
      | (refine step_appendB2 (by go_simp) _ _ (by rfl) (.slice p8 L8 c8) _ E8 [0, 51] (Own.grow HO8.out (by repeat (first | exact Fr.refl _ _ | assumption | apply Fr.drew | apply Fr.alloc | refine Fr.trans ?_ (HM.out _).2 | refine Fr.trans ?_ (HBd.out _).2 | refine Fr.trans ?_ (by assumption))) (.inl HLP.out)) (Rd.keep (own_row_n _ [0, 51] 2 rfl _ rfl (by decide)).rd (Grow.bytes (by repeat (first | exact Fr.refl _ _ | assumption | apply Fr.drew | apply Fr.alloc | refine Fr.trans ?_ (HM.out _).2 | refine Fr.trans ?_ (HBd.out _).2 | refine Fr.trans ?_ (by assumption))))) (by rw [Hl8.out]; simp; omega) (by rfl) (by rfl) ?_; intro v6 w6 hO6 hF6 hf6; have n6 := app_next (HG8.out.trans (by repeat (first | exact Fr.refl _ _ | assumption | apply Fr.drew | apply Fr.alloc | refine Fr.trans ?_ (HM.out _).2 | refine Fr.trans ?_ (HBd.out _).2 | refine Fr.trans ?_ (by assumption)))) (New.grow HN8.out (by repeat (first | exact Fr.refl _ _ | assumption | apply Fr.drew | apply Fr.alloc | refine Fr.trans ?_ (HM.out _).2 | refine Fr.trans ?_ (HBd.out _).2 | refine Fr.trans ?_ (by assumption)))) hF6 hf6)
      | (refine step_appendB2 (by go_simp) _ _ (by rfl) v6 v7 (E8 ++ [0, 51]) (twoB (zeros c)) (Own.grow hO6 (by repeat (first | exact Fr.refl _ _ | assumption | apply Fr.drew | apply Fr.alloc | refine Fr.trans ?_ (HM.out _).2 | refine Fr.trans ?_ (HBd.out _).2 | refine Fr.trans ?_ (by assumption))) (.inl (by simp))) (Rd.avoid (S := fun k => (Value.slice p8 L8 c8).ownBlock = some k) hO7.rd (by repeat (first | exact Fr.refl _ _ | assumption | apply Fr.drew | apply Fr.alloc | refine Fr.trans ?_ (Grow.to (HM.out _).2) | refine Fr.trans ?_ (by assumption) | refine Fr.trans ?_ (Grow.to (by assumption)))) (fun k hk _ e => n7 k e hk)) (by rw [List.length_append, Hl8.out]; simp; omega) (by rfl) (by rfl) ?_; intro v9 w9 hO9 hF9 hf9; have n9 := app_next (n6.1.trans (by repeat (first | exact Fr.refl _ _ | assumption | apply Fr.drew | apply Fr.alloc | refine Fr.trans ?_ (HM.out _).2 | refine Fr.trans ?_ (HBd.out _).2 | refine Fr.trans ?_ (by assumption)))) (New.grow n6.2 (by repeat (first | exact Fr.refl _ _ | assumption | apply Fr.drew | apply Fr.alloc | refine Fr.trans ?_ (HM.out _).2 | refine Fr.trans ?_ (HBd.out _).2 | refine Fr.trans ?_ (by assumption)))) hF9 hf9))
  all_goals
    have HG9 := Lib.hid n9.1
    have hO9a := hO9
    have HN9 := Lib.hid n9.2
    obtain ⟨X9, hX9⟩ : ∃ X9, X9 = E8 ++ [0, 51] ++ twoB (zeros c) := ⟨_, rfl⟩
    rw [← hX9] at hO9a
    have hXl : X9.length = L8 + (c + 4) := by rw [hX9, List.length_append, List.length_append, Hl8.out]; simp; omega
    obtain ⟨L9, hL9⟩ : ∃ L9, L9 = X9.length := ⟨_, rfl⟩
    have hL9b : L9 ≤ 700 := by omega
    have HX9 := Lib.hid hX9
    have HL9 := Lib.hid hL9.symm
    have hXlL : L9 = L8 + (c + 4) := by omega
    have HXL := Lib.hid hXlL
    obtain ⟨p9, c9, rfl, hO9b⟩ := hO9a.int hL9.symm
    have HO9 := Lib.hid hO9b
    have hrow3 := own_row_n w9 [3, 3] 2 rfl #[.int .u8 3, .int .u8 3] rfl (by decide)
    have HR3 := Lib.hid hrow3
    have HGa : Hid (Grow w9 (w9.alloc (.cells #[.int .u8 3, .int .u8 3] 5))) := Lib.hid ((Fr.refl _ _).alloc _)
    clear hO9 hO9a hO9b n9 n6 hX9 hXl hL9 hXlL hrow3 hmk hF6 hf6 hO6 hO7 hG7 hf7 n7 hF9 hf9
    go_upto_region 11 with (at_builtin; refine wpList_appendZ _ rfl _ _ rfl (some ⟨w9.heap.size, 0, none⟩) 2 2 32 [3, 3] HR3.out rfl (by omega) (by omega) rfl rfl ?_; intro v10 w10 hO10 hG10 hn10; obtain ⟨p10, c10, rfl, hO10⟩ := hO10.int (n := 34) (by simp))
    have hGb : Grow w9 w10 := HGa.out.trans hG10
    have n10 : ∀ k, (Value.slice p10 34 c10).ownBlock = some k → w9.heap.size ≤ k ∧ k < w10.heap.size := fun k hk => ⟨by have := (hn10 k hk).1; have := HGa.out.size; omega, (hn10 k hk).2⟩
    have hGc : Grow w10 (w10.alloc (.cells #[.int .u8 0, .int .u8 0, .int .u8 2, .int .u8 19, .int .u8 1, .int .u8 1, .int .u8 0] 5)) := (Fr.refl _ _).alloc _
    have hrow7 := own_row_n w10 [0, 0, 2, 19, 1, 1, 0] 7 rfl #[.int .u8 0, .int .u8 0, .int .u8 2, .int .u8 19, .int .u8 1, .int .u8 1, .int .u8 0] rfl (by decide)
    have HO10 := Lib.hid (hO10.grow hGc (.inl (by simp)))
    have HR7 := Lib.hid hrow7.rd
    have HN10 := Lib.hid (New.grow n10 hGc)
    have HGc := Lib.hid (hGb.trans hGc)
    clear hGb n10 hGc hrow7 hO10 hn10 hG10
    go_upto_region 12 with (at_builtin; refine wpList_appendB2 _ rfl _ _ rfl (.slice p10 34 c10) _ ([3, 3] ++ zeros 32) [0, 0, 2, 19, 1, 1, 0] HO10.out HR7.out (by simp) rfl rfl ?_; intro v11 w11 hO11 hF11 hf11; have n11 := app_next HGc.out HN10.out hF11 hf11; obtain ⟨p11, c11, rfl, hO11⟩ := hO11.int (n := 41) (by simp))
    have HO11 := Lib.hid hO11
    have HN11 := Lib.hid n11.2
    have HG11 := Lib.hid n11.1
    have HR9 := Lib.hid (HO9.out.rd.keep n11.1.bytes)
    obtain ⟨B7, hB7⟩ : ∃ B7, B7 = [3, 3] ++ zeros 32 ++ [(0 : UInt8), 0, 2, 19, 1, 1, 0] := ⟨_, rfl⟩
    have hB7l : B7.length = 41 := by rw [hB7]; simp
    have hO11c := HO11.out
    rw [← hB7] at hO11c
    have HO11c := Lib.hid hO11c
    have HB7 := Lib.hid hB7
    have HB7l := Lib.hid hB7l
    clear hO11 n11 hF11 hf11 hB7 hB7l hO11c
    obtain ⟨M9, hM9⟩ : ∃ M9, M9 = L9 + 43 := ⟨_, rfl⟩
    have hM9b : M9 ≤ 1000 := by omega
    have HM9 := Lib.hid hM9
    clear hM9
    go_upto_region 14 with (first
      | (go_at_call 22; with_reducible refine (two_any _ _ X9 HR9.out (by rw [HL9.out]; omega)).mono ?_; rintro e w12 ⟨v12, rfl, hO12, hG12, hf12⟩)
      | (at_builtin; refine wpList_appendB2 _ rfl _ _ rfl (.slice p11 41 c11) v12 B7 (twoB X9) (HO11c.out.grow hG12 (.inl (by rw [HB7l.out]; decide))) hO12.rd (by rw [HB7l.out]; simp; rw [HL9.out]; omega) rfl rfl ?_; intro v13 w13 hO13 hF13 hf13; have n13 := app_next (HG11.out.trans hG12) (New.grow HN11.out hG12) hF13 hf13; obtain ⟨p13, c13, rfl, hO13⟩ := hO13.int (n := M9) (by rw [List.length_append, HB7l.out]; simp; rw [HL9.out, HM9.out]; omega)))
    have hGd : Grow w13 (w13.alloc (.cells #[.int .u8 1, .int .u8 0, .int .u8 ((M9 : Int) / 256), .int .u8 ((M9 : Int) % 256)] 5)) := (Fr.refl _ _).alloc _
    have hrow4 := own_row_n w13 [1, 0, hb1 M9, hb2 M9] 4 rfl #[.int .u8 1, .int .u8 0, .int .u8 ((M9 : Int) / 256), .int .u8 ((M9 : Int) % 256)] (by rw [hb1_val _ (by omega), hb2_val]; rfl) (by decide)
    have HR4 := Lib.hid hrow4
    have HR13 := Lib.hid (hO13.rd.keep hGd.bytes)
    have HG13 := Lib.hid (n13.1.trans hGd)
    have HN13 : Hid (∀ k, (Value.slice (some ⟨w13.heap.size, 0, none⟩) 4 4).ownBlock = some k → w9.heap.size ≤ k ∧ k < (w13.alloc (.cells #[.int .u8 1, .int .u8 0, .int .u8 ((M9 : Int) / 256), .int .u8 ((M9 : Int) % 256)] 5)).heap.size) := Lib.hid (fun k hk => by have e : w13.heap.size = k := Option.some.inj hk; have := n13.1.size; subst e; simp; omega)
    have HB13 : Hid ((B7 ++ twoB X9).length ≤ 900000) := Lib.hid (by rw [List.length_append, HB7l.out]; simp; rw [HL9.out]; omega)
    clear hGd hrow4 hO13 n13 hF13 hf13 hO12 hG12 hf12
    go_wp2_with (at_builtin; refine wpList_appendB2 _ rfl _ _ rfl (.slice (some ⟨w13.heap.size, 0, none⟩) 4 4) (.slice p13 M9 c13) [1, 0, hb1 M9, hb2 M9] (B7 ++ twoB X9) HR4.out HR13.out (by have := HB13.out; simp only [List.length_cons, List.length_nil]; omega) rfl rfl ?_; intro v14 w14 hO14 hF14 hf14; have n14 := app_next HG13.out HN13.out hF14 hf14)
    go_ret2
    have hh : [1, 0, hb1 M9, hb2 M9] ++ (B7 ++ twoB X9) = hello host a c := by
      rw [HM9.out, HB7.out]
      exact hello_built host a c X9 L9 (by rw [HX9.out, HE8.out]; exact exts_built host a c) HL9.out
    have hO14b := hO14.rd
    rw [hh] at hO14b
    refine ⟨v14, ?_, hO14b, HG9.out.trans n14.1, fun k hk => by have := (n14.2 k hk).1; have := HG9.out.size; omega⟩
    have e : (L8 : Int) - (m : Int) + 47 = (namePos a : Int) := by
      have h1 := HL8e.out
      have h2 := Hme.out
      have h3 : namePos a = 56 + aheadLen a := rfl
      omega
    exact congrArg (fun z => Ending.returned (.tuple #[v14, .int .i64 z])) e
end Go.Proofs.YtdhhccpeikhilaaDoor
