/- findSNIAndECH on a whole ClientHello. -/
import Derived.Test.YtdhhccpeikhilaaDoorH0
namespace Go.Proofs.YtdhhccpeikhilaaDoor
open Go.RowKit

theorem u16_cells (w : World) (b o n c : Nat) (x y : UInt8) (V : Int) (hV : ((x.toNat * 256 + y.toNat : Nat) : Int) = V) (h1 : 2 ≤ n) (hlt : b < w.heap.size) (c0 : w.cell? ⟨b, o, none⟩ = some (u8 x)) (c1 : w.cell? ⟨b, o + 1, none⟩ = some (u8 y)) :
    Calls Tryd.prog 59 #[.agg #[], .slice (some ⟨b, o, none⟩) n c] w fun e w' => e = .returned (.int .u16 V) ∧ Grow w w' := by
  subst hV
  have i0 : (0 : Int) < (n : Int) := by omega
  have i1 : (1 : Int) < (n : Int) := by omega
  have x1 : (x.toNat : Int) < 256 := by have := x.toNat_lt; omega
  have y1 : (y.toNat : Int) < 256 := by have := y.toNat_lt; omega
  have x0 : 0 ≤ (x.toNat : Int) := by omega
  have y0 : 0 ≤ (y.toNat : Int) := by omega
  go_enter Tryd.func59, Tryd.ntmps59
  go_upto_region 2 with fail
  go_quiet (fail)
  go_wp2_with fail
  go_ret
  refine ⟨?_, ((Fr.refl _ w).alloc _).trans (drewN_grow _ nq)⟩
  have h16 := or16 x.toNat y.toNat (by omega) (by omega)
  exact congrArg (fun z => Ending.returned (.int .u16 z)) h16

set_option maxRecDepth 100000 in
set_option maxHeartbeats 4000000 in
theorem find_whole (w : World) (v : Value) (host : List UInt8) (a c : Nat) (h : Rd w v (hello host a c)) (ha : a < 256) (hc : c < 256) (hn : host.length ≤ 60) (hn0 : 0 < host.length) :
    Calls Tryd.prog 50 #[v] w fun e w' => e = .returned (.tuple #[.int .i64 (namePos a : Int), .int .i64 (host.length : Int), .int .i64 (-1), .nilIface]) ∧ Grow w w' := by
  have hA : aheadLen a ≤ 259 := by unfold aheadLen; split <;> omega
  have hE : extsLen host.length a c = aheadLen a + (host.length + 9) + (c + 4) := rfl
  obtain ⟨E, hEE⟩ : ∃ E, E = extsLen host.length a c := ⟨_, rfl⟩
  rw [← hEE] at hE
  obtain ⟨p, cp, rfl, h1, h2, h3⟩ := h
  obtain ⟨b, o, rfl, hr⟩ := h3 (fun e => by have := congrArg List.length e; rw [hello_length] at this; simp at this)
  have hlt := hr.1.lt
  have c0 : w.cell? ⟨b, o, none⟩ = some (.int .u8 1) := hr.2 0 1 rfl
  have c1 : w.cell? ⟨b, o + 1, none⟩ = some (.int .u8 0) := hr.2 1 0 rfl
  obtain ⟨hi, hhi⟩ : ∃ x : UInt8, x = hb1 (E + 43) := ⟨_, rfl⟩
  obtain ⟨lo, hlo⟩ : ∃ x : UInt8, x = hb2 (E + 43) := ⟨_, rfl⟩
  have c2 : w.cell? ⟨b, o + 2, none⟩ = some (.int .u8 (hi.toNat : Int)) := hr.2 2 hi (by rw [hhi, hEE]; rfl)
  have c3 : w.cell? ⟨b, o + 3, none⟩ = some (.int .u8 (lo.toNat : Int)) := hr.2 3 lo (by rw [hlo, hEE]; rfl)
  have hv43 := hb_val (E + 43) (by omega)
  rw [← hhi, ← hlo] at hv43
  have c38 : w.cell? ⟨b, o + 38, none⟩ = some (.int .u8 0) := hr.2 38 0 rfl
  have c39 : w.cell? ⟨b, o + 39, none⟩ = some (u8 0) := hr.2 39 0 rfl
  have c40 : w.cell? ⟨b, o + 40, none⟩ = some (u8 2) := hr.2 40 2 rfl
  have c43 : w.cell? ⟨b, o + 43, none⟩ = some (.int .u8 1) := hr.2 43 1 rfl
  have c45 : w.cell? ⟨b, o + 45, none⟩ = some (u8 (hb1 E)) := hr.2 45 _ (by rw [hEE]; rfl)
  have c46 : w.cell? ⟨b, o + 46, none⟩ = some (u8 (hb2 E)) := hr.2 46 _ (by rw [hEE]; rfl)
  have hvE := hb_val E (by omega)
  have hce : ∀ (i : Nat) (x : UInt8), (exts host a c)[i]? = some x → w.cell? ⟨b, o + 47 + i, none⟩ = some (u8 x) := fun i x hx => by
    rw [Nat.add_assoc]; exact hr.2 (47 + i) x (by rw [hello_ext]; exact hx)
  have hw39 : ∀ w', Grow w w' → b < w'.heap.size ∧ w'.cell? ⟨b, o + 39, none⟩ = some (u8 0) ∧ w'.cell? ⟨b, o + 40, none⟩ = some (u8 2) ∧ w'.cell? ⟨b, o + 45, none⟩ = some (u8 (hb1 E)) ∧ w'.cell? ⟨b, o + 46, none⟩ = some (u8 (hb2 E)) ∧ w'.cell? ⟨b, o + 43, none⟩ = some (.int .u8 1) ∧
      ∀ (i : Nat) (x : UInt8), (exts host a c)[i]? = some x → w'.cell? ⟨b, o + 47 + i, none⟩ = some (u8 x) :=
    fun w' hg => ⟨Nat.lt_of_lt_of_le hlt hg.size, (hg.cell hlt).trans c39, (hg.cell hlt).trans c40, (hg.cell hlt).trans c45, (hg.cell hlt).trans c46, (hg.cell hlt).trans c43, fun i x hx => (hg.cell hlt).trans (hce i x hx)⟩
  have HW := Lib.hid hw39
  have HE := Lib.hid hE
  have HVE := Lib.hid hvE
  obtain ⟨n, hnl⟩ : ∃ n, n = (hello host a c).length := ⟨_, rfl⟩
  have hn47 : n = 47 + E := by rw [hnl, hello_length, ← hEE]
  rw [← hnl] at h1 ⊢
  have x1 : (hi.toNat : Int) < 256 := by have := hi.toNat_lt; omega
  have y1 : (lo.toNat : Int) < 256 := by have := lo.toNat_lt; omega
  have x0 : 0 ≤ (hi.toNat : Int) := by omega
  have y0 : 0 ≤ (lo.toNat : Int) := by omega
  have e1 := or64a hi.toNat (by omega)
  have e2 := or64b hi.toNat lo.toNat (by omega) (by omega)
  have hq2 : ((hi.toNat : Int) * 256 + (lo.toNat : Int)) = (E : Int) + 43 := by omega
  have HQ := Lib.hid hq2
  have HN47 := Lib.hid hn47
  have hn1 : n ≤ 47 + E := by omega
  have hn2 : 47 + E ≤ n := by omega
  have hEb : E ≤ 700 := by omega
  have hE13 : 13 ≤ E := by omega
  have k0 : (0 : Int) < (n : Int) := by omega
  have k1 : (1 : Int) < (n : Int) := by omega
  have k2 : (2 : Int) < (n : Int) := by omega
  have k3 : (3 : Int) < (n : Int) := by omega
  have k38 : (38 : Int) < (n : Int) := by omega
  have k43 : (43 : Int) < (n : Int) := by omega
  clear hce hw39 hE hvE hnl hn47 c39 c40 c45 c46 hhi hlo hEE h3 hr hv43 hq2
  go_enter Tryd.func50, Tryd.ntmps50
  go_upto_region 5 with fail
  go_quiet (fail)
  clear e1 e2 c0 c1 c2 c3
  rw [HQ.out]
  go_wp2_with fail
  have hG1 := drewN_grow w nq
  clear c38 c43
  generalize w.drewN nq = w1 at *
  have s39 : (39 : Int) ≤ (n : Int) := by omega
  have d39 : ¬ (cp = 39) := by omega
  have w2 : IntKind.i64.wrap 2 = 2 := by decide
  go_region_held3 (fun w' => True) (trivial)
    (first | (go_at_call 59; with_reducible refine (u16_cells _ b _ _ _ 0 2 2 rfl (by omega) (HW.out _ (by repeat (first | exact Fr.refl _ _ | assumption | apply Fr.drew | apply Fr.alloc | refine Fr.trans ?_ (by assumption)))).1 (HW.out _ (by repeat (first | exact Fr.refl _ _ | assumption | apply Fr.drew | apply Fr.alloc | refine Fr.trans ?_ (by assumption)))).2.1 (HW.out _ (by repeat (first | exact Fr.refl _ _ | assumption | apply Fr.drew | apply Fr.alloc | refine Fr.trans ?_ (by assumption)))).2.2.1).mono ?_; rintro e w3 ⟨rfl, hG3⟩))
  clear s39 d39 w2
  have hG4 : Grow w w3 := (by repeat (first | exact Fr.refl _ _ | assumption | apply Fr.drew | apply Fr.alloc | refine Fr.trans ?_ (by assumption)))
  clear hG3 hG1
  have c43 : w3.cell? ⟨b, o + 43, none⟩ = some (.int .u8 1) := (HW.out w3 hG4).2.2.2.2.2.1
  go_wp2_with fail
  clear c43
  have s45 : (45 : Int) ≤ (n : Int) := by omega
  have d45 : ¬ (cp = 45) := by omega
  have wE : IntKind.i64.wrap (E : Int) = (E : Int) := IntWalk.i64_in _ (by omega)
  have HVE2 : Hid ((((hb1 E).toNat * 256 + (hb2 E).toNat : Nat) : Int) = (E : Int)) := Lib.hid (by rw [HVE.out])
  go_region_held3 (fun w' => True) (trivial)
    (first | (go_at_call 59; with_reducible refine (u16_cells _ b _ _ _ (hb1 E) (hb2 E) E HVE2.out (by omega) (HW.out _ (by repeat (first | exact Fr.refl _ _ | assumption | apply Fr.drew | apply Fr.alloc | refine Fr.trans ?_ (by assumption)))).1 (HW.out _ (by repeat (first | exact Fr.refl _ _ | assumption | apply Fr.drew | apply Fr.alloc | refine Fr.trans ?_ (by assumption)))).2.2.2.1 (HW.out _ (by repeat (first | exact Fr.refl _ _ | assumption | apply Fr.drew | apply Fr.alloc | refine Fr.trans ?_ (by assumption)))).2.2.2.2.1).mono ?_; rintro e w4 ⟨rfl, hG5⟩))
  clear s45 d45 wE HVE2
  have hG6 : Grow w w4 := (by repeat (first | exact Fr.refl _ _ | assumption | apply Fr.drew | apply Fr.alloc | refine Fr.trans ?_ (by assumption)))
  clear hG5 hG4
  have d47 : ¬ (cp = 47) := by omega
  have s47a : (47 : Int) ≤ 47 + (E : Int) := by omega
  have s47b : 47 + (E : Int) ≤ (cp : Int) := by omega
  go_wp2_with fail
  clear d47 s47a s47b
  have hEE : 47 + E - 47 = E := by omega
  rw [hEE]
  clear hEE
  generalize hA0 : aheadLen a = A at *
  generalize hn00 : host.length = m at *
  have HA0 := Lib.hid hA0
  have Hm := Lib.hid hn00
  clear hA0 hn00
  go_loopg [2, 3, 4, 14] 3 (fun k s2 s3 s4 s14 wr => ∃ (st P sl : Nat) (sp : Int), 3 ≤ k + st ∧ s14 = .int .i64 (P : Int) ∧ s2 = .int .i64 sp ∧ s3 = .int .i64 (sl : Int) ∧ s4 = .int .i64 (-1) ∧ Hid (Grow w wr ∧ ((st = 0 ∧ 0 < a ∧ P = 0 ∧ sp = -1 ∧ sl = 0) ∨ (st = 1 ∧ P = A ∧ sp = -1 ∧ sl = 0) ∨ (st = 2 ∧ P = A + (m + 9) ∧ sp = ((56 + A : Nat) : Int) ∧ sl = m) ∨ (st = 3 ∧ P = E ∧ sp = ((56 + A : Nat) : Int) ∧ sl = m))))
  case atStart =>
    rcases Nat.eq_zero_or_pos a with h0 | h0
    · exact ⟨1, 0, 0, -1, by omega, rfl, rfl, rfl, rfl, Lib.hid ⟨hG6, .inr (.inl ⟨rfl, by rw [← HA0.out, h0]; rfl, rfl, rfl⟩)⟩⟩
    · exact ⟨0, 0, 0, -1, by omega, rfl, rfl, rfl, rfl, Lib.hid ⟨hG6, .inl ⟨rfl, h0, rfl, rfl, rfl⟩⟩⟩
  case round =>
    obtain ⟨st, P, sl, sp, hk, rfl, rfl, rfl, rfl, HJ⟩ := hrel
    obtain ⟨hG7, hcase⟩ := HJ.out
    clear HJ
    rcases hcase with ⟨h0, h1, h2, h3, h4⟩ | ⟨h0, h2, h3, h4⟩ | ⟨h0, h2, h3, h4⟩ | ⟨h0, h2, h3, h4⟩
    · have hA4 : A = 4 + a := by rw [← HA0.out]; exact if_pos h1
      have hPb : P ≤ 0 := by omega
      have hE := HE.out
      have hPE2 : P + 4 + a ≤ E := by omega
      have HP := Lib.hid h2
      have HA4 := Lib.hid hA4
      have HSL := Lib.hid h4
      subst h3
      have Hst := Lib.hid h0
      clear h0 h2 hA4 h4 hE
      have hP4 : (P : Int) + 4 ≤ (E : Int) := by omega
      have hPL : ¬ ((E : Int) < (P : Int) + 4 + (a : Int)) := by omega
      have hPE : (P : Int) ≤ (E : Int) := by omega
      have hP0 : (0 : Int) ≤ (P : Int) := by omega
      have hP2 : (P : Int) + 2 ≤ (E : Int) := by omega
      have hP20 : (0 : Int) ≤ (P : Int) + 2 := by omega
      have hcp : ¬ (cp - 47 = P) := by omega
      have hcp2 : ¬ (cp - 47 = P + 2) := by omega
      have hlE : P + 4 ≤ E := by omega
      have q0 : ∀ w', Grow w w' → w'.cell? ⟨b, o + 47 + P, none⟩ = some (u8 0) := fun w' hg => by have h := (HW.out w' hg).2.2.2.2.2.2 (P + 0) 0 (by rw [HP.out, exts_ahead _ _ _ _ (by rw [HA0.out, HA4.out]; omega)]; unfold aheadExt; rw [if_pos h1]; rfl); simpa [Nat.add_assoc] using h
      have q1 : ∀ w', Grow w w' → w'.cell? ⟨b, o + 47 + (P + 1), none⟩ = some (u8 45) := fun w' hg => by have h := (HW.out w' hg).2.2.2.2.2.2 (P + 1) 45 (by rw [HP.out, exts_ahead _ _ _ _ (by rw [HA0.out, HA4.out]; omega)]; unfold aheadExt; rw [if_pos h1]; rfl); simpa [Nat.add_assoc] using h
      have q2 : ∀ w', Grow w w' → w'.cell? ⟨b, o + 47 + (P + 2), none⟩ = some (u8 (hb1 a)) := fun w' hg => by have h := (HW.out w' hg).2.2.2.2.2.2 (P + 2) (hb1 a) (by rw [HP.out, exts_ahead _ _ _ _ (by rw [HA0.out, HA4.out]; omega)]; unfold aheadExt; rw [if_pos h1]; rfl); simpa [Nat.add_assoc] using h
      have q3 : ∀ w', Grow w w' → w'.cell? ⟨b, o + 47 + (P + 3), none⟩ = some (u8 (hb2 a)) := fun w' hg => by have h := (HW.out w' hg).2.2.2.2.2.2 (P + 3) (hb2 a) (by rw [HP.out, exts_ahead _ _ _ _ (by rw [HA0.out, HA4.out]; omega)]; unfold aheadExt; rw [if_pos h1]; rfl); simpa [Nat.add_assoc] using h
      have Q0 := Lib.hid q0
      have Q1 := Lib.hid q1
      have Q2 := Lib.hid q2
      have Q3 := Lib.hid q3
      have HV : Hid ((((((hb1 a)).toNat * 256 + ((hb2 a)).toNat : Nat)) : Int) = (a : Int)) := Lib.hid (by rw [hb_val a (by omega)])
      clear q0 q1 q2 q3
      have wP : IntKind.i64.wrap ((P : Int) + 2) = (P : Int) + 2 := IntWalk.i64_in _ (by omega)
      have tP : ((P : Int) + 2).toNat = P + 2 := by omega
      have wL : IntKind.i64.wrap (a : Int) = (a : Int) := IntWalk.i64_in _ (by omega)
      have HwP := Lib.hid wP
      have HtP := Lib.hid tP
      have HwL := Lib.hid wL
      clear wP tP wL
      go_upto_region 48 with fail
      go_region_held3 (fun w' => True) (trivial)
        (first | (go_at_call 59; with_reducible refine (u16_cells _ b _ _ _ 0 45 45 rfl (by omega) (HW.out _ (by repeat (first | exact Fr.refl _ _ | assumption | apply Fr.drew | apply Fr.alloc | refine Fr.trans ?_ (by assumption)))).1 (Q0.out _ (by repeat (first | exact Fr.refl _ _ | assumption | apply Fr.drew | apply Fr.alloc | refine Fr.trans ?_ (by assumption)))) (Q1.out _ (by repeat (first | exact Fr.refl _ _ | assumption | apply Fr.drew | apply Fr.alloc | refine Fr.trans ?_ (by assumption))))).mono ?_; rintro e w8 ⟨rfl, hG8a⟩))
      have hG8 : Grow w w8 := (by repeat (first | exact Fr.refl _ _ | assumption | apply Fr.drew | apply Fr.alloc | refine Fr.trans ?_ (by assumption)))
      clear hG8a hG7
      have wP := HwP.out
      have tP := HtP.out
      have wL := HwL.out
      go_upto_region 49 with fail
      go_region_held3 (fun w' => True) (trivial)
        (first | (go_at_call 59; with_reducible refine (u16_cells _ b _ _ _ (hb1 a) (hb2 a) a HV.out (by omega) (HW.out _ (by repeat (first | exact Fr.refl _ _ | assumption | apply Fr.drew | apply Fr.alloc | refine Fr.trans ?_ (by assumption)))).1 (Q2.out _ (by repeat (first | exact Fr.refl _ _ | assumption | apply Fr.drew | apply Fr.alloc | refine Fr.trans ?_ (by assumption)))) (Q3.out _ (by repeat (first | exact Fr.refl _ _ | assumption | apply Fr.drew | apply Fr.alloc | refine Fr.trans ?_ (by assumption))))).mono ?_; rintro e w9 ⟨rfl, hG9a⟩))
      have hG9 : Grow w w9 := (by repeat (first | exact Fr.refl _ _ | assumption | apply Fr.drew | apply Fr.alloc | refine Fr.trans ?_ (by assumption)))
      clear hG9a hG8 wP tP wL
      have ne1 : ¬ ((a : Int) < 0) := by omega
      go_wp2_with fail
      go_roundg (gk - 1)
      case measure => have := Hst.out; omega
      case rel => exact ⟨1, P + (4 + a), sl, -1, by have := Hst.out; omega, by go_num, rfl, rfl, rfl, Lib.hid ⟨hG9, .inr (.inl ⟨rfl, by rw [HP.out, HA4.out]; omega, rfl, HSL.out⟩)⟩⟩
    · have hE := HE.out
      obtain ⟨L5, hL5⟩ : ∃ x, x = m + 5 := ⟨_, rfl⟩
      obtain ⟨L3, hL3⟩ : ∃ x, x = m + 3 := ⟨_, rfl⟩
      have hPE2 : P + 4 + L5 ≤ E := by omega
      have hPE3 : P + 4 + L5 + (c + 4) ≤ E := by omega
      have hm1 := Hm.out
      have HP := Lib.hid h2
      have HSL := Lib.hid h4
      have Hst := Lib.hid h0
      have hb5 := hb_val L5 (by omega)
      have hb3 := hb_val L3 (by omega)
      have hb0 := hb_val m (by omega)
      have hL5a : L5 ≤ m + 5 := by omega
      have hL5b : m + 5 ≤ L5 := by omega
      have hL3a : L3 ≤ m + 3 := by omega
      have hL3b : m + 3 ≤ L3 := by omega
      have HL5 := Lib.hid hL5
      have HL3 := Lib.hid hL3
      clear h0 h2 h4 hE
      have HH : Hid (∀ w', Grow w w' → ∀ (i : Nat) (x : UInt8), i < m + 9 → (hostExt host)[i]? = some x → w'.cell? ⟨b, o + 47 + (P + i), none⟩ = some (u8 x)) := Lib.hid (fun w' hg i x hi hx => (HW.out w' hg).2.2.2.2.2.2 (P + i) x (by rw [HP.out, ← HA0.out, exts_host _ _ _ _ (by rw [hm1]; exact hi)]; exact hx))
      have HX5 : Hid (∀ w', Grow w w' → w'.cell? ⟨b, o + 47 + (P + 4), none⟩ = some (u8 (hb1 L3)) ∧ w'.cell? ⟨b, o + 47 + (P + 4) + 1, none⟩ = some (u8 (hb2 L3)) ∧ w'.cell? ⟨b, o + 47 + (P + 4) + 2, none⟩ = some (.int .u8 0) ∧ w'.cell? ⟨b, o + 47 + (P + 4) + 3, none⟩ = some (u8 (hb1 m)) ∧ w'.cell? ⟨b, o + 47 + (P + 4) + 3 + 1, none⟩ = some (u8 (hb2 m))) := Lib.hid (fun w' hg => ⟨HH.out w' hg 4 _ (by omega) (by rw [hL3, ← hm1]; rfl), HH.out w' hg 5 _ (by omega) (by rw [hL3, ← hm1]; rfl), HH.out w' hg 6 0 (by omega) rfl, HH.out w' hg 7 _ (by omega) (by rw [← hm1]; rfl), HH.out w' hg 8 _ (by omega) (by rw [← hm1]; rfl)⟩)
      have HB5 := Lib.hid hb5
      have HB3 := Lib.hid hb3
      have HB0 := Lib.hid hb0
      have HM := Lib.hid hm1
      clear hb5 hb3 hb0 hm1 hL5 hL3
      subst h3
      have hP4 : (P : Int) + 4 ≤ (E : Int) := by omega
      have hPL : ¬ ((E : Int) < (P : Int) + 4 + (L5 : Int)) := by omega
      have hPE : (P : Int) ≤ (E : Int) := by omega
      have hP0 : (0 : Int) ≤ (P : Int) := by omega
      have hP2 : (P : Int) + 2 ≤ (E : Int) := by omega
      have hP20 : (0 : Int) ≤ (P : Int) + 2 := by omega
      have hcp : ¬ (cp - 47 = P) := by omega
      have hcp2 : ¬ (cp - 47 = P + 2) := by omega
      have hlE : P + 4 ≤ E := by omega
      have q0 : ∀ w', Grow w w' → w'.cell? ⟨b, o + 47 + P, none⟩ = some (u8 0) := fun w' hg => by have h := (HW.out w' hg).2.2.2.2.2.2 (P + 0) 0 (by rw [HP.out, ← HA0.out, exts_host _ _ _ _ (by rw [HM.out]; omega)]; first | rfl | (rw [HL5.out, ← HM.out]; rfl)); simpa [Nat.add_assoc] using h
      have q1 : ∀ w', Grow w w' → w'.cell? ⟨b, o + 47 + (P + 1), none⟩ = some (u8 0) := fun w' hg => by have h := (HW.out w' hg).2.2.2.2.2.2 (P + 1) 0 (by rw [HP.out, ← HA0.out, exts_host _ _ _ _ (by rw [HM.out]; omega)]; first | rfl | (rw [HL5.out, ← HM.out]; rfl)); simpa [Nat.add_assoc] using h
      have q2 : ∀ w', Grow w w' → w'.cell? ⟨b, o + 47 + (P + 2), none⟩ = some (u8 (hb1 L5)) := fun w' hg => by have h := (HW.out w' hg).2.2.2.2.2.2 (P + 2) (hb1 L5) (by rw [HP.out, ← HA0.out, exts_host _ _ _ _ (by rw [HM.out]; omega)]; first | rfl | (rw [HL5.out, ← HM.out]; rfl)); simpa [Nat.add_assoc] using h
      have q3 : ∀ w', Grow w w' → w'.cell? ⟨b, o + 47 + (P + 3), none⟩ = some (u8 (hb2 L5)) := fun w' hg => by have h := (HW.out w' hg).2.2.2.2.2.2 (P + 3) (hb2 L5) (by rw [HP.out, ← HA0.out, exts_host _ _ _ _ (by rw [HM.out]; omega)]; first | rfl | (rw [HL5.out, ← HM.out]; rfl)); simpa [Nat.add_assoc] using h
      have Q0 := Lib.hid q0
      have Q1 := Lib.hid q1
      have Q2 := Lib.hid q2
      have Q3 := Lib.hid q3
      have HV : Hid ((((((hb1 L5)).toNat * 256 + ((hb2 L5)).toNat : Nat)) : Int) = (L5 : Int)) := Lib.hid (by rw [HB5.out])
      clear q0 q1 q2 q3
      have wP : IntKind.i64.wrap ((P : Int) + 2) = (P : Int) + 2 := IntWalk.i64_in _ (by omega)
      have tP : ((P : Int) + 2).toNat = P + 2 := by omega
      have wL : IntKind.i64.wrap (L5 : Int) = (L5 : Int) := IntWalk.i64_in _ (by omega)
      have HwP := Lib.hid wP
      have HtP := Lib.hid tP
      have HwL := Lib.hid wL
      clear wP tP wL
      go_upto_region 48 with fail
      go_region_held3 (fun w' => True) (trivial)
        (first | (go_at_call 59; with_reducible refine (u16_cells _ b _ _ _ 0 0 0 rfl (by omega) (HW.out _ (by repeat (first | exact Fr.refl _ _ | assumption | apply Fr.drew | apply Fr.alloc | refine Fr.trans ?_ (by assumption)))).1 (Q0.out _ (by repeat (first | exact Fr.refl _ _ | assumption | apply Fr.drew | apply Fr.alloc | refine Fr.trans ?_ (by assumption)))) (Q1.out _ (by repeat (first | exact Fr.refl _ _ | assumption | apply Fr.drew | apply Fr.alloc | refine Fr.trans ?_ (by assumption))))).mono ?_; rintro e w8 ⟨rfl, hG8a⟩))
      have hG8 : Grow w w8 := (by repeat (first | exact Fr.refl _ _ | assumption | apply Fr.drew | apply Fr.alloc | refine Fr.trans ?_ (by assumption)))
      clear hG8a hG7
      have wP := HwP.out
      have tP := HtP.out
      have wL := HwL.out
      go_upto_region 49 with fail
      go_region_held3 (fun w' => True) (trivial)
        (first | (go_at_call 59; with_reducible refine (u16_cells _ b _ _ _ (hb1 L5) (hb2 L5) L5 HV.out (by omega) (HW.out _ (by repeat (first | exact Fr.refl _ _ | assumption | apply Fr.drew | apply Fr.alloc | refine Fr.trans ?_ (by assumption)))).1 (Q2.out _ (by repeat (first | exact Fr.refl _ _ | assumption | apply Fr.drew | apply Fr.alloc | refine Fr.trans ?_ (by assumption)))) (Q3.out _ (by repeat (first | exact Fr.refl _ _ | assumption | apply Fr.drew | apply Fr.alloc | refine Fr.trans ?_ (by assumption))))).mono ?_; rintro e w9 ⟨rfl, hG9a⟩))
      have hG9 : Grow w w9 := (by repeat (first | exact Fr.refl _ _ | assumption | apply Fr.drew | apply Fr.alloc | refine Fr.trans ?_ (by assumption)))
      clear hG9a hG8 wP tP wL
      have hs1 : (P : Int) + 4 ≤ (P : Int) + 4 + (L5 : Int) := by omega
      have hs2 : (P : Int) + 4 + (L5 : Int) ≤ ((cp - 47 : Nat) : Int) := by omega
      have hs3 : ¬ (cp - 47 = P + 4) := by omega
      have hs4 : (0 : Int) ≤ (P : Int) + 4 := by omega
      have hs5 : ((P : Int) + 4).toNat = P + 4 := by omega
      have HX := HX5.out w9 hG9
      have HXa := Lib.hid HX.1
      have HXb := Lib.hid HX.2.1
      have HV3 : Hid ((((hb1 L3).toNat * 256 + (hb2 L3).toNat : Nat) : Int) = (L3 : Int)) := Lib.hid (by rw [HB3.out])
      have hlt9 := (HW.out w9 hG9).1
      clear HX
      go_wp2_with (go_at_call 59; with_reducible refine (u16_cells _ b _ _ _ (hb1 L3) (hb2 L3) L3 HV3.out (by omega) hlt9 HXa.out HXb.out).mono ?_; rintro e w10 ⟨rfl, hG10a⟩)
      have hG10 : Grow w w10 := (by repeat (first | exact Fr.refl _ _ | assumption | apply Fr.drew | apply Fr.alloc | refine Fr.trans ?_ (by assumption)))
      clear hG10a hG9 hs1 hs2 hs3 hs4 hs5 HXa HXb HV3 hlt9 hP4 hPL hPE hP2 hP20 hcp hcp2 hlE Q0 Q1 Q2 Q3 HV HwP HtP HwL
      obtain ⟨g0, rfl⟩ : ∃ g0, g0 = gk := ⟨gk, rfl⟩
      go_loopg [2, 3, 4, 19, 20] 1 (fun k s2 s3 s4 s19 s20 wr => s2 = .int .i64 (-1) ∧ s4 = .int .i64 (-1) ∧ s19 = .int .i64 2 ∧ wr = w10)
      case atStart => exact ⟨rfl, rfl, rfl, rfl⟩
      case round =>
        obtain ⟨rfl, rfl, rfl, rfl⟩ := hrel
        rename_i wi
        have HX := HX5.out wr hG10
        have z6 := HX.2.2.1
        have i2 : (2 : Int) < (L5 : Int) := by omega
        go_upto_region 65 with fail
        clear z6 i2
        have hs3 : (3 : Int) ≤ (L5 : Int) := by omega
        have hcp3 : ¬ (cp - 47 - (P + 4) = 3) := by omega
        have w3f : IntKind.i64.wrap 3 = 3 := by decide
        have wm : IntKind.i64.wrap (m : Int) = (m : Int) := IntWalk.i64_in _ (by omega)
        have HV4 : Hid ((((hb1 m).toNat * 256 + (hb2 m).toNat : Nat) : Int) = (m : Int)) := Lib.hid (by rw [HB0.out])
        clear HX
        go_region_held3 (fun w' => True) (trivial)
          (first | (go_at_call 59; with_reducible refine (u16_cells _ b _ _ _ (hb1 m) (hb2 m) m HV4.out (by omega) (HW.out _ (by repeat (first | exact Fr.refl _ _ | assumption | apply Fr.drew | apply Fr.alloc | refine Fr.trans ?_ (by assumption)))).1 (HX5.out _ (by repeat (first | exact Fr.refl _ _ | assumption | apply Fr.drew | apply Fr.alloc | refine Fr.trans ?_ (by assumption)))).2.2.2.1 (HX5.out _ (by repeat (first | exact Fr.refl _ _ | assumption | apply Fr.drew | apply Fr.alloc | refine Fr.trans ?_ (by assumption)))).2.2.2.2).mono ?_; rintro e w11 ⟨rfl, hG11a⟩))
        have hG11 : Grow w w11 := (by repeat (first | exact Fr.refl _ _ | assumption | apply Fr.drew | apply Fr.alloc | refine Fr.trans ?_ (by assumption)))
        clear hG11a hG10 hs3 hcp3 w3f wm HV4
        go_wp2_with fail
        go_roundg (g0 - 1)
        case measure => have := Hst.out; omega
        case rel => exact ⟨2, P + (4 + L5), m, _, by have := Hst.out; omega, by go_num, rfl, rfl, rfl, Lib.hid ⟨hG11, .inr (.inr (.inl ⟨rfl, by rw [HP.out, HL5.out]; omega, by have := HP.out; omega, rfl⟩))⟩⟩
    · have hE := HE.out
      have hPE2 : P + 4 + c ≤ E := by omega
      have HP := Lib.hid h2
      have HSL := Lib.hid h4
      have Hst := Lib.hid h0
      have HSP := Lib.hid h3
      have hsp : 56 ≤ sp := by omega
      have hsp2 : sp ≤ 400 := by omega
      clear h0 h2 h4 h3 hE
      have hP4 : (P : Int) + 4 ≤ (E : Int) := by omega
      have hPL : ¬ ((E : Int) < (P : Int) + 4 + (c : Int)) := by omega
      have hPE : (P : Int) ≤ (E : Int) := by omega
      have hP0 : (0 : Int) ≤ (P : Int) := by omega
      have hP2 : (P : Int) + 2 ≤ (E : Int) := by omega
      have hP20 : (0 : Int) ≤ (P : Int) + 2 := by omega
      have hcp : ¬ (cp - 47 = P) := by omega
      have hcp2 : ¬ (cp - 47 = P + 2) := by omega
      have hlE : P + 4 ≤ E := by omega
      have q0 : ∀ w', Grow w w' → w'.cell? ⟨b, o + 47 + P, none⟩ = some (u8 0) := fun w' hg => by have h := (HW.out w' hg).2.2.2.2.2.2 (P + 0) 0 (by rw [HP.out, ← Hm.out, ← HA0.out, exts_behind]; rfl); simpa [Nat.add_assoc] using h
      have q1 : ∀ w', Grow w w' → w'.cell? ⟨b, o + 47 + (P + 1), none⟩ = some (u8 51) := fun w' hg => by have h := (HW.out w' hg).2.2.2.2.2.2 (P + 1) 51 (by rw [HP.out, ← Hm.out, ← HA0.out, exts_behind]; rfl); simpa [Nat.add_assoc] using h
      have q2 : ∀ w', Grow w w' → w'.cell? ⟨b, o + 47 + (P + 2), none⟩ = some (u8 (hb1 c)) := fun w' hg => by have h := (HW.out w' hg).2.2.2.2.2.2 (P + 2) (hb1 c) (by rw [HP.out, ← Hm.out, ← HA0.out, exts_behind]; rfl); simpa [Nat.add_assoc] using h
      have q3 : ∀ w', Grow w w' → w'.cell? ⟨b, o + 47 + (P + 3), none⟩ = some (u8 (hb2 c)) := fun w' hg => by have h := (HW.out w' hg).2.2.2.2.2.2 (P + 3) (hb2 c) (by rw [HP.out, ← Hm.out, ← HA0.out, exts_behind]; rfl); simpa [Nat.add_assoc] using h
      have Q0 := Lib.hid q0
      have Q1 := Lib.hid q1
      have Q2 := Lib.hid q2
      have Q3 := Lib.hid q3
      have HV : Hid ((((((hb1 c)).toNat * 256 + ((hb2 c)).toNat : Nat)) : Int) = (c : Int)) := Lib.hid (by rw [hb_val c (by omega)])
      clear q0 q1 q2 q3
      have wP : IntKind.i64.wrap ((P : Int) + 2) = (P : Int) + 2 := IntWalk.i64_in _ (by omega)
      have tP : ((P : Int) + 2).toNat = P + 2 := by omega
      have wL : IntKind.i64.wrap (c : Int) = (c : Int) := IntWalk.i64_in _ (by omega)
      have HwP := Lib.hid wP
      have HtP := Lib.hid tP
      have HwL := Lib.hid wL
      clear wP tP wL
      go_upto_region 48 with fail
      go_region_held3 (fun w' => True) (trivial)
        (first | (go_at_call 59; with_reducible refine (u16_cells _ b _ _ _ 0 51 51 rfl (by omega) (HW.out _ (by repeat (first | exact Fr.refl _ _ | assumption | apply Fr.drew | apply Fr.alloc | refine Fr.trans ?_ (by assumption)))).1 (Q0.out _ (by repeat (first | exact Fr.refl _ _ | assumption | apply Fr.drew | apply Fr.alloc | refine Fr.trans ?_ (by assumption)))) (Q1.out _ (by repeat (first | exact Fr.refl _ _ | assumption | apply Fr.drew | apply Fr.alloc | refine Fr.trans ?_ (by assumption))))).mono ?_; rintro e w8 ⟨rfl, hG8a⟩))
      have hG8 : Grow w w8 := (by repeat (first | exact Fr.refl _ _ | assumption | apply Fr.drew | apply Fr.alloc | refine Fr.trans ?_ (by assumption)))
      clear hG8a hG7
      have wP := HwP.out
      have tP := HtP.out
      have wL := HwL.out
      go_upto_region 49 with fail
      go_region_held3 (fun w' => True) (trivial)
        (first | (go_at_call 59; with_reducible refine (u16_cells _ b _ _ _ (hb1 c) (hb2 c) c HV.out (by omega) (HW.out _ (by repeat (first | exact Fr.refl _ _ | assumption | apply Fr.drew | apply Fr.alloc | refine Fr.trans ?_ (by assumption)))).1 (Q2.out _ (by repeat (first | exact Fr.refl _ _ | assumption | apply Fr.drew | apply Fr.alloc | refine Fr.trans ?_ (by assumption)))) (Q3.out _ (by repeat (first | exact Fr.refl _ _ | assumption | apply Fr.drew | apply Fr.alloc | refine Fr.trans ?_ (by assumption))))).mono ?_; rintro e w9 ⟨rfl, hG9a⟩))
      have hG9 : Grow w w9 := (by repeat (first | exact Fr.refl _ _ | assumption | apply Fr.drew | apply Fr.alloc | refine Fr.trans ?_ (by assumption)))
      clear hG9a hG8 wP tP wL
      have ne1 : ¬ ((c : Int) < 0) := by omega
      go_wp2_with fail
      go_roundg (gk - 1)
      case measure => have := Hst.out; omega
      case rel => exact ⟨3, P + (4 + c), sl, sp, by have := Hst.out; omega, by go_num, rfl, rfl, rfl, Lib.hid ⟨hG9, .inr (.inr (.inr ⟨rfl, by have := HP.out; have := HE.out; omega, HSP.out, HSL.out⟩))⟩⟩
    · have HSL := Lib.hid h4
      have HSP := Lib.hid h3
      have hP4 : ¬ ((P : Int) + 4 ≤ (E : Int)) := by omega
      have hPb : P ≤ 700 := by omega
      clear h0 h2 h3 h4
      go_wp2_with fail
      refine bodyPost_ret (v := .tuple #[.int .i64 sp, .int .i64 (sl : Int), .int .i64 (-1), .nilIface]) (by simp [results, Tryd.results50, go_sem]) rfl ⟨?_, hG7⟩
      rw [HSP.out, HSL.out, ← Hm.out]
      unfold namePos
      rw [HA0.out]
end Go.Proofs.YtdhhccpeikhilaaDoor
