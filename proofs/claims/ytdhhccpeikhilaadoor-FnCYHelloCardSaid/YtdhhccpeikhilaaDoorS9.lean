/- The frame sorter's push, walked: a frame that starts and ends in one gap. -/
import Derived.Test.YtdhhccpeikhilaaDoorS8
import Derived.Deep.CutRange
import Derived.Deep.CutBlock
import Derived.Deep.LoopGhost
import Derived.BigQuiet
namespace Go.Proofs.YtdhhccpeikhilaaDoor
open Go.RowKit

set_option maxRecDepth 100000 in
set_option maxHeartbeats 8000000 in
theorem push_one (w : World) (bS r bL a n cap : Nat) (p : Option Addr) (gs : List Gap) (q : Q) (l : List UInt8) (c : Array Value) (T : TypeId) (g0 gi : Gap) (i : Nat) (inE : Bool)
    (H : PushIn w bS r bL a n cap p gs q l c T g0 gi gi i i inE) (hnd : ∀ d, q a = some d → d.length < n) :
    Calls Tryd.prog 56 #[pt bS, .slice p n cap, .int .i64 (a : Int), .nilFunc] w fun e w' => e = .returned .nilIface ∧ ∃ gs6 q6, Push1 w.heap.size gs q l a n gi i inE gs6 q6 ∧ gs6.length ≤ gs.length + 1 ∧ ListAt w' bL gs6 ∧ QAt w' r q6 ∧ Fr (pushS r bL gs) w w' := by
  have hbd := H.bounds
  obtain ⟨hS, h0, h2, hT, hT2, hT5, hL, hq, hok, hl, hn, hnp, ha, hlen, hg0, hfr, hs, hb, hi, hj, hnew⟩ := H
  have hgi := hi.1
  have hcapn : n ≤ cap ∧ cap ≤ 9223372036854775807 := by
    obtain ⟨p', c', e, h1, h2, _⟩ := hl
    injection e with e1 e2 e3
    omega
  have c0 := hS.cellAt 0 _ h0
  have c2 := hS.cellAt 2 _ h2
  have hnz : ((n : Int) == 0) = false := by simp; omega
  have f3 : w.cell? ⟨g0.b, 3, none⟩ = some (.int .i64 (g0.s : Int)) := (hL.node 0 g0 hg0).cellAt 3 _ rfl
  have hfr' : ¬ ((a : Int) + (n : Int) ≤ (g0.s : Int)) := by omega
  have heq := eqlGap hL hgi hgi
  have si3 : w.cell? ⟨gi.b, 3, none⟩ = some (.int .i64 (gi.s : Int)) := (hL.node i gi hgi).cellAt 3 _ rfl
  have si4 : w.cell? ⟨gi.b, 4, none⟩ = some (.int .i64 (gi.e : Int)) := (hL.node i gi hgi).cellAt 4 _ rfl
  have dii : decide (i = i) = true := decide_eq_true rfl
  rw [dii] at heq
  have dnew : decide ((a : Int) + (n : Int) ≤ (gi.s : Int)) = false := decide_eq_false (by omega)
  go_enter Tryd.func56, Tryd.ntmps56
  go_wp2_with fail
  refine (front_call hL hg0).mono ?_
  rintro e w' ⟨rfl, rfl⟩
  go_wp2_with fail
  refine (findStart_det w bS bL gs a hS h2 hL hbd hi).mono ?_
  rintro e w' ⟨rfl, rfl⟩
  generalize hinS : decide (gi.s ≤ a) = inS
  have HinS := Lib.hid hinS
  clear hinS
  go_wp2_with fail
  refine (findEnd_det w bS bL gs (a + n) i _ (by omega) gi hL hgi hbd hs (fun g hg => by rw [hg0] at hg; injection hg with hg; subst hg; omega) hj).mono ?_
  rintro e w' ⟨rfl, rfl⟩
  go_wp2_with fail
  go_quiet (fail)
  have hFd : Fr (pushS r bL gs) w (w.drewN nq) := ⟨rfl, rfl, rfl, Nat.le_refl _, fun _ _ _ => rfl⟩
  have hSd : Blk (w.drewN nq) bS c T := hS
  have hLd := hL.drewN nq
  have hqd := hq.drewN nq
  have hld : Rd (w.drewN nq) (.slice p n cap) l := hl.keep (fun _ _ => rfl)
  clear c0 c2 f3 si3 si4 heq
  generalize w.drewN nq = wd at *
  have c0 := hSd.cellAt 0 _ h0
  have c2 := hSd.cellAt 2 _ h2
  have hltS := hSd.lt
  have hltI := (hLd.node i gi hgi).lt
  have si3 : wd.cell? ⟨gi.b, 3, none⟩ = some (.int .i64 (gi.s : Int)) := (hLd.node i gi hgi).cellAt 3 _ rfl
  have si4 : wd.cell? ⟨gi.b, 4, none⟩ = some (.int .i64 (gi.e : Int)) := (hLd.node i gi hgi).cellAt 4 _ rfl
  go_wp2_with fail
  refine (next_call' hLd hgi).mono ?_
  rintro e w' ⟨rfl, rfl⟩
  go_upto_block 0 with fail
  go_cut [1, 10, 21, 23] from 122 to 173 (fun s1 s10 s21 s23 wx => ∃ (q1 : Q) (pos Z : Nat) (rep cut : Bool), L1End (a + n) q a q1 pos rep cut Z ∧ s1 = .slice p (Z - a) cap ∧ s10 = .int .i64 (Z : Int) ∧ s21 = .bool cut ∧ s23 = .bool rep ∧ QAt wx r q1 ∧ Fr (fun k => k = r) wd wx)
  case first =>
    go_wp2_with fail
    go_loopg [1, 10, 21, 22, 23] 16385 (fun k s1 s10 s21 s22 s23 wr => ∃ (qc : Q) (pos : Nat) (rep : Bool), k + pos = a + 16385 ∧ L1 (a + n) q a qc pos rep ∧ s1 = .slice p n cap ∧ s10 = .int .i64 ((a : Int) + n) ∧ s21 = .bool false ∧ s22 = .int .i64 (pos : Int) ∧ s23 = .bool rep ∧ QAt wr r qc ∧ Fr (fun k => k = r) wd wr)
    case atStart => exact ⟨q, a, false, by omega, .start, rfl, rfl, rfl, rfl, rfl, hqd, Fr.refl _ _⟩
    case round =>
      obtain ⟨qc, pos, rep, hk, hl1, rfl, rfl, rfl, rfl, rfl, hqc, hf⟩ := hrel
      obtain ⟨g1, g2, g3, g4, hokc⟩ := hl1.le (by omega) hok
      have hSr := hf.blk hSd (fun e => hqd.ne_blk hSd e.symm)
      have hcell := hSr.cellAt 0 _ h0
      have hlt := hSr.lt
      rcases hqc.look pos with ⟨hnn, hlk⟩ | ⟨d, s, hd, hsd, hlk⟩
      · go_wp2_with fail
        go_meet
        exact ⟨qc, pos, a + n, rep, false, ⟨hl1, .inl ⟨hnn, rfl, rfl⟩⟩, by rw [Nat.add_sub_cancel_left], by go_num, rfl, rfl, hqc.alloc _, hf.alloc _⟩
      · have hs' := hsd
        obtain ⟨ps, cs, rfl, hlc, hcm, _⟩ := hs'
        obtain ⟨hne, hle⟩ := hokc pos d hd
        have hpos : 0 < d.length := List.length_pos_iff.2 hne
        have hnf := neq_nilFunc
        cases rep with
        | false =>
          obtain ⟨rfl, rfl⟩ := g4 rfl
          have hlen1 := hnd d hd
          go_wp2_with (at_delete; refine wpList_delQ _ rfl _ _ rfl r pos qc (hqc.alloc _) rfl rfl ?_; intro w1 hq1 hf1; have hB := hf1.blk (Blk.new wr #[.slice ps d.length cs, .nilFunc] 125) (fun e => by have e : wr.heap.size = r := e; have := hqc.lt; omega); have c0 : w1.cell? ⟨wr.heap.size, 0, none⟩ = some (.slice ps d.length cs) := hB.cellAt 0 _ rfl; have c1 : w1.cell? ⟨wr.heap.size, 1, none⟩ = some .nilFunc := hB.cellAt 1 _ rfl; clear hlk)
          go_roundg (gk - d.length)
          case measure => omega
          case rel =>
            exact ⟨rmQ qc pos, pos + d.length, true, by omega, .next hl1 hd (.inl (by omega)), rfl, rfl, rfl, by go_num, rfl, hq1, (hf.alloc _).trans hf1⟩
        | true =>
          go_wp2_with (at_delete; refine wpList_delQ _ rfl _ _ rfl r pos qc (hqc.alloc _) rfl rfl ?_; intro w1 hq1 hf1; have hB := hf1.blk (Blk.new wr #[.slice ps d.length cs, .nilFunc] 125) (fun e => by have e : wr.heap.size = r := e; have := hqc.lt; omega); have c0 : w1.cell? ⟨wr.heap.size, 0, none⟩ = some (.slice ps d.length cs) := hB.cellAt 0 _ rfl; have c1 : w1.cell? ⟨wr.heap.size, 1, none⟩ = some .nilFunc := hB.cellAt 1 _ rfl; clear hlk)
          · rename_i x1 x2
            go_roundg (gk - d.length)
            case measure => omega
            case rel =>
              have e1 : pos + d.length = a + n := by
                rcases x2 with x2 | x2
                · omega
                · have := eq_of_beq x2; omega
              exact ⟨rmQ qc pos, pos + d.length, true, by omega, .next hl1 hd (.inr ⟨rfl, e1⟩), rfl, rfl, rfl, by go_num, rfl, hq1, (hf.alloc _).trans hf1⟩
          · rename_i x1 x2
            go_meet
            refine ⟨qc, pos, pos, true, true, ⟨hl1, .inr ⟨d, hd, by omega, fun hx => ?_, rfl, rfl, rfl⟩⟩, by go_num, rfl, rfl, rfl, hqc.alloc _, hf.alloc _⟩
            have := ne_of_beq_false x2.2
            omega
          · go_roundg (gk - d.length)
            case measure => omega
            case rel =>
              exact ⟨rmQ qc pos, pos + d.length, true, by omega, .next hl1 hd (.inl (by omega)), rfl, rfl, rfl, by go_num, rfl, hq1, (hf.alloc _).trans hf1⟩
  case rest =>
    obtain ⟨q1, pos, Z, rep, cut, hE, rfl, rfl, rfl, rfl, hq1, hf1⟩ := hcut
    obtain ⟨hL1, hE2⟩ := hE
    obtain ⟨b1, b2, b3, b4, hok1⟩ := hL1.le (by omega) hok
    have hZ : a ≤ Z ∧ Z ≤ a + n ∧ (cut = false → Z = a + n) ∧ (rep = true → a < Z) ∧ (rep = false → Z = a + n) := by
      rcases hE2 with ⟨_, rfl, rfl⟩ | ⟨d, _, _, _, rfl, rfl, rfl⟩
      · exact ⟨by omega, by omega, fun _ => rfl, fun _ => by omega, fun _ => rfl⟩
      · exact ⟨b1, b2, by simp, fun _ => by have := b3 rfl; omega, by simp⟩
    have hS1 := hf1.blk hSd (fun e => hqd.ne_blk hSd e.symm)
    have hbL := hLd.root
    have hL1' : ListAt wc bL gs := hLd.same (hf1.block bL hbL.lt (fun e => hqd.ne_blk hbL e.symm)) (fun g hg => by
      obtain ⟨k, hk⟩ := List.mem_iff_getElem?.1 hg
      exact hf1.block g.b (hLd.node k g hk).lt (fun e => hqd.ne_blk (hLd.node k g hk) e.symm))
    have hl1 : Rd wc (.slice p n cap) l := hld.keep (hf1.bytes (fun k hk => by rw [show k = r from hk]; exact hqd.noBytes))
    have hFc : Fr (pushS r bL gs) w wc := hFd.trans (hf1.mono (fun k _ hk => .inl hk))
    clear c0 c2 si3 si4 hltS hltI hSd hLd hqd hld hFd hbL hf1
    have c0 := hS1.cellAt 0 _ h0
    have c2 := hS1.cellAt 2 _ h2
    have hltS := hS1.lt
    have hltI := (hL1'.node i gi hgi).lt
    have si3 : wc.cell? ⟨gi.b, 3, none⟩ = some (.int .i64 (gi.s : Int)) := (hL1'.node i gi hgi).cellAt 3 _ rfl
    have si4 : wc.cell? ⟨gi.b, 4, none⟩ = some (.int .i64 (gi.e : Int)) := (hL1'.node i gi hgi).cellAt 4 _ rfl
    have hle : Z - a ≤ cap := by omega
    have hR0 : Rd wc (.slice p (Z - a) cap) (seg l a a Z) := by
      unfold seg; rw [Nat.sub_self, List.drop_zero]
      exact hl1.take (Z - a) (by omega)
    have hgs : inS = false → rep = false → a < gi.s ∧ gi.s ≤ Z ∧ Z = a + n := fun e1 e2 => by
      have hx : decide (gi.s ≤ a) = inS := HinS
      rw [e1] at hx
      have := of_decide_eq_false hx
      have := hZ.2.2.2.2 e2
      omega
    have HZ := Lib.hid hZ
    have HE2 := Lib.hid hE2
    have Hgs := Lib.hid hgs
    have Hb3 := Lib.hid b3
    have Hb4 := Lib.hid b4
    have HL1 := Lib.hid hL1
    have HnS := Lib.hid hnd
    clear hZ hE2 hgs b3 b4 hL1 hnd
    go_upto_region 34 with fail
    go_cut [179] from 174 to 179 (fun s wx => wx = wc ∧ s = .bool (!inS && !rep))
    case first =>
      cases inS <;> cases rep
      all_goals (go_wp2_with fail; go_meet; exact ⟨rfl, rfl⟩)
    case rest =>
    obtain ⟨rfl, rfl⟩ := hcut
    go_upto_if 179 with fail
    go_cut [1, 9, 21] from 174 to 193 (fun s1 s9 s21 wx => wx = wc ∧ ∃ (A : Nat) (cut2 : Bool), A = (if inS = false ∧ rep = false then gi.s else a) ∧ s9 = .int .i64 (A : Int) ∧ s21 = .bool cut2 ∧ Rd wc s1 (seg l a A Z))
    case first =>
      cases inS <;> cases rep
      · have hx : false = false → false = false → a < gi.s ∧ gi.s ≤ Z ∧ Z = a + n := Hgs
        obtain ⟨hx1, hx2, hx3⟩ := hx rfl rfl
        have Hx3 := Lib.hid hx3
        clear hx hx3
        go_wp2_with fail
        go_meet
        refine ⟨rfl, gi.s, true, rfl, rfl, rfl, ?_⟩
        have hz2 := Hx3.out
        have hsl := seg_length l a a Z (Nat.le_refl _) (by omega) (by omega)
        have := hR0.drop (gi.s - a) (by omega)
        rw [if_neg (by omega)] at this
        unfold seg at this ⊢
        rw [Nat.sub_self, List.drop_zero, List.drop_take] at this
        rwa [show Z - a - (gi.s - a) = Z - gi.s from by omega] at this ⊢
      all_goals (go_wp2_with fail; go_meet; exact ⟨rfl, a, cut, rfl, rfl, rfl, hR0⟩)
    case rest =>
      obtain ⟨rfl, A, cut2, hA, rfl, rfl, hR⟩ := hcut
      have hAZ : a ≤ A ∧ A ≤ Z ∧ A ≤ gi.e := by
        have hz : a ≤ Z ∧ Z ≤ a + n ∧ (cut = false → Z = a + n) ∧ (rep = true → a < Z) ∧ (rep = false → Z = a + n) := HZ
        have hg : inS = false → rep = false → a < gi.s ∧ gi.s ≤ Z ∧ Z = a + n := Hgs
        have := hi.2.1
        have := hs.1 _ _ hgi
        by_cases c : inS = false ∧ rep = false
        · rw [if_pos c] at hA; have := hg c.1 c.2; omega
        · rw [if_neg c] at hA; omega
      have HA := Lib.hid hA
      clear hA hR0
      have hlast : gi.e ≤ Z → i + 1 < gs.length := fun h => by
        have hz : a ≤ Z ∧ Z ≤ a + n ∧ (cut = false → Z = a + n) ∧ (rep = true → a < Z) ∧ (rep = false → Z = a + n) := HZ
        rcases hj.2 with ⟨_, _, _, x, _⟩ | ⟨_, _, ⟨h, x, _⟩, _⟩
        · omega
        · exact (List.getElem?_eq_some_iff.1 x).1
      obtain ⟨p1, c1, rfl, hs1, hs2, _⟩ := id hR
      have hsl : (seg l a A Z).length = Z - A := by
        have hz : a ≤ Z ∧ Z ≤ a + n ∧ (cut = false → Z = a + n) ∧ (rep = true → a < Z) ∧ (rep = false → Z = a + n) := HZ
        exact seg_length _ _ _ _ (by omega) (by omega) (by omega)
      rw [hsl] at hR hs1 ⊢
      have Hlast := Lib.hid hlast
      have gif := (hL1'.node i gi hgi).free
      clear hlast
      go_upto_if 200 with fail
      go_cut [20] from 194 to 225 (fun s20 wx => ∃ (gs3 : List Gap) (adj : Bool), GapUp gs i gi A Z rep gs3 adj ∧ s20 = .bool adj ∧ ListAt wx bL gs3 ∧ QAt wx r q1 ∧ Fr (pushS r bL gs) wc wx)
      case first =>
        by_cases hc1 : A ≤ gi.s
        · by_cases hc2 : gi.e ≤ Z
          · have hl2 : i + 1 < gs.length := Hlast.out hc2
            go_wp2_with (go_at_call 69; refine (rem_call hL1' hgi hl2 (by omega)).mono ?_; rintro e w' ⟨rfl, hLx, hFx⟩)
            go_meet
            exact ⟨_, false, .inl ⟨hc1, hc2, rfl, rfl⟩, rfl, hLx, hq1.fr hFx (fun e => pushS_rlist hq1 hL1' e) (fun k hk => pushS_noBytes hq1 hL1' k (.inr hk)), hFx.mono (fun k _ hk => .inr hk)⟩
          · go_wp2_with fail
            go_meet
            exact ⟨_, false, .inr (.inl ⟨hc1, by omega, rfl, rfl⟩), rfl, hL1'.setStart hgi Z, hq1.setCell _ _ (hL1'.node i gi hgi) (by decide), (Fr.refl _ _).setCell _ _ (.inl (.inr (listS_mem hgi)))⟩
        · cases rep
          · go_wp2_with fail
            go_meet
            exact ⟨_, true, .inr (.inr (.inl ⟨by omega, rfl, rfl, rfl⟩)), rfl, hL1'.setEnd hgi A, hq1.setCell _ _ (hL1'.node i gi hgi) (by decide), (Fr.refl _ _).setCell _ _ (.inl (.inr (listS_mem hgi)))⟩
          · go_wp2_with fail
            go_meet
            exact ⟨gs, false, .inr (.inr (.inr ⟨by omega, rfl, rfl, rfl⟩)), rfl, hL1', hq1, Fr.refl _ _⟩
      case rest =>
        obtain ⟨gs3, adj, hG, rfl, hL3, hq3, hF3⟩ := hcut
        have hgi3 : adj = true → gs3[i]? = some { gi with e := A } := fun e => by
          have hlt : i < gs.length := (List.getElem?_eq_some_iff.1 hgi).1
          rcases hG with ⟨_, _, _, e2⟩ | ⟨_, _, _, e2⟩ | ⟨_, _, rfl, _⟩ | ⟨_, _, _, e2⟩
          · rw [e2] at e; cases e
          · rw [e2] at e; cases e
          · simp [hlt]
          · rw [e2] at e; cases e
        have hlen3 : gs3.length ≤ gs.length := by
          rcases hG with ⟨_, _, rfl, _⟩ | ⟨_, _, rfl, _⟩ | ⟨_, _, rfl, _⟩ | ⟨_, _, rfl, _⟩
          · exact List.length_eraseIdx_le _ _
          · simp
          · simp
          · exact Nat.le_refl _
        have HG := Lib.hid hG
        have Hgi3 := Lib.hid hgi3
        have hS3 := hF3.blk hS1 (pushS_ne hq1 hL1' hS1 hT hT2)
        have hR3 := hR.keep (hF3.bytes (pushS_noBytes hq1 hL1'))
        have hFw := hFc.trans hF3
        clear hG hgi3 c0 c2 hltS hltI si3 si4 gif hL1' hq1 hF3 hS1 hR hl1 hFc
        have c0 := hS3.cellAt 0 _ h0
        have c2 := hS3.cellAt 2 _ h2
        have hltS := hS3.lt
        go_upto_region 54 with fail
        go_cut [266] from 256 to 266 (fun s wx => wx = wc ∧ s = .bool (decide (inE = false ∧ A ≠ gi.e ∧ gi.e < Z)))
        case first =>
          cases inE
          · by_cases d1 : A = gi.e
            · subst d1
              go_wp2_with fail
              go_meet
              exact ⟨rfl, by simp⟩
            · by_cases d2 : gi.e < Z
              · go_wp2_with fail
                go_meet
                refine ⟨rfl, ?_⟩
                (rw [bne_iff_ne.2 (show (A : Int) ≠ (gi.e : Int) by omega)]; exact congrArg Value.bool (decide_eq_true ⟨by trivial, d1, d2⟩).symm)
              · go_wp2_with fail
                go_meet
                exact ⟨rfl, by simp [d2]⟩
          · go_wp2_with fail
            go_meet
            exact ⟨rfl, by simp⟩
        case rest =>
        obtain ⟨rfl, rfl⟩ := hcut
        go_upto_if 266 with fail
        go_cut [1, 10, 21] from 256 to 271 (fun s1 s10 s21 wx => wx = wc ∧ ∃ (Z2 : Nat) (cut3 : Bool), Z2 = (if inE = false ∧ A ≠ gi.e ∧ gi.e < Z then gi.e else Z) ∧ s10 = .int .i64 (Z2 : Int) ∧ s21 = .bool cut3 ∧ Rd wc s1 (seg l a A Z2))
        case first =>
          by_cases d : inE = false ∧ A ≠ gi.e ∧ gi.e < Z
          · obtain ⟨d1, d2, d3⟩ := d
            have dd : decide (inE = false ∧ A ≠ gi.e ∧ gi.e < Z) = true := decide_eq_true ⟨d1, d2, d3⟩
            have D1 := Lib.hid d1
            have D2 := Lib.hid d2
            clear d1 d2
            rw [dd]
            clear dd
            go_wp2_with fail
            go_meet
            refine ⟨rfl, gi.e, true, by rw [if_pos ⟨D1.out, D2.out, d3⟩], rfl, rfl, ?_⟩
            have := hR3.take (gi.e - A) (by omega)
            unfold seg at this ⊢
            rwa [List.take_take, Nat.min_eq_left (by omega)] at this
          · have dd : decide (inE = false ∧ A ≠ gi.e ∧ gi.e < Z) = false := decide_eq_false d
            have D := Lib.hid d
            clear d
            rw [dd]
            clear dd
            go_wp2_with fail
            go_meet
            exact ⟨rfl, Z, cut2, by rw [if_neg D.out], rfl, rfl, hR3⟩
        case rest =>
        obtain ⟨rfl, Z2, cut3, hZ2, rfl, rfl, hR4⟩ := hcut
        have hZ2b : A ≤ Z2 ∧ Z2 ≤ Z := by rw [hZ2]; split <;> omega
        have HZ2 := Lib.hid hZ2
        clear hZ2 hR3
        go_upto_if 275 with fail
        go_cut [] from 272 to 303 (fun wx => ∃ gs6, GapEnd1 w.heap.size gs3 i gi Z2 adj gs6 ∧ gs6.length ≤ gs3.length + 1 ∧ ListAt wx bL gs6 ∧ QAt wx r q1 ∧ Fr (pushS r bL gs3) wc wx)
        case first =>
          by_cases d : Z2 = gi.e
          · subst d
            go_wp2_with fail
            go_meet
            exact ⟨gs3, .inr ⟨.inl rfl, rfl⟩, by omega, hL3, hq3, Fr.refl _ _⟩
          · cases adj
            · go_wp2_with fail
              go_meet
              exact ⟨gs3, .inr ⟨.inr rfl, rfl⟩, by omega, hL3, hq3, Fr.refl _ _⟩
            · have hg3 := Hgi3.out rfl
              have Hd := Lib.hid d
              go_wp2_with (go_at_call 71; refine (ins_call hL3 hg3 (by omega) Z2 gi.e).mono ?_; rintro e w' ⟨rfl, hLx, hFx⟩)
              go_meet
              refine ⟨_, .inl ⟨Hd.out, rfl, _, Nat.le_trans hFw.size (Nat.le_add_right _ _), rfl⟩, ?_, hLx, hq3.fr hFx (fun e => pushS_rlist hq3 hL3 e) (fun k hk => pushS_noBytes hq3 hL3 k (.inr hk)), ?_⟩
              · have hlt : i < gs3.length := (List.getElem?_eq_some_iff.1 hg3).1
                rw [List.length_insertIdx, if_pos (by omega)]
                exact Nat.le_refl _
              · exact hFx.mono (fun k _ hk => .inr hk)
        case rest =>
        obtain ⟨gs6, hG6, hlen6, hL6, hq6, hF6⟩ := hcut
        have HG6 := Lib.hid hG6
        have hS6 := hF6.blk hS3 (pushS_ne hq3 hL3 hS3 hT hT2)
        have hR6 := hR4.keep (hF6.bytes (pushS_noBytes hq3 hL3))
        have hFw6 := hFw.trans (hF6.mono (fun k _ hk => hk.imp id (HG.out.sub hgi k)))
        clear hG6 c0 c2 hltS hL3 hq3 hF6 hS3 hR4 hFw
        obtain ⟨p3, c3, e3, hs31, hs32, hr33⟩ := id hR6
        have hsl3 : (seg l a A Z2).length = Z2 - A := by
          have hz : a ≤ Z ∧ Z ≤ a + n ∧ (cut = false → Z = a + n) ∧ (rep = true → a < Z) ∧ (rep = false → Z = a + n) := HZ.out
          exact seg_length _ _ _ _ (by omega) (by omega) (by omega)
        subst e3
        rw [hsl3] at hs31 ⊢
        rw [hsl3] at hR6
        have hmk := run_make_row' (P := Tryd.prog) 26 5 (.int .u8 0) 1 Tryd.underlying26 info5 rfl
        have c0 := hS6.cellAt 0 _ h0
        have c2 := hS6.cellAt 2 _ h2
        go_upto_region 65 with fail
        go_cut [309] from 304 to 309 (fun s wx => wx = wc ∧ s = .bool (decide (cut3 = true ∧ Z2 - A < 128)))
        case first =>
          cases cut3
          · go_wp2_with fail
            go_meet
            exact ⟨rfl, by simp⟩
          · by_cases d : Z2 - A < 128
            · go_wp2_with fail
              go_meet
              exact ⟨rfl, by simp; omega⟩
            · go_wp2_with fail
              go_meet
              exact ⟨rfl, by simp; omega⟩
        case rest =>
        obtain ⟨rfl, rfl⟩ := hcut
        go_upto_if 309 with fail
        go_cut [1, 3, 29] from 304 to 320 (fun s1 s3 s29 wx => s3 = .nilFunc ∧ Rd wx s1 (seg l a A Z2) ∧ Grow wc wx)
        case first =>
          by_cases d : cut3 = true ∧ Z2 - A < 128
          · have dd : decide (cut3 = true ∧ Z2 - A < 128) = true := decide_eq_true d
            rw [dd]
            clear dd
            obtain ⟨d1, d2⟩ := d
            clear d1
            have hnf := neq_nilFunc
            have hk1 : (1 : Nat) * (Z2 - A) ≤ 281474976710656 := by omega
            have hmk1 := hmk .i64 .i64 (Z2 - A) hk1 (by omega)
            clear hmk
            go_upto_region 67 with fail
            go_wp2_with (refine wpList_copyNew rfl _ _ rfl wc.heap.size (by simp) _ (heap_alloc_new wc _) (seg l a A Z2) (by rw [hsl3]; simp [madeCells]) _ (hR6.keep (fun _ hb => Below.heap_alloc _ _ _ hb.lt)) (Z2 - A) hsl3 rfl rfl (by omega) ?_; intro w1 hR7 hF7)
            go_meet
            exact ⟨rfl, hR7, ⟨hF7.os, hF7.tape, hF7.output, Nat.le_trans (by simp) hF7.size, fun k hk _ => (hF7.block k (by simp; omega) (fun e => by have : k = wc.heap.size := e; omega)).trans (Below.heap_alloc _ _ _ hk)⟩⟩
          · have dd : decide (cut3 = true ∧ Z2 - A < 128) = false := decide_eq_false d
            rw [dd]
            clear dd
            have D := Lib.hid d
            clear d
            go_wp2_with fail
            go_meet
            exact ⟨rfl, hR6, Fr.refl _ _⟩
        case rest =>
        obtain ⟨rfl, hR7, hF7⟩ := hcut
        obtain ⟨p4, c4, rfl, hs41, hs42, _⟩ := id hR7
        rw [hsl3] at hs41 ⊢
        rw [hsl3] at hR7
        have hL7 : ListAt wc bL gs6 := hL6.fr hF7 (fun _ h => h.elim)
        have hq7 : QAt wc r q1 := hq6.fr hF7 (fun h => h) (fun _ h => h.elim)
        have hS7 := hF7.blk hS6 (fun h => h)
        have hFw7 := hFw6.trans hF7.to
        clear c0 c2 hR6 hF7 hL6 hq6 hS6 hFw6
        have c0 := hS7.cellAt 0 _ h0
        have c2 := hS7.cellAt 2 _ h2
        have hltS := hS7.lt
        have hgl : ¬ ((gs6.length : Int) > 1000) := by omega
        go_upto_region 74 with (go_at_call 72; refine (len_call hL7).mono ?_; rintro e w' ⟨rfl, rfl⟩)
        go_wp2_with (at_mapUpdate; refine wpList_putQ _ rfl _ _ _ rfl r A q1 hq7 _ _ hR7 rfl rfl rfl ?_; intro w1 hq8 hF8)
        go_ret
        refine ⟨rfl, gs6, _, ⟨q1, pos, rep, cut, Z, A, gs3, adj, Z2, ⟨HL1.out, HE2.out⟩, ?_, HG.out, HZ2.out, HG6.out, rfl⟩, by omega, hL7.fr hF8 (fun k hk e => pushS_rlist hq7 hL7 (by have hk : k = r := hk; rw [← hk]; exact e)), hq8, hFw7.trans (hF8.mono (fun k _ hk => .inl hk))⟩
        have := HA.out
        rwa [← HinS.out] at this
end Go.Proofs.YtdhhccpeikhilaaDoor
