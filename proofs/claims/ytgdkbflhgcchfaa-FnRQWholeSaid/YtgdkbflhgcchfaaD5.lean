/- The reader of frames: a payload of one frame. -/
import Derived.Test.YtgdkbflhgcchfaaD4
namespace Go.Proofs.Ytgdkbflhgcchfaa
open Go.RowKit

def Ct.nums : Ct → List Nat
  | .reset a b => [a, b, a] | .stop a b => [a, b] | .maxStream a b => [a, b] | .maxData a => [a] | .maxStreams a => [a] | .retire a => [a] | .crypto a _ => [a] | _ => []
theorem Vs_one (a : Nat) (l : List UInt8) : Vs [a] ++ l = V a ++ l := by simp [Vs]
theorem Vs_two (a b : Nat) (l : List UInt8) : Vs [a, b] ++ l = V a ++ (V b ++ l) := by simp [Vs]
theorem Vs_three (a b c : Nat) (l : List UInt8) : Vs [a, b, c] ++ l = V a ++ (V b ++ (V c ++ l)) := by simp [Vs]
theorem V_low (n : Nat) (h : n ≤ 63) : V n = [b8 n] := if_pos h
theorem frame_of (c : Ct) (hc : c.Ok) (w : World) (p : Nat) (h : PkAt w p c.enc) : Calls Try.prog 29 #[pt p] w (FrameSays w p c.ty c.nums c.data []) := by
  obtain ⟨ha, hb, hd⟩ := hc
  have v1 : ∀ n, n ≤ 63 → ∀ l, V n ++ l = [b8 n] ++ l := fun n hn l => by rw [V_low n hn]
  cases c with
  | ping => exact frame_1 w p [] (by simp) (by rw [v1 _ (by omega)]; exact h)
  | done => exact frame_30 w p [] (by simp) (by rw [v1 _ (by omega)]; exact h)
  | reset a b =>
    have ha : a ≤ 10000000000 := ha
    have hb : b ≤ 10000000000 := hb
    refine frame_4 w p [a, b, a] rfl (fun n hn => ?_) [] (by simp) ?_
    · simp only [List.mem_cons, List.not_mem_nil, or_false] at hn; omega
    · rw [v1 _ (by omega), Vs_three]; simpa [Ct.enc, b8] using h
  | stop a b =>
    have ha : a ≤ 10000000000 := ha
    have hb : b ≤ 10000000000 := hb
    refine frame_5 w p [a, b] rfl (fun n hn => ?_) [] (by simp) ?_
    · simp only [List.mem_cons, List.not_mem_nil, or_false] at hn; omega
    · rw [v1 _ (by omega), Vs_two]; simpa [Ct.enc, b8] using h
  | maxStream a b =>
    have ha : a ≤ 10000000000 := ha
    have hb : b ≤ 10000000000 := hb
    refine frame_17 w p [a, b] rfl (fun n hn => ?_) [] (by simp) ?_
    · simp only [List.mem_cons, List.not_mem_nil, or_false] at hn; omega
    · rw [v1 _ (by omega), Vs_two]; simpa [Ct.enc, b8] using h
  | maxData a =>
    have ha : a ≤ 10000000000 := ha
    refine frame_16 w p [a] rfl (fun n hn => ?_) [] (by simp) ?_
    · simp only [List.mem_cons, List.not_mem_nil, or_false] at hn; omega
    · rw [v1 _ (by omega), Vs_one]; simpa [Ct.enc, b8] using h
  | maxStreams a =>
    have ha : a ≤ 10000000000 := ha
    refine frame_18 w p [a] rfl (fun n hn => ?_) [] (by simp) ?_
    · simp only [List.mem_cons, List.not_mem_nil, or_false] at hn; omega
    · rw [v1 _ (by omega), Vs_one]; simpa [Ct.enc, b8] using h
  | retire a =>
    have ha : a ≤ 10000000000 := ha
    refine frame_25 w p [a] rfl (fun n hn => ?_) [] (by simp) ?_
    · simp only [List.mem_cons, List.not_mem_nil, or_false] at hn; omega
    · rw [v1 _ (by omega), Vs_one]; simpa [Ct.enc, b8] using h
  | token d =>
    have hd : d.length ≤ 400 := hd
    refine frame_7 w p d (by omega) [] (by simp) ?_
    rw [v1 _ (by omega)]; simpa [Ct.enc, b8] using h
  | crypto a d =>
    have ha : a ≤ 10000000000 := ha
    have hd : d.length ≤ 400 := hd
    refine frame_6 w p [a] rfl (fun n hn => ?_) d (by omega) [] (by simp) ?_
    · simp only [List.mem_cons, List.not_mem_nil, or_false] at hn; omega
    · rw [v1 _ (by omega), Vs_one]; simpa [Ct.enc, b8] using h
theorem enc_first (c : Ct) : ∃ x l, c.enc = x :: l ∧ x.toNat ≠ 0 := by
  cases c <;> exact ⟨_, _, rfl, by decide⟩
theorem enc_len (c : Ct) (hc : c.Ok) : c.enc.length ≤ 500 := by
  obtain ⟨ha, hb, hd⟩ := hc
  cases c <;> simp only [Ct.enc, List.length_append, List.length_cons, List.length_nil, V_length]
  all_goals first
    | omega
    | (rename_i a; have := vlen_le a; omega)
    | (rename_i a b; have := vlen_le a; have := vlen_le b; omega)
    | (rename_i d; have := vlen_le d.length; have hd : d.length ≤ 400 := hd; omega)
    | (rename_i a d; have := vlen_le a; have := vlen_le d.length; have hd : d.length ≤ 400 := hd; omega)
/-- One frame as a row. -/
def FramesAt (w : World) (fs : Value) (c : Ct) : Prop := ∃ b o cap nv dv cur, fs = .slice (some ⟨b, o, none⟩) 1 cap ∧ 1 ≤ cap ∧ w.heap[b]? = some (.cells cur 71 (0, 0)) ∧ (∀ (j : Nat) (u : Value), (frC c.ty nv dv)[j]? = some u → cur[o + j]? = some u) ∧ OwnN w nv c.nums ∧ (c.nums = [] → nv = .slice none 0 0) ∧ Rd w dv c.data
theorem info71 : (Try.prog.info? 71).map (fun i => (i.zero, i.size, i.bytes)) = some (some (.agg #[.int .u64 0, .slice none 0 0, .slice none 0 0, .bool false]), 4, 64) := by kernel_rfl
theorem run_appendFr {w : World} {nv dv : Value} {ns : List Nat} {d : List UInt8} (h1 : OwnN w nv ns) (h2 : Rd w dv d) (ty : Nat) {t : TypeId} :
    ∃ v' w', (Builtin.append_ #[66, 66] t #[.slice none 0 0, .slice (some ⟨w.heap.size, 0, none⟩) 1 1]).run Try.prog (w.alloc (.cells (frC ty nv dv) 71)) = .ok v' w' ∧ Own w' v' 71 4 (0 + 1) ([] ++ (frC ty nv dv).toList) ∧ Fr (fun k => (Value.slice none 0 0).ownBlock = some k) (w.alloc (.cells (frC ty nv dv) 71)) w' := by
  obtain ⟨i, hi, hzz⟩ := Option.map_eq_some_iff.1 info71
  simp only [Prod.mk.injEq] at hzz
  obtain ⟨hz, hsz, hb⟩ := hzz
  obtain ⟨pn, cn, rfl⟩ := h1.slice
  obtain ⟨pd, cd, rfl, _⟩ := h2
  obtain ⟨v', w', g1, g2, g3, g4⟩ := run_appendOne (n := 0) (xs := []) (news := (frC ty (.slice pn ns.length cn) (.slice pd d.length cd)).toList) Try.underlying66 hi hz hsz hb rfl (by omega) (by omega) (Own.nil _ 71 4) w.heap.size (Blk.new w _ _) rfl (by simp [Value.oneCell']) (by omega) t
  exact ⟨v', w', g1, g2, g3⟩
set_option maxRecDepth 100000 in
set_option maxHeartbeats 1000000 in
theorem frames_any (w : World) (v : Value) (c : Ct) (hc : c.Ok) (hv : Rd w v c.enc) :
    Calls Try.prog 19 #[v] w fun e w' => Grow w w' ∧ ∃ fs, e = .returned (.tuple #[fs, .int .i64 0, .bool true]) ∧ FramesAt w' fs c := by
  obtain ⟨x, r, hxr, hx0⟩ := enc_first c
  have hel := enc_len c hc
  obtain ⟨pv, cv, rfl, hlc, hcc, hb3⟩ := id hv
  obtain ⟨bv, ov, rfl, hbv, hbx⟩ := hb3 (by rw [hxr]; simp)
  have hP : PkAt (w.alloc (.cells #[.slice (some ⟨bv, ov, none⟩) c.enc.length cv, .bool false] 96)) w.heap.size c.enc := ⟨_, hv.keep (Grow.bytes ((Fr.refl _ w).alloc _)), Blk.new w _ _⟩
  have HP := Lib.hid (And.intro hP ((Fr.refl (fun _ => False) w).alloc (.cells #[.slice (some ⟨bv, ov, none⟩) c.enc.length cv, .bool false] 96)))
  have hbvl := hbv.lt
  have f0 : w.cell? ⟨bv, ov, none⟩ = some (u8 x) := by have := hbx 0 x (by rw [hxr]; rfl); simpa using this
  clear hP hv hb3 hbv hbx
  have hpos : (0 : Int) < (c.enc.length : Int) := by rw [hxr]; simp
  have hposN : 0 < c.enc.length := by omega
  have hxz : ((x.toNat : Int) == 0) = false := by simp; omega
  clear hxr
  generalize c.enc.length = N at *
  go_enter Try.func19, Try.ntmps19
  go_wp2_with fail
  generalize hw1 : w.alloc (.cells #[.slice (some ⟨bv, ov, none⟩) N cv, .bool false] 96) = w1 at *
  go_loopg [2, 3] 1 (fun k s2 s3 wr => (k = 1 ∧ s2 = .slice none 0 0 ∧ s3 = .int .i64 0 ∧ wr = w1) ∨ (k = 0 ∧ s3 = .int .i64 0 ∧ Hid (Grow w wr ∧ FramesAt wr s2 c ∧ PkAt wr w.heap.size [])))
  case atStart => exact .inl ⟨rfl, rfl, rfl, rfl⟩
  case round =>
    rcases hrel with ⟨rfl, rfl, rfl, rfl⟩ | ⟨rfl, rfl, HE⟩
    · have hB : Blk wr w.heap.size #[.slice (some ⟨bv, ov, none⟩) N cv, .bool false] 96 := by rw [← hw1]; exact Blk.new w _ _
      have b0 : wr.cell? ⟨w.heap.size, 0, none⟩ = some (.slice (some ⟨bv, ov, none⟩) N cv) := hB.cellAt 0 _ rfl
      have b1 : wr.cell? ⟨w.heap.size, 1, none⟩ = some (.bool false) := hB.cellAt 1 _ rfl
      have hltB := hB.lt
      have f1 : wr.cell? ⟨bv, ov, none⟩ = some (u8 x) := (Grow.cell HP.out.2 hbvl).trans f0
      have hbl1 : bv < wr.heap.size := Nat.lt_of_lt_of_le hbvl HP.out.2.size
      have HF := Lib.hid (frame_of c hc wr w.heap.size HP.out.1)
      have HX : Hid (∀ (w2 w3 : World) (nv dv fs : Value), OwnN w2 nv c.nums → Rd w2 dv c.data → PkOut wr w2 w.heap.size [] → (c.nums = [] → nv = .slice none 0 0) → Own w3 fs 71 4 (0 + 1) ([] ++ (frC c.ty nv dv).toList) → Fr (fun k => (Value.slice none 0 0).ownBlock = some k) (w2.alloc (.cells (frC c.ty nv dv) 71)) w3 → Hid (Grow w w3 ∧ FramesAt w3 fs c ∧ PkAt w3 w.heap.size [])) := Lib.hid fun w2 w3 nv dv fs h1 h2 h3 h4 h6 h7 => by
        have h5 : ∀ k, nv.ownBlock = some k → k < w2.heap.size := fun k hk => by
          by_cases hz : c.nums = []
          · rw [h4 hz] at hk; cases hk
          · obtain ⟨b, off, cur, e1, e2, _⟩ := Own.block h1 (List.length_pos_iff.2 hz)
            rw [e1] at hk
            have hk := Option.some.inj hk
            subst hk
            exact (Array.getElem?_eq_some_iff.1 e2).1
        have hG : Grow w2 w3 := ((Fr.refl _ w2).alloc _).trans (h7.mono (fun k _ e => nomatch e))
        have hG0 : Grow w w3 := by
          have g1 : Grow w w2 := Grow.trans' HP.out.2 h3.fr (fun k e => by omega)
          exact g1.trans hG
        obtain ⟨_, q, cap, rfl, hcap, hc63, hcc⟩ := h6
        rcases hcc with hcc | ⟨b, off, cur, rfl, hcur, _, hcs⟩
        · omega
        · exact Lib.hid ⟨hG0, ⟨b, off, cap, nv, dv, cur, rfl, hcap, hcur, (fun j u hj => hcs j u (by simpa using hj)), Own.keep h1 (fun k hk => hG.block k (h5 k hk) (fun e => e)), h4, h2.keep hG.bytes⟩, h3.at'.grow hG⟩
      clear hB
      go_wp2_with (first
        | (go_at_call 29; refine HF.out.mono ?_; rintro e w2 ⟨⟨nv, dv, rfl, hnv, hn0, hdv⟩, hO⟩; have HG := Lib.hid (And.intro hnv (And.intro hdv (And.intro hO hn0))); clear hnv hdv hO hn0)
        | (at_builtin; refine wpList_append_run _ rfl _ _ 66 rfl (.slice none 0 0) _ rfl rfl (run_appendFr HG.out.1 HG.out.2.1 c.ty) ?_; rintro fs w3 ⟨g1, g2⟩; have HE := HX.out w2 w3 nv dv fs HG.out.1 HG.out.2.1 HG.out.2.2.1 HG.out.2.2.2 g1 g2; clear g1 g2))
      go_roundg 0
      case measure => omega
      case rel => exact .inr ⟨rfl, rfl, HE⟩
    · obtain ⟨d, hd, hB⟩ := HE.out.2.2
      obtain ⟨pd, cd, hd1, _⟩ := id hd
      have hd2 : d = .slice pd 0 cd := hd1
      subst hd2
      have b0 : wr.cell? ⟨w.heap.size, 0, none⟩ = some (.slice pd 0 cd) := hB.cellAt 0 _ rfl
      have b1 : wr.cell? ⟨w.heap.size, 1, none⟩ = some (.bool false) := hB.cellAt 1 _ rfl
      have hltB := hB.lt
      obtain ⟨fb, fo, fc, fnv, fdv, fcur, hfs, _⟩ := HE.out.2.1
      subst hfs
      clear hd hB hd1
      go_wp2_with fail
      go_region
      go_wp2_with fail
      refine bodyPost_ret (v := .tuple #[.slice (some ⟨fb, fo, none⟩) 1 fc, .int .i64 0, .bool true]) (by simp [results, Try.results19, go_sem]) rfl ?_
      obtain ⟨b, o, cap, nv, dv, cur, h1, h2, h3, h4, h5, h6, h7⟩ := HE.out.2.1
      exact ⟨HE.out.1.drew, _, rfl, b, o, cap, nv, dv, cur, h1, h2, h3, h4, h5, h6, h7⟩
end Go.Proofs.Ytgdkbflhgcchfaa
