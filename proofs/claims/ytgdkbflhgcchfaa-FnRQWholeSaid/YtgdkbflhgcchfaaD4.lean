/- The reader of frames: one frame. -/
import Derived.Test.YtgdkbflhgcchfaaD2
namespace Go.Proofs.Ytgdkbflhgcchfaa
open Go.RowKit

/-- What the reader says of a frame. -/
def FrameSays (w : World) (p ty : Nat) (ns : List Nat) (d l : List UInt8) (e : Ending) (w' : World) : Prop :=
  (∃ nv dv, e = .returned (.agg #[u64v ty, nv, dv, .bool false]) ∧ OwnN w' nv ns ∧ (ns = [] → nv = .slice none 0 0) ∧ Rd w' dv d) ∧ PkOut w w' p l
theorem number_lit (w : World) (p n : Nat) (z : Int) (l : List UInt8) (hz : (n : Int) = z) (h : PkAt w p (V n ++ l)) (hn : n ≤ 4611686018427387903) (hl : l.length ≤ 90000) :
    Calls Try.prog 39 #[pt p] w fun e w' => e = .returned (.int .u64 z) ∧ PkOut w w' p l := by
  subst hz; exact number_ok w p n l h hn hl
theorem numbers_lit (w : World) (p k : Nat) (z : Int) (ns : List Nat) (l : List UInt8) (hz : (k : Int) = z) (hk : ns.length = k) (h : PkAt w p (Vs ns ++ l)) (hn : ∀ n ∈ ns, n ≤ 4611686018427387903) (h5 : k ≤ 5) (hl : l.length ≤ 10000) :
    Calls Try.prog 40 #[pt p, .int .i64 z] w fun e w' => (∃ v', e = .returned v' ∧ OwnN w' v' ns ∧ ∀ k, v'.ownBlock = some k → w.heap.size ≤ k ∧ k < w'.heap.size) ∧ PkOut w w' p l := by
  subst hz; subst hk; exact numbers_ok w p ns l h hn h5 hl
theorem Vs_le : ∀ ns : List Nat, (Vs ns).length ≤ 8 * ns.length
  | [] => by simp [Vs]
  | x :: xs => by
    have : Vs (x :: xs) = V x ++ Vs xs := by simp [Vs]
    rw [this, List.length_append, V_length, List.length_cons]
    have := vlen_le x
    have := Vs_le xs
    omega
/-- A frame's cells. -/
abbrev frC (ty : Nat) (nv dv : Value) : Array Value := #[.int .u64 (ty : Int), nv, dv, .bool false]
theorem OwnN.slice {w : World} {v : Value} {ns : List Nat} (h : OwnN w v ns) : ∃ p c, v = .slice p ns.length c := by
  obtain ⟨_, p, c, rfl, _⟩ := h
  exact ⟨p, c, rfl⟩
/-- Where a frame is being read. -/
structure FS (w w5 : World) (p F ty : Nat) (nv dv : Value) (ns : List Nat) (d l : List UInt8) : Prop where
  res : Blk w5 w.heap.size (frC 0 (.slice none 0 0) (.slice none 0 0)) 71
  frm : Blk w5 F (frC ty nv dv) 71
  nums : OwnN w5 nv ns
  apart : ∀ k, nv.ownBlock = some k → w.heap.size < k ∧ k ≠ F
  data : Rd w5 dv d
  pk : PkAt w5 p l
  fr : Fr (fun k => k = p) w w5
  lt : w.heap.size < F
  plt : p < w.heap.size
section
variable {w w5 : World} {p F ty : Nat} {nv dv : Value} {ns : List Nat} {d l : List UInt8}
theorem FS.first {w2 : World} (hp : p < w.heap.size) (h : PkOut (w.alloc (.cells (frC 0 (.slice none 0 0) (.slice none 0 0)) 71)) w2 p l) (ty : Nat) : FS w (w2.alloc (.cells (frC ty (.slice none 0 0) (.slice none 0 0)) 71)) p w2.heap.size ty (.slice none 0 0) (.slice none 0 0) [] [] l := by
  have hR := h.fr.blk (Blk.new w (frC 0 (.slice none 0 0) (.slice none 0 0)) 71) (fun e => by omega)
  exact ⟨hR.alloc _, Blk.new w2 _ _, Own.nil _ 30 1, (fun _ e => nomatch e), rd_nil _, h.at'.grow ((Fr.refl _ w2).alloc _), (((Fr.refl _ w).alloc _).trans h.fr).alloc _, hR.lt, hp⟩
theorem PkAt.set {q : Nat} {C : Array Value} (h : PkAt w5 p l) (hB : Blk w5 q C 71) (hq : p ≠ q) (i : Nat) (v : Value) : PkAt (w5.setCell ⟨q, i, none⟩ v) p l := by
  obtain ⟨dd, hd, hP⟩ := h
  exact ⟨dd, hd.set hB (by decide) i v, hP.setOther _ _ hq⟩
theorem FS.setNums {w6 : World} {nv' : Value} {ns' : List Nat} {l' : List UInt8} (h : FS w w5 p F ty nv dv ns d l) (hO : PkOut w5 w6 p l') (hn : OwnN w6 nv' ns') (hf : ∀ k, nv'.ownBlock = some k → w5.heap.size ≤ k ∧ k < w6.heap.size) : FS w (w6.setCell ⟨F, 1, none⟩ nv') p F ty nv' dv ns' d l' := by
  obtain ⟨h1, h2, h3, h4, h5, h6, h7, h8, h9⟩ := h
  have hpF : p ≠ F := by omega
  have g1 := hO.fr.blk h1 (fun e => by omega)
  have g2 := hO.fr.blk h2 (fun e => hpF e.symm)
  have hl1 := h1.lt
  have hl2 := h2.lt
  have hkb : KeepB w5 w6 := hO.fr.bytes (fun k hk hb => by
    subst hk
    obtain ⟨dd, _, hP⟩ := h6
    exact hP.noBytes (by decide) hb)
  exact ⟨g1.setOther _ _ (by show w.heap.size ≠ F; omega), g2.set 1 nv', Own.keep hn (fun b hb => Below.heap_setCell _ _ _ _ (fun e => by have := (hf b hb).1; have e : b = F := e; omega)), fun k hk => by have := (hf k hk).1; omega,
    (h5.keep hkb).set g2 (by decide) 1 nv', hO.at'.set g2 hpF 1 nv', (h7.trans hO.fr).setCell _ _ (.inr (by show w.heap.size ≤ F; omega)), h8, h9⟩
theorem FS.setData {w6 : World} {dv' : Value} {d' l' : List UInt8} (h : FS w w5 p F ty nv dv ns d l) (hO : PkOut w5 w6 p l') (hd : Rd w6 dv' d') (hne : ns ≠ [] ∨ nv = .slice none 0 0) : FS w (w6.setCell ⟨F, 2, none⟩ dv') p F ty nv dv' ns d' l' := by
  obtain ⟨h1, h2, h3, h4, h5, h6, h7, h8, h9⟩ := h
  have hpF : p ≠ F := by omega
  have g1 := hO.fr.blk h1 (fun e => by omega)
  have g2 := hO.fr.blk h2 (fun e => hpF e.symm)
  have hn6 : OwnN w6 nv ns := Own.keep h3 (fun b hb => by
    rcases hne with hne | rfl
    · obtain ⟨b', off, cur, e1, e2, _⟩ := Own.block h3 (List.length_pos_iff.2 hne)
      rw [e1] at hb
      have hb := Option.some.inj hb
      subst hb
      exact hO.fr.block b' (Array.getElem?_eq_some_iff.1 e2).1 (fun e => by have := h4 b' e1; omega)
    · cases hb)
  exact ⟨g1.setOther _ _ (by show w.heap.size ≠ F; omega), g2.set 2 dv', Own.keep hn6 (fun b hb => Below.heap_setCell _ _ _ _ (fun e => (h4 b hb).2 e)), h4,
    hd.set g2 (by decide) 2 dv', hO.at'.set g2 hpF 2 dv', (h7.trans hO.fr).setCell _ _ (.inr (by show w.heap.size ≤ F; omega)), h8, h9⟩
/-- The result is stored. -/
theorem FS.stored (h : FS w w5 p F ty nv dv ns d l) {W : World} (hW : W = (((w5.setCell ⟨w.heap.size, 0, none⟩ (.int .u64 (ty : Int))).setCell ⟨w.heap.size, 1, none⟩ nv).setCell ⟨w.heap.size, 2, none⟩ dv).setCell ⟨w.heap.size, 3, none⟩ (.bool false)) :
    Blk W w.heap.size (frC ty nv dv) 71 ∧ OwnN W nv ns ∧ Rd W dv d ∧ PkOut w W p l := by
  subst hW
  obtain ⟨h1, h2, h3, h4, h5, h6, h7, h8, h9⟩ := h
  have a1 := h1.set 0 (.int .u64 (ty : Int))
  have a2 := a1.set 1 nv
  have a3 := a2.set 2 dv
  have a4 := a3.set 3 (.bool false)
  have hk : ∀ k, nv.ownBlock = some k → k ≠ w.heap.size := fun k e => by have := (h4 k e).1; omega
  refine ⟨a4, ?_, (((h5.set h1 (by decide) _ _).set a1 (by decide) _ _).set a2 (by decide) _ _).set a3 (by decide) _ _, (((h6.set h1 (by omega) _ _).set a1 (by omega) _ _).set a2 (by omega) _ _).set a3 (by omega) _ _,
    (((h7.setCell _ _ (.inr (Nat.le_refl _))).setCell _ _ (.inr (Nat.le_refl _))).setCell _ _ (.inr (Nat.le_refl _))).setCell _ _ (.inr (Nat.le_refl _))⟩
  exact Own.keep (Own.keep (Own.keep (Own.keep h3 (fun b hb => Below.heap_setCell _ _ _ _ (hk b hb))) (fun b hb => Below.heap_setCell _ _ _ _ (hk b hb))) (fun b hb => Below.heap_setCell _ _ _ _ (hk b hb))) (fun b hb => Below.heap_setCell _ _ _ _ (hk b hb))
theorem stored0 {w2 W : World} (hp : p < w.heap.size) (h : PkOut (w.alloc (.cells (frC 0 (.slice none 0 0) (.slice none 0 0)) 71)) w2 p l) (hW : W = ((((w2.setCell ⟨w.heap.size, 0, none⟩ (.int .u64 (ty : Int))).setCell ⟨w.heap.size, 1, none⟩ (.slice none 0 0)).setCell ⟨w.heap.size, 2, none⟩ (.slice none 0 0)).setCell ⟨w.heap.size, 3, none⟩ (.bool false)).alloc (.cells (frC ty (.slice none 0 0) (.slice none 0 0)) 71)) :
    Blk W w.heap.size (frC ty (.slice none 0 0) (.slice none 0 0)) 71 ∧ PkOut w W p l := by
  subst hW
  have h1 := h.fr.blk (Blk.new w (frC 0 (.slice none 0 0) (.slice none 0 0)) 71) (fun e => by omega)
  have a1 := h1.set 0 (.int .u64 (ty : Int))
  have a2 := a1.set 1 (.slice none 0 0)
  have a3 := a2.set 2 (.slice none 0 0)
  have a4 := a3.set 3 (.bool false)
  have hpR : p ≠ w.heap.size := by omega
  exact ⟨a4.alloc _, ((((h.at'.set h1 hpR _ _).set a1 hpR _ _).set a2 hpR _ _).set a3 hpR _ _).grow ((Fr.refl _ _).alloc _), ((((((Fr.refl _ w).alloc _).trans h.fr).setCell _ _ (.inr (Nat.le_refl _))).setCell _ _ (.inr (Nat.le_refl _))).setCell _ _ (.inr (Nat.le_refl _))).setCell _ _ (.inr (Nat.le_refl _)) |>.alloc _⟩
end
set_option maxRecDepth 100000 in
set_option maxHeartbeats 1000000 in
theorem frame_25 (w : World) (p : Nat) (ns : List Nat) (hk : ns.length = 1) (hn : ∀ n ∈ ns, n ≤ 4611686018427387903) (l : List UInt8) (hl : l.length ≤ 5000) (h : PkAt w p (V 25 ++ (Vs ns ++ l))) :
    Calls Try.prog 29 #[pt p] w (FrameSays w p 25 ns [] l) := by
  have hpl : p < w.heap.size := by obtain ⟨d, _, hB⟩ := h; exact hB.lt
  have hvl : (Vs ns ++ l).length ≤ 90000 := by
    have := Vs_le ns
    rw [List.length_append]; omega
  have HN := Lib.hid (number_lit (w.alloc (.cells (frC 0 (.slice none 0 0) (.slice none 0 0)) 71)) p 25 25 (Vs ns ++ l) rfl (h.grow ((Fr.refl _ w).alloc _)) (by omega) hvl)
  clear h hvl
  go_enter Try.func29, Try.ntmps29
  go_wp2_with fail
  refine HN.out.mono ?_
  rintro e w2 ⟨rfl, hO⟩
  have HS0 := Lib.hid (FS.first hpl hO 25)
  clear hO
  go_wp2_with fail
  have hfold : #[Value.int IntKind.u64 25, .slice none 0 0, .slice none 0 0, .bool false] = frC 25 (.slice none 0 0) (.slice none 0 0) := rfl
  rw [hfold]
  clear hfold
  have HS := HS0
  generalize (w2.alloc (.cells (frC 25 (.slice none 0 0) (.slice none 0 0)) 71)) = w3 at *
  clear HS0
  refine (numbers_lit w3 p 1 1 ns l rfl hk HS.out.pk hn (by omega) (by omega)).mono ?_
  rintro e w4 ⟨⟨nv, rfl, hnv, hfn⟩, hO⟩
  obtain ⟨pn, cn, rfl⟩ := hnv.slice
  have HS4 := Lib.hid (HS.out.setNums hO hnv hfn)
  rw [hk] at HS4
  have HSF := Lib.hid (And.intro (hO.fr.blk HS.out.frm (fun e => by have := HS.out.lt; omega)) (hO.fr.blk HS.out.res (fun e => by omega)))
  clear hnv hfn hO
  have hres := HSF.out.2
  have hfrm := HSF.out.1
  have x0 : w4.cell? ⟨w2.heap.size, 0, none⟩ = some (.int .u64 25) := hfrm.cellAt 0 _ rfl
  have x1 : w4.cell? ⟨w2.heap.size, 1, none⟩ = some (.slice none 0 0) := hfrm.cellAt 1 _ rfl
  have x2 : w4.cell? ⟨w2.heap.size, 2, none⟩ = some (.slice none 0 0) := hfrm.cellAt 2 _ rfl
  have x3 : w4.cell? ⟨w2.heap.size, 3, none⟩ = some (.bool false) := hfrm.cellAt 3 _ rfl
  have y0 : w4.cell? ⟨w.heap.size, 0, none⟩ = some (.int .u64 0) := hres.cellAt 0 _ rfl
  have y1 : w4.cell? ⟨w.heap.size, 1, none⟩ = some (.slice none 0 0) := hres.cellAt 1 _ rfl
  have y2 : w4.cell? ⟨w.heap.size, 2, none⟩ = some (.slice none 0 0) := hres.cellAt 2 _ rfl
  have y3 : w4.cell? ⟨w.heap.size, 3, none⟩ = some (.bool false) := hres.cellAt 3 _ rfl
  have hltF := hfrm.lt
  have hltR := hres.lt
  have hfF := hfrm.free
  have hfR := hres.free
  have hneF := HS.out.lt
  have hne : w.heap.size ≠ w2.heap.size := by omega
  have hne' : w2.heap.size ≠ w.heap.size := by omega
  clear hres hfrm hneF
  go_wp2_with fail
  have HE := Lib.hid (HS4.out.stored rfl)
  generalize (((((w4.setCell ⟨w2.heap.size, 1, none⟩ (.slice pn 1 cn)).setCell ⟨w.heap.size, 0, none⟩ (.int .u64 25)).setCell ⟨w.heap.size, 1, none⟩ (.slice pn 1 cn)).setCell ⟨w.heap.size, 2, none⟩ (.slice none 0 0)).setCell ⟨w.heap.size, 3, none⟩ (.bool false)) = W at *
  have hE := HE.out.1
  have z0 : W.cell? ⟨w.heap.size, 0, none⟩ = some (.int .u64 25) := hE.cellAt 0 _ rfl
  have z1 : W.cell? ⟨w.heap.size, 1, none⟩ = some (.slice pn 1 cn) := hE.cellAt 1 _ rfl
  have z2 : W.cell? ⟨w.heap.size, 2, none⟩ = some (.slice none 0 0) := hE.cellAt 2 _ rfl
  have z3 : W.cell? ⟨w.heap.size, 3, none⟩ = some (.bool false) := hE.cellAt 3 _ rfl
  refine bodyPost_ret (v := .agg (frC 25 (.slice pn 1 cn) (.slice none 0 0))) (by simp [results, Try.results29, go_sem, z0, z1, z2, z3]) rfl ?_
  exact ⟨⟨_, _, rfl, HE.out.2.1, (fun e => by rw [e] at hk; cases hk), HE.out.2.2.1⟩, HE.out.2.2.2⟩
set_option maxRecDepth 100000 in
set_option maxHeartbeats 1000000 in
theorem frame_6 (w : World) (p : Nat) (ns : List Nat) (hk : ns.length = 1) (hn : ∀ n ∈ ns, n ≤ 4611686018427387903) (d : List UInt8) (hd : d.length ≤ 1000) (l : List UInt8) (hl : l.length ≤ 5000) (h : PkAt w p (V 6 ++ (Vs ns ++ (V d.length ++ (d ++ l))))) :
    Calls Try.prog 29 #[pt p] w (FrameSays w p 6 ns d l) := by
  have hpl : p < w.heap.size := by obtain ⟨d, _, hB⟩ := h; exact hB.lt
  have hdl : (V d.length ++ (d ++ l)).length ≤ 10000 := by
    have := vlen_le d.length
    rw [List.length_append, List.length_append, V_length]; omega
  have hvl : (Vs ns ++ (V d.length ++ (d ++ l))).length ≤ 90000 := by
    have := Vs_le ns
    rw [List.length_append]; omega
  have HN := Lib.hid (number_lit (w.alloc (.cells (frC 0 (.slice none 0 0) (.slice none 0 0)) 71)) p 6 6 (Vs ns ++ (V d.length ++ (d ++ l))) rfl (h.grow ((Fr.refl _ w).alloc _)) (by omega) hvl)
  clear h hvl
  go_enter Try.func29, Try.ntmps29
  go_wp2_with fail
  refine HN.out.mono ?_
  rintro e w2 ⟨rfl, hO⟩
  have HS0 := Lib.hid (FS.first hpl hO 6)
  clear hO
  go_wp2_with fail
  have hfold : #[Value.int IntKind.u64 6, .slice none 0 0, .slice none 0 0, .bool false] = frC 6 (.slice none 0 0) (.slice none 0 0) := rfl
  rw [hfold]
  clear hfold
  have HS := HS0
  generalize (w2.alloc (.cells (frC 6 (.slice none 0 0) (.slice none 0 0)) 71)) = w3 at *
  clear HS0
  refine (numbers_lit w3 p 1 1 ns (V d.length ++ (d ++ l)) rfl hk HS.out.pk hn (by omega) hdl).mono ?_
  rintro e w4 ⟨⟨nv, rfl, hnv, hfn⟩, hO⟩
  obtain ⟨pn, cn, rfl⟩ := hnv.slice
  have HS4 := Lib.hid (HS.out.setNums hO hnv hfn)
  rw [hk] at HS4
  have HSF := Lib.hid (And.intro (hO.fr.blk HS.out.frm (fun e => by have := HS.out.lt; omega)) (hO.fr.blk HS.out.res (fun e => by omega)))
  clear hnv hfn hO
  have hres := HSF.out.2
  have hfrm := HSF.out.1
  have x0 : w4.cell? ⟨w2.heap.size, 0, none⟩ = some (.int .u64 6) := hfrm.cellAt 0 _ rfl
  have x1 : w4.cell? ⟨w2.heap.size, 1, none⟩ = some (.slice none 0 0) := hfrm.cellAt 1 _ rfl
  have x2 : w4.cell? ⟨w2.heap.size, 2, none⟩ = some (.slice none 0 0) := hfrm.cellAt 2 _ rfl
  have x3 : w4.cell? ⟨w2.heap.size, 3, none⟩ = some (.bool false) := hfrm.cellAt 3 _ rfl
  have y0 : w4.cell? ⟨w.heap.size, 0, none⟩ = some (.int .u64 0) := hres.cellAt 0 _ rfl
  have y1 : w4.cell? ⟨w.heap.size, 1, none⟩ = some (.slice none 0 0) := hres.cellAt 1 _ rfl
  have y2 : w4.cell? ⟨w.heap.size, 2, none⟩ = some (.slice none 0 0) := hres.cellAt 2 _ rfl
  have y3 : w4.cell? ⟨w.heap.size, 3, none⟩ = some (.bool false) := hres.cellAt 3 _ rfl
  have hltF := hfrm.lt
  have hltR := hres.lt
  have hfF := hfrm.free
  have hfR := hres.free
  have hneF := HS.out.lt
  have hne : w.heap.size ≠ w2.heap.size := by omega
  have hne' : w2.heap.size ≠ w.heap.size := by omega
  clear hres hfrm hneF
  go_wp2_with fail
  clear x0 x1 x2 x3 y0 y1 y2 y3 hltF hltR hfF hfR hne hne'
  generalize w4.setCell ⟨w2.heap.size, 1, none⟩ (.slice pn 1 cn) = w5 at *
  refine (counted_ok w5 p d l HS4.out.pk (by omega) (by omega)).mono ?_
  rintro e w6 ⟨⟨dv, rfl, hdv, hfd⟩, hO⟩
  obtain ⟨pd, cd, rfl, _⟩ := id hdv.rd
  have HS6 := Lib.hid (HS4.out.setData hO hdv.rd (.inl (by intro e; rw [e] at hk; cases hk)))
  have HSG := Lib.hid (And.intro (hO.fr.blk HS4.out.frm (fun e => by have := HS4.out.lt; omega)) (hO.fr.blk HS4.out.res (fun e => by omega)))
  clear hdv hfd hO
  have hres := HSG.out.2
  have hfrm := HSG.out.1
  have x0 : w6.cell? ⟨w2.heap.size, 0, none⟩ = some (.int .u64 6) := hfrm.cellAt 0 _ rfl
  have x1 : w6.cell? ⟨w2.heap.size, 1, none⟩ = some (.slice pn 1 cn) := hfrm.cellAt 1 _ rfl
  have x2 : w6.cell? ⟨w2.heap.size, 2, none⟩ = some (.slice none 0 0) := hfrm.cellAt 2 _ rfl
  have x3 : w6.cell? ⟨w2.heap.size, 3, none⟩ = some (.bool false) := hfrm.cellAt 3 _ rfl
  have y0 : w6.cell? ⟨w.heap.size, 0, none⟩ = some (.int .u64 0) := hres.cellAt 0 _ rfl
  have y1 : w6.cell? ⟨w.heap.size, 1, none⟩ = some (.slice none 0 0) := hres.cellAt 1 _ rfl
  have y2 : w6.cell? ⟨w.heap.size, 2, none⟩ = some (.slice none 0 0) := hres.cellAt 2 _ rfl
  have y3 : w6.cell? ⟨w.heap.size, 3, none⟩ = some (.bool false) := hres.cellAt 3 _ rfl
  have hltF := hfrm.lt
  have hltR := hres.lt
  have hfF := hfrm.free
  have hfR := hres.free
  have hneF := HS.out.lt
  have hne : w.heap.size ≠ w2.heap.size := by omega
  have hne' : w2.heap.size ≠ w.heap.size := by omega
  clear hres hfrm hneF
  go_wp2_with fail
  have HE := Lib.hid (HS6.out.stored rfl)
  generalize (((((w6.setCell ⟨w2.heap.size, 2, none⟩ (.slice pd d.length cd)).setCell ⟨w.heap.size, 0, none⟩ (.int .u64 6)).setCell ⟨w.heap.size, 1, none⟩ (.slice pn 1 cn)).setCell ⟨w.heap.size, 2, none⟩ (.slice pd d.length cd)).setCell ⟨w.heap.size, 3, none⟩ (.bool false)) = W at *
  have hE := HE.out.1
  have z0 : W.cell? ⟨w.heap.size, 0, none⟩ = some (.int .u64 6) := hE.cellAt 0 _ rfl
  have z1 : W.cell? ⟨w.heap.size, 1, none⟩ = some (.slice pn 1 cn) := hE.cellAt 1 _ rfl
  have z2 : W.cell? ⟨w.heap.size, 2, none⟩ = some (.slice pd d.length cd) := hE.cellAt 2 _ rfl
  have z3 : W.cell? ⟨w.heap.size, 3, none⟩ = some (.bool false) := hE.cellAt 3 _ rfl
  refine bodyPost_ret (v := .agg (frC 6 (.slice pn 1 cn) (.slice pd d.length cd))) (by simp [results, Try.results29, go_sem, z0, z1, z2, z3]) rfl ?_
  exact ⟨⟨_, _, rfl, HE.out.2.1, (fun e => by rw [e] at hk; cases hk), HE.out.2.2.1⟩, HE.out.2.2.2⟩
set_option maxRecDepth 100000 in
set_option maxHeartbeats 1000000 in
theorem frame_7 (w : World) (p : Nat) (d : List UInt8) (hd : d.length ≤ 1000) (l : List UInt8) (hl : l.length ≤ 5000) (h : PkAt w p (V 7 ++ (V d.length ++ (d ++ l)))) :
    Calls Try.prog 29 #[pt p] w (FrameSays w p 7 [] d l) := by
  have hpl : p < w.heap.size := by obtain ⟨d, _, hB⟩ := h; exact hB.lt
  have hdl : (V d.length ++ (d ++ l)).length ≤ 10000 := by
    have := vlen_le d.length
    rw [List.length_append, List.length_append, V_length]; omega
  have HN := Lib.hid (number_lit (w.alloc (.cells (frC 0 (.slice none 0 0) (.slice none 0 0)) 71)) p 7 7 (V d.length ++ (d ++ l)) rfl (h.grow ((Fr.refl _ w).alloc _)) (by omega) (by omega))
  clear h
  go_enter Try.func29, Try.ntmps29
  go_wp2_with fail
  refine HN.out.mono ?_
  rintro e w2 ⟨rfl, hO⟩
  have HS0 := Lib.hid (FS.first hpl hO 7)
  clear hO
  go_wp2_with fail
  have hfold : #[Value.int IntKind.u64 7, .slice none 0 0, .slice none 0 0, .bool false] = frC 7 (.slice none 0 0) (.slice none 0 0) := rfl
  rw [hfold]
  clear hfold
  have HS := HS0
  generalize (w2.alloc (.cells (frC 7 (.slice none 0 0) (.slice none 0 0)) 71)) = w3 at *
  clear HS0
  refine (counted_ok w3 p d l HS.out.pk (by omega) (by omega)).mono ?_
  rintro e w6 ⟨⟨dv, rfl, hdv, hfd⟩, hO⟩
  obtain ⟨pd, cd, rfl, _⟩ := id hdv.rd
  have HS6 := Lib.hid (HS.out.setData hO hdv.rd (.inr rfl))
  have HSG := Lib.hid (And.intro (hO.fr.blk HS.out.frm (fun e => by have := HS.out.lt; omega)) (hO.fr.blk HS.out.res (fun e => by omega)))
  clear hdv hfd hO
  have hres := HSG.out.2
  have hfrm := HSG.out.1
  have x0 : w6.cell? ⟨w2.heap.size, 0, none⟩ = some (.int .u64 7) := hfrm.cellAt 0 _ rfl
  have x1 : w6.cell? ⟨w2.heap.size, 1, none⟩ = some (.slice none 0 0) := hfrm.cellAt 1 _ rfl
  have x2 : w6.cell? ⟨w2.heap.size, 2, none⟩ = some (.slice none 0 0) := hfrm.cellAt 2 _ rfl
  have x3 : w6.cell? ⟨w2.heap.size, 3, none⟩ = some (.bool false) := hfrm.cellAt 3 _ rfl
  have y0 : w6.cell? ⟨w.heap.size, 0, none⟩ = some (.int .u64 0) := hres.cellAt 0 _ rfl
  have y1 : w6.cell? ⟨w.heap.size, 1, none⟩ = some (.slice none 0 0) := hres.cellAt 1 _ rfl
  have y2 : w6.cell? ⟨w.heap.size, 2, none⟩ = some (.slice none 0 0) := hres.cellAt 2 _ rfl
  have y3 : w6.cell? ⟨w.heap.size, 3, none⟩ = some (.bool false) := hres.cellAt 3 _ rfl
  have hltF := hfrm.lt
  have hltR := hres.lt
  have hfF := hfrm.free
  have hfR := hres.free
  have hneF := HS.out.lt
  have hne : w.heap.size ≠ w2.heap.size := by omega
  have hne' : w2.heap.size ≠ w.heap.size := by omega
  clear hres hfrm hneF
  go_wp2_with fail
  have HE := Lib.hid (HS6.out.stored rfl)
  generalize (((((w6.setCell ⟨w2.heap.size, 2, none⟩ (.slice pd d.length cd)).setCell ⟨w.heap.size, 0, none⟩ (.int .u64 7)).setCell ⟨w.heap.size, 1, none⟩ (.slice none 0 0)).setCell ⟨w.heap.size, 2, none⟩ (.slice pd d.length cd)).setCell ⟨w.heap.size, 3, none⟩ (.bool false)) = W at *
  have hE := HE.out.1
  have z0 : W.cell? ⟨w.heap.size, 0, none⟩ = some (.int .u64 7) := hE.cellAt 0 _ rfl
  have z1 : W.cell? ⟨w.heap.size, 1, none⟩ = some (.slice none 0 0) := hE.cellAt 1 _ rfl
  have z2 : W.cell? ⟨w.heap.size, 2, none⟩ = some (.slice pd d.length cd) := hE.cellAt 2 _ rfl
  have z3 : W.cell? ⟨w.heap.size, 3, none⟩ = some (.bool false) := hE.cellAt 3 _ rfl
  refine bodyPost_ret (v := .agg (frC 7 (.slice none 0 0) (.slice pd d.length cd))) (by simp [results, Try.results29, go_sem, z0, z1, z2, z3]) rfl ?_
  exact ⟨⟨_, _, rfl, HE.out.2.1, (fun _ => rfl), HE.out.2.2.1⟩, HE.out.2.2.2⟩
set_option maxRecDepth 100000 in
set_option maxHeartbeats 1000000 in
theorem frame_1 (w : World) (p : Nat) (l : List UInt8) (hl : l.length ≤ 5000) (h : PkAt w p (V 1 ++ l)) :
    Calls Try.prog 29 #[pt p] w (FrameSays w p 1 [] [] l) := by
  have hpl : p < w.heap.size := by obtain ⟨d, _, hB⟩ := h; exact hB.lt
  have HN := Lib.hid (number_lit (w.alloc (.cells (frC 0 (.slice none 0 0) (.slice none 0 0)) 71)) p 1 1 l rfl (h.grow ((Fr.refl _ w).alloc _)) (by omega) (by omega))
  clear h
  go_enter Try.func29, Try.ntmps29
  go_wp2_with fail
  refine HN.out.mono ?_
  rintro e w2 ⟨rfl, hO⟩
  have HS0 := Lib.hid (stored0 (ty := 1) hpl hO rfl)
  have hR := hO.fr.blk (Blk.new w (frC 0 (.slice none 0 0) (.slice none 0 0)) 71) (fun e => by omega)
  clear hO
  have y0 : w2.cell? ⟨w.heap.size, 0, none⟩ = some (.int .u64 0) := hR.cellAt 0 _ rfl
  have y1 : w2.cell? ⟨w.heap.size, 1, none⟩ = some (.slice none 0 0) := hR.cellAt 1 _ rfl
  have y2 : w2.cell? ⟨w.heap.size, 2, none⟩ = some (.slice none 0 0) := hR.cellAt 2 _ rfl
  have y3 : w2.cell? ⟨w.heap.size, 3, none⟩ = some (.bool false) := hR.cellAt 3 _ rfl
  have hltR := hR.lt
  have hfR := hR.free
  clear hR
  go_wp2_with fail
  have HE := HS0
  generalize ((((w2.setCell ⟨w.heap.size, 0, none⟩ (.int .u64 1)).setCell ⟨w.heap.size, 1, none⟩ (.slice none 0 0)).setCell ⟨w.heap.size, 2, none⟩ (.slice none 0 0)).setCell ⟨w.heap.size, 3, none⟩ (.bool false)).alloc (.cells (frC 1 (.slice none 0 0) (.slice none 0 0)) 71) = W at *
  have hE := HE.out.1
  have z0 : W.cell? ⟨w.heap.size, 0, none⟩ = some (.int .u64 1) := hE.cellAt 0 _ rfl
  have z1 : W.cell? ⟨w.heap.size, 1, none⟩ = some (.slice none 0 0) := hE.cellAt 1 _ rfl
  have z2 : W.cell? ⟨w.heap.size, 2, none⟩ = some (.slice none 0 0) := hE.cellAt 2 _ rfl
  have z3 : W.cell? ⟨w.heap.size, 3, none⟩ = some (.bool false) := hE.cellAt 3 _ rfl
  refine bodyPost_ret (v := .agg (frC 1 (.slice none 0 0) (.slice none 0 0))) (by simp [results, Try.results29, go_sem, z0, z1, z2, z3]) rfl ?_
  exact ⟨⟨_, _, rfl, Own.nil _ 30 1, (fun _ => rfl), rd_nil _⟩, HE.out.2⟩
set_option maxRecDepth 100000 in
set_option maxHeartbeats 1000000 in
theorem frame_30 (w : World) (p : Nat) (l : List UInt8) (hl : l.length ≤ 5000) (h : PkAt w p (V 30 ++ l)) :
    Calls Try.prog 29 #[pt p] w (FrameSays w p 30 [] [] l) := by
  have hpl : p < w.heap.size := by obtain ⟨d, _, hB⟩ := h; exact hB.lt
  have HN := Lib.hid (number_lit (w.alloc (.cells (frC 0 (.slice none 0 0) (.slice none 0 0)) 71)) p 30 30 l rfl (h.grow ((Fr.refl _ w).alloc _)) (by omega) (by omega))
  clear h
  go_enter Try.func29, Try.ntmps29
  go_wp2_with fail
  refine HN.out.mono ?_
  rintro e w2 ⟨rfl, hO⟩
  have HS0 := Lib.hid (stored0 (ty := 30) hpl hO rfl)
  have hR := hO.fr.blk (Blk.new w (frC 0 (.slice none 0 0) (.slice none 0 0)) 71) (fun e => by omega)
  clear hO
  have y0 : w2.cell? ⟨w.heap.size, 0, none⟩ = some (.int .u64 0) := hR.cellAt 0 _ rfl
  have y1 : w2.cell? ⟨w.heap.size, 1, none⟩ = some (.slice none 0 0) := hR.cellAt 1 _ rfl
  have y2 : w2.cell? ⟨w.heap.size, 2, none⟩ = some (.slice none 0 0) := hR.cellAt 2 _ rfl
  have y3 : w2.cell? ⟨w.heap.size, 3, none⟩ = some (.bool false) := hR.cellAt 3 _ rfl
  have hltR := hR.lt
  have hfR := hR.free
  clear hR
  go_wp2_with fail
  have HE := HS0
  generalize ((((w2.setCell ⟨w.heap.size, 0, none⟩ (.int .u64 30)).setCell ⟨w.heap.size, 1, none⟩ (.slice none 0 0)).setCell ⟨w.heap.size, 2, none⟩ (.slice none 0 0)).setCell ⟨w.heap.size, 3, none⟩ (.bool false)).alloc (.cells (frC 30 (.slice none 0 0) (.slice none 0 0)) 71) = W at *
  have hE := HE.out.1
  have z0 : W.cell? ⟨w.heap.size, 0, none⟩ = some (.int .u64 30) := hE.cellAt 0 _ rfl
  have z1 : W.cell? ⟨w.heap.size, 1, none⟩ = some (.slice none 0 0) := hE.cellAt 1 _ rfl
  have z2 : W.cell? ⟨w.heap.size, 2, none⟩ = some (.slice none 0 0) := hE.cellAt 2 _ rfl
  have z3 : W.cell? ⟨w.heap.size, 3, none⟩ = some (.bool false) := hE.cellAt 3 _ rfl
  refine bodyPost_ret (v := .agg (frC 30 (.slice none 0 0) (.slice none 0 0))) (by simp [results, Try.results29, go_sem, z0, z1, z2, z3]) rfl ?_
  exact ⟨⟨_, _, rfl, Own.nil _ 30 1, (fun _ => rfl), rd_nil _⟩, HE.out.2⟩
set_option maxRecDepth 100000 in
set_option maxHeartbeats 1000000 in
theorem frame_4 (w : World) (p : Nat) (ns : List Nat) (hk : ns.length = 3) (hn : ∀ n ∈ ns, n ≤ 4611686018427387903) (l : List UInt8) (hl : l.length ≤ 5000) (h : PkAt w p (V 4 ++ (Vs ns ++ l))) :
    Calls Try.prog 29 #[pt p] w (FrameSays w p 4 ns [] l) := by
  have hpl : p < w.heap.size := by obtain ⟨d, _, hB⟩ := h; exact hB.lt
  have hvl : (Vs ns ++ l).length ≤ 90000 := by
    have := Vs_le ns
    rw [List.length_append]; omega
  have HN := Lib.hid (number_lit (w.alloc (.cells (frC 0 (.slice none 0 0) (.slice none 0 0)) 71)) p 4 4 (Vs ns ++ l) rfl (h.grow ((Fr.refl _ w).alloc _)) (by omega) hvl)
  clear h hvl
  go_enter Try.func29, Try.ntmps29
  go_wp2_with fail
  refine HN.out.mono ?_
  rintro e w2 ⟨rfl, hO⟩
  have HS0 := Lib.hid (FS.first hpl hO 4)
  clear hO
  go_wp2_with fail
  have hfold : #[Value.int IntKind.u64 4, .slice none 0 0, .slice none 0 0, .bool false] = frC 4 (.slice none 0 0) (.slice none 0 0) := rfl
  rw [hfold]
  clear hfold
  have HS := HS0
  generalize (w2.alloc (.cells (frC 4 (.slice none 0 0) (.slice none 0 0)) 71)) = w3 at *
  clear HS0
  refine (numbers_lit w3 p 3 3 ns l rfl hk HS.out.pk hn (by omega) (by omega)).mono ?_
  rintro e w4 ⟨⟨nv, rfl, hnv, hfn⟩, hO⟩
  obtain ⟨pn, cn, rfl⟩ := hnv.slice
  have HS4 := Lib.hid (HS.out.setNums hO hnv hfn)
  rw [hk] at HS4
  have HSF := Lib.hid (And.intro (hO.fr.blk HS.out.frm (fun e => by have := HS.out.lt; omega)) (hO.fr.blk HS.out.res (fun e => by omega)))
  clear hnv hfn hO
  have hres := HSF.out.2
  have hfrm := HSF.out.1
  have x0 : w4.cell? ⟨w2.heap.size, 0, none⟩ = some (.int .u64 4) := hfrm.cellAt 0 _ rfl
  have x1 : w4.cell? ⟨w2.heap.size, 1, none⟩ = some (.slice none 0 0) := hfrm.cellAt 1 _ rfl
  have x2 : w4.cell? ⟨w2.heap.size, 2, none⟩ = some (.slice none 0 0) := hfrm.cellAt 2 _ rfl
  have x3 : w4.cell? ⟨w2.heap.size, 3, none⟩ = some (.bool false) := hfrm.cellAt 3 _ rfl
  have y0 : w4.cell? ⟨w.heap.size, 0, none⟩ = some (.int .u64 0) := hres.cellAt 0 _ rfl
  have y1 : w4.cell? ⟨w.heap.size, 1, none⟩ = some (.slice none 0 0) := hres.cellAt 1 _ rfl
  have y2 : w4.cell? ⟨w.heap.size, 2, none⟩ = some (.slice none 0 0) := hres.cellAt 2 _ rfl
  have y3 : w4.cell? ⟨w.heap.size, 3, none⟩ = some (.bool false) := hres.cellAt 3 _ rfl
  have hltF := hfrm.lt
  have hltR := hres.lt
  have hfF := hfrm.free
  have hfR := hres.free
  have hneF := HS.out.lt
  have hne : w.heap.size ≠ w2.heap.size := by omega
  have hne' : w2.heap.size ≠ w.heap.size := by omega
  clear hres hfrm hneF
  go_wp2_with fail
  have HE := Lib.hid (HS4.out.stored rfl)
  generalize (((((w4.setCell ⟨w2.heap.size, 1, none⟩ (.slice pn 3 cn)).setCell ⟨w.heap.size, 0, none⟩ (.int .u64 4)).setCell ⟨w.heap.size, 1, none⟩ (.slice pn 3 cn)).setCell ⟨w.heap.size, 2, none⟩ (.slice none 0 0)).setCell ⟨w.heap.size, 3, none⟩ (.bool false)) = W at *
  have hE := HE.out.1
  have z0 : W.cell? ⟨w.heap.size, 0, none⟩ = some (.int .u64 4) := hE.cellAt 0 _ rfl
  have z1 : W.cell? ⟨w.heap.size, 1, none⟩ = some (.slice pn 3 cn) := hE.cellAt 1 _ rfl
  have z2 : W.cell? ⟨w.heap.size, 2, none⟩ = some (.slice none 0 0) := hE.cellAt 2 _ rfl
  have z3 : W.cell? ⟨w.heap.size, 3, none⟩ = some (.bool false) := hE.cellAt 3 _ rfl
  refine bodyPost_ret (v := .agg (frC 4 (.slice pn 3 cn) (.slice none 0 0))) (by simp [results, Try.results29, go_sem, z0, z1, z2, z3]) rfl ?_
  exact ⟨⟨_, _, rfl, HE.out.2.1, (fun e => by rw [e] at hk; cases hk), HE.out.2.2.1⟩, HE.out.2.2.2⟩
set_option maxRecDepth 100000 in
set_option maxHeartbeats 1000000 in
theorem frame_5 (w : World) (p : Nat) (ns : List Nat) (hk : ns.length = 2) (hn : ∀ n ∈ ns, n ≤ 4611686018427387903) (l : List UInt8) (hl : l.length ≤ 5000) (h : PkAt w p (V 5 ++ (Vs ns ++ l))) :
    Calls Try.prog 29 #[pt p] w (FrameSays w p 5 ns [] l) := by
  have hpl : p < w.heap.size := by obtain ⟨d, _, hB⟩ := h; exact hB.lt
  have hvl : (Vs ns ++ l).length ≤ 90000 := by
    have := Vs_le ns
    rw [List.length_append]; omega
  have HN := Lib.hid (number_lit (w.alloc (.cells (frC 0 (.slice none 0 0) (.slice none 0 0)) 71)) p 5 5 (Vs ns ++ l) rfl (h.grow ((Fr.refl _ w).alloc _)) (by omega) hvl)
  clear h hvl
  go_enter Try.func29, Try.ntmps29
  go_wp2_with fail
  refine HN.out.mono ?_
  rintro e w2 ⟨rfl, hO⟩
  have HS0 := Lib.hid (FS.first hpl hO 5)
  clear hO
  go_wp2_with fail
  have hfold : #[Value.int IntKind.u64 5, .slice none 0 0, .slice none 0 0, .bool false] = frC 5 (.slice none 0 0) (.slice none 0 0) := rfl
  rw [hfold]
  clear hfold
  have HS := HS0
  generalize (w2.alloc (.cells (frC 5 (.slice none 0 0) (.slice none 0 0)) 71)) = w3 at *
  clear HS0
  refine (numbers_lit w3 p 2 2 ns l rfl hk HS.out.pk hn (by omega) (by omega)).mono ?_
  rintro e w4 ⟨⟨nv, rfl, hnv, hfn⟩, hO⟩
  obtain ⟨pn, cn, rfl⟩ := hnv.slice
  have HS4 := Lib.hid (HS.out.setNums hO hnv hfn)
  rw [hk] at HS4
  have HSF := Lib.hid (And.intro (hO.fr.blk HS.out.frm (fun e => by have := HS.out.lt; omega)) (hO.fr.blk HS.out.res (fun e => by omega)))
  clear hnv hfn hO
  have hres := HSF.out.2
  have hfrm := HSF.out.1
  have x0 : w4.cell? ⟨w2.heap.size, 0, none⟩ = some (.int .u64 5) := hfrm.cellAt 0 _ rfl
  have x1 : w4.cell? ⟨w2.heap.size, 1, none⟩ = some (.slice none 0 0) := hfrm.cellAt 1 _ rfl
  have x2 : w4.cell? ⟨w2.heap.size, 2, none⟩ = some (.slice none 0 0) := hfrm.cellAt 2 _ rfl
  have x3 : w4.cell? ⟨w2.heap.size, 3, none⟩ = some (.bool false) := hfrm.cellAt 3 _ rfl
  have y0 : w4.cell? ⟨w.heap.size, 0, none⟩ = some (.int .u64 0) := hres.cellAt 0 _ rfl
  have y1 : w4.cell? ⟨w.heap.size, 1, none⟩ = some (.slice none 0 0) := hres.cellAt 1 _ rfl
  have y2 : w4.cell? ⟨w.heap.size, 2, none⟩ = some (.slice none 0 0) := hres.cellAt 2 _ rfl
  have y3 : w4.cell? ⟨w.heap.size, 3, none⟩ = some (.bool false) := hres.cellAt 3 _ rfl
  have hltF := hfrm.lt
  have hltR := hres.lt
  have hfF := hfrm.free
  have hfR := hres.free
  have hneF := HS.out.lt
  have hne : w.heap.size ≠ w2.heap.size := by omega
  have hne' : w2.heap.size ≠ w.heap.size := by omega
  clear hres hfrm hneF
  go_wp2_with fail
  have HE := Lib.hid (HS4.out.stored rfl)
  generalize (((((w4.setCell ⟨w2.heap.size, 1, none⟩ (.slice pn 2 cn)).setCell ⟨w.heap.size, 0, none⟩ (.int .u64 5)).setCell ⟨w.heap.size, 1, none⟩ (.slice pn 2 cn)).setCell ⟨w.heap.size, 2, none⟩ (.slice none 0 0)).setCell ⟨w.heap.size, 3, none⟩ (.bool false)) = W at *
  have hE := HE.out.1
  have z0 : W.cell? ⟨w.heap.size, 0, none⟩ = some (.int .u64 5) := hE.cellAt 0 _ rfl
  have z1 : W.cell? ⟨w.heap.size, 1, none⟩ = some (.slice pn 2 cn) := hE.cellAt 1 _ rfl
  have z2 : W.cell? ⟨w.heap.size, 2, none⟩ = some (.slice none 0 0) := hE.cellAt 2 _ rfl
  have z3 : W.cell? ⟨w.heap.size, 3, none⟩ = some (.bool false) := hE.cellAt 3 _ rfl
  refine bodyPost_ret (v := .agg (frC 5 (.slice pn 2 cn) (.slice none 0 0))) (by simp [results, Try.results29, go_sem, z0, z1, z2, z3]) rfl ?_
  exact ⟨⟨_, _, rfl, HE.out.2.1, (fun e => by rw [e] at hk; cases hk), HE.out.2.2.1⟩, HE.out.2.2.2⟩
set_option maxRecDepth 100000 in
set_option maxHeartbeats 1000000 in
theorem frame_17 (w : World) (p : Nat) (ns : List Nat) (hk : ns.length = 2) (hn : ∀ n ∈ ns, n ≤ 4611686018427387903) (l : List UInt8) (hl : l.length ≤ 5000) (h : PkAt w p (V 17 ++ (Vs ns ++ l))) :
    Calls Try.prog 29 #[pt p] w (FrameSays w p 17 ns [] l) := by
  have hpl : p < w.heap.size := by obtain ⟨d, _, hB⟩ := h; exact hB.lt
  have hvl : (Vs ns ++ l).length ≤ 90000 := by
    have := Vs_le ns
    rw [List.length_append]; omega
  have HN := Lib.hid (number_lit (w.alloc (.cells (frC 0 (.slice none 0 0) (.slice none 0 0)) 71)) p 17 17 (Vs ns ++ l) rfl (h.grow ((Fr.refl _ w).alloc _)) (by omega) hvl)
  clear h hvl
  go_enter Try.func29, Try.ntmps29
  go_wp2_with fail
  refine HN.out.mono ?_
  rintro e w2 ⟨rfl, hO⟩
  have HS0 := Lib.hid (FS.first hpl hO 17)
  clear hO
  go_wp2_with fail
  have hfold : #[Value.int IntKind.u64 17, .slice none 0 0, .slice none 0 0, .bool false] = frC 17 (.slice none 0 0) (.slice none 0 0) := rfl
  rw [hfold]
  clear hfold
  have HS := HS0
  generalize (w2.alloc (.cells (frC 17 (.slice none 0 0) (.slice none 0 0)) 71)) = w3 at *
  clear HS0
  refine (numbers_lit w3 p 2 2 ns l rfl hk HS.out.pk hn (by omega) (by omega)).mono ?_
  rintro e w4 ⟨⟨nv, rfl, hnv, hfn⟩, hO⟩
  obtain ⟨pn, cn, rfl⟩ := hnv.slice
  have HS4 := Lib.hid (HS.out.setNums hO hnv hfn)
  rw [hk] at HS4
  have HSF := Lib.hid (And.intro (hO.fr.blk HS.out.frm (fun e => by have := HS.out.lt; omega)) (hO.fr.blk HS.out.res (fun e => by omega)))
  clear hnv hfn hO
  have hres := HSF.out.2
  have hfrm := HSF.out.1
  have x0 : w4.cell? ⟨w2.heap.size, 0, none⟩ = some (.int .u64 17) := hfrm.cellAt 0 _ rfl
  have x1 : w4.cell? ⟨w2.heap.size, 1, none⟩ = some (.slice none 0 0) := hfrm.cellAt 1 _ rfl
  have x2 : w4.cell? ⟨w2.heap.size, 2, none⟩ = some (.slice none 0 0) := hfrm.cellAt 2 _ rfl
  have x3 : w4.cell? ⟨w2.heap.size, 3, none⟩ = some (.bool false) := hfrm.cellAt 3 _ rfl
  have y0 : w4.cell? ⟨w.heap.size, 0, none⟩ = some (.int .u64 0) := hres.cellAt 0 _ rfl
  have y1 : w4.cell? ⟨w.heap.size, 1, none⟩ = some (.slice none 0 0) := hres.cellAt 1 _ rfl
  have y2 : w4.cell? ⟨w.heap.size, 2, none⟩ = some (.slice none 0 0) := hres.cellAt 2 _ rfl
  have y3 : w4.cell? ⟨w.heap.size, 3, none⟩ = some (.bool false) := hres.cellAt 3 _ rfl
  have hltF := hfrm.lt
  have hltR := hres.lt
  have hfF := hfrm.free
  have hfR := hres.free
  have hneF := HS.out.lt
  have hne : w.heap.size ≠ w2.heap.size := by omega
  have hne' : w2.heap.size ≠ w.heap.size := by omega
  clear hres hfrm hneF
  go_wp2_with fail
  have HE := Lib.hid (HS4.out.stored rfl)
  generalize (((((w4.setCell ⟨w2.heap.size, 1, none⟩ (.slice pn 2 cn)).setCell ⟨w.heap.size, 0, none⟩ (.int .u64 17)).setCell ⟨w.heap.size, 1, none⟩ (.slice pn 2 cn)).setCell ⟨w.heap.size, 2, none⟩ (.slice none 0 0)).setCell ⟨w.heap.size, 3, none⟩ (.bool false)) = W at *
  have hE := HE.out.1
  have z0 : W.cell? ⟨w.heap.size, 0, none⟩ = some (.int .u64 17) := hE.cellAt 0 _ rfl
  have z1 : W.cell? ⟨w.heap.size, 1, none⟩ = some (.slice pn 2 cn) := hE.cellAt 1 _ rfl
  have z2 : W.cell? ⟨w.heap.size, 2, none⟩ = some (.slice none 0 0) := hE.cellAt 2 _ rfl
  have z3 : W.cell? ⟨w.heap.size, 3, none⟩ = some (.bool false) := hE.cellAt 3 _ rfl
  refine bodyPost_ret (v := .agg (frC 17 (.slice pn 2 cn) (.slice none 0 0))) (by simp [results, Try.results29, go_sem, z0, z1, z2, z3]) rfl ?_
  exact ⟨⟨_, _, rfl, HE.out.2.1, (fun e => by rw [e] at hk; cases hk), HE.out.2.2.1⟩, HE.out.2.2.2⟩
set_option maxRecDepth 100000 in
set_option maxHeartbeats 1000000 in
theorem frame_16 (w : World) (p : Nat) (ns : List Nat) (hk : ns.length = 1) (hn : ∀ n ∈ ns, n ≤ 4611686018427387903) (l : List UInt8) (hl : l.length ≤ 5000) (h : PkAt w p (V 16 ++ (Vs ns ++ l))) :
    Calls Try.prog 29 #[pt p] w (FrameSays w p 16 ns [] l) := by
  have hpl : p < w.heap.size := by obtain ⟨d, _, hB⟩ := h; exact hB.lt
  have hvl : (Vs ns ++ l).length ≤ 90000 := by
    have := Vs_le ns
    rw [List.length_append]; omega
  have HN := Lib.hid (number_lit (w.alloc (.cells (frC 0 (.slice none 0 0) (.slice none 0 0)) 71)) p 16 16 (Vs ns ++ l) rfl (h.grow ((Fr.refl _ w).alloc _)) (by omega) hvl)
  clear h hvl
  go_enter Try.func29, Try.ntmps29
  go_wp2_with fail
  refine HN.out.mono ?_
  rintro e w2 ⟨rfl, hO⟩
  have HS0 := Lib.hid (FS.first hpl hO 16)
  clear hO
  go_wp2_with fail
  have hfold : #[Value.int IntKind.u64 16, .slice none 0 0, .slice none 0 0, .bool false] = frC 16 (.slice none 0 0) (.slice none 0 0) := rfl
  rw [hfold]
  clear hfold
  have HS := HS0
  generalize (w2.alloc (.cells (frC 16 (.slice none 0 0) (.slice none 0 0)) 71)) = w3 at *
  clear HS0
  refine (numbers_lit w3 p 1 1 ns l rfl hk HS.out.pk hn (by omega) (by omega)).mono ?_
  rintro e w4 ⟨⟨nv, rfl, hnv, hfn⟩, hO⟩
  obtain ⟨pn, cn, rfl⟩ := hnv.slice
  have HS4 := Lib.hid (HS.out.setNums hO hnv hfn)
  rw [hk] at HS4
  have HSF := Lib.hid (And.intro (hO.fr.blk HS.out.frm (fun e => by have := HS.out.lt; omega)) (hO.fr.blk HS.out.res (fun e => by omega)))
  clear hnv hfn hO
  have hres := HSF.out.2
  have hfrm := HSF.out.1
  have x0 : w4.cell? ⟨w2.heap.size, 0, none⟩ = some (.int .u64 16) := hfrm.cellAt 0 _ rfl
  have x1 : w4.cell? ⟨w2.heap.size, 1, none⟩ = some (.slice none 0 0) := hfrm.cellAt 1 _ rfl
  have x2 : w4.cell? ⟨w2.heap.size, 2, none⟩ = some (.slice none 0 0) := hfrm.cellAt 2 _ rfl
  have x3 : w4.cell? ⟨w2.heap.size, 3, none⟩ = some (.bool false) := hfrm.cellAt 3 _ rfl
  have y0 : w4.cell? ⟨w.heap.size, 0, none⟩ = some (.int .u64 0) := hres.cellAt 0 _ rfl
  have y1 : w4.cell? ⟨w.heap.size, 1, none⟩ = some (.slice none 0 0) := hres.cellAt 1 _ rfl
  have y2 : w4.cell? ⟨w.heap.size, 2, none⟩ = some (.slice none 0 0) := hres.cellAt 2 _ rfl
  have y3 : w4.cell? ⟨w.heap.size, 3, none⟩ = some (.bool false) := hres.cellAt 3 _ rfl
  have hltF := hfrm.lt
  have hltR := hres.lt
  have hfF := hfrm.free
  have hfR := hres.free
  have hneF := HS.out.lt
  have hne : w.heap.size ≠ w2.heap.size := by omega
  have hne' : w2.heap.size ≠ w.heap.size := by omega
  clear hres hfrm hneF
  go_wp2_with fail
  have HE := Lib.hid (HS4.out.stored rfl)
  generalize (((((w4.setCell ⟨w2.heap.size, 1, none⟩ (.slice pn 1 cn)).setCell ⟨w.heap.size, 0, none⟩ (.int .u64 16)).setCell ⟨w.heap.size, 1, none⟩ (.slice pn 1 cn)).setCell ⟨w.heap.size, 2, none⟩ (.slice none 0 0)).setCell ⟨w.heap.size, 3, none⟩ (.bool false)) = W at *
  have hE := HE.out.1
  have z0 : W.cell? ⟨w.heap.size, 0, none⟩ = some (.int .u64 16) := hE.cellAt 0 _ rfl
  have z1 : W.cell? ⟨w.heap.size, 1, none⟩ = some (.slice pn 1 cn) := hE.cellAt 1 _ rfl
  have z2 : W.cell? ⟨w.heap.size, 2, none⟩ = some (.slice none 0 0) := hE.cellAt 2 _ rfl
  have z3 : W.cell? ⟨w.heap.size, 3, none⟩ = some (.bool false) := hE.cellAt 3 _ rfl
  refine bodyPost_ret (v := .agg (frC 16 (.slice pn 1 cn) (.slice none 0 0))) (by simp [results, Try.results29, go_sem, z0, z1, z2, z3]) rfl ?_
  exact ⟨⟨_, _, rfl, HE.out.2.1, (fun e => by rw [e] at hk; cases hk), HE.out.2.2.1⟩, HE.out.2.2.2⟩
set_option maxRecDepth 100000 in
set_option maxHeartbeats 1000000 in
theorem frame_18 (w : World) (p : Nat) (ns : List Nat) (hk : ns.length = 1) (hn : ∀ n ∈ ns, n ≤ 4611686018427387903) (l : List UInt8) (hl : l.length ≤ 5000) (h : PkAt w p (V 18 ++ (Vs ns ++ l))) :
    Calls Try.prog 29 #[pt p] w (FrameSays w p 18 ns [] l) := by
  have hpl : p < w.heap.size := by obtain ⟨d, _, hB⟩ := h; exact hB.lt
  have hvl : (Vs ns ++ l).length ≤ 90000 := by
    have := Vs_le ns
    rw [List.length_append]; omega
  have HN := Lib.hid (number_lit (w.alloc (.cells (frC 0 (.slice none 0 0) (.slice none 0 0)) 71)) p 18 18 (Vs ns ++ l) rfl (h.grow ((Fr.refl _ w).alloc _)) (by omega) hvl)
  clear h hvl
  go_enter Try.func29, Try.ntmps29
  go_wp2_with fail
  refine HN.out.mono ?_
  rintro e w2 ⟨rfl, hO⟩
  have HS0 := Lib.hid (FS.first hpl hO 18)
  clear hO
  go_wp2_with fail
  have hfold : #[Value.int IntKind.u64 18, .slice none 0 0, .slice none 0 0, .bool false] = frC 18 (.slice none 0 0) (.slice none 0 0) := rfl
  rw [hfold]
  clear hfold
  have HS := HS0
  generalize (w2.alloc (.cells (frC 18 (.slice none 0 0) (.slice none 0 0)) 71)) = w3 at *
  clear HS0
  refine (numbers_lit w3 p 1 1 ns l rfl hk HS.out.pk hn (by omega) (by omega)).mono ?_
  rintro e w4 ⟨⟨nv, rfl, hnv, hfn⟩, hO⟩
  obtain ⟨pn, cn, rfl⟩ := hnv.slice
  have HS4 := Lib.hid (HS.out.setNums hO hnv hfn)
  rw [hk] at HS4
  have HSF := Lib.hid (And.intro (hO.fr.blk HS.out.frm (fun e => by have := HS.out.lt; omega)) (hO.fr.blk HS.out.res (fun e => by omega)))
  clear hnv hfn hO
  have hres := HSF.out.2
  have hfrm := HSF.out.1
  have x0 : w4.cell? ⟨w2.heap.size, 0, none⟩ = some (.int .u64 18) := hfrm.cellAt 0 _ rfl
  have x1 : w4.cell? ⟨w2.heap.size, 1, none⟩ = some (.slice none 0 0) := hfrm.cellAt 1 _ rfl
  have x2 : w4.cell? ⟨w2.heap.size, 2, none⟩ = some (.slice none 0 0) := hfrm.cellAt 2 _ rfl
  have x3 : w4.cell? ⟨w2.heap.size, 3, none⟩ = some (.bool false) := hfrm.cellAt 3 _ rfl
  have y0 : w4.cell? ⟨w.heap.size, 0, none⟩ = some (.int .u64 0) := hres.cellAt 0 _ rfl
  have y1 : w4.cell? ⟨w.heap.size, 1, none⟩ = some (.slice none 0 0) := hres.cellAt 1 _ rfl
  have y2 : w4.cell? ⟨w.heap.size, 2, none⟩ = some (.slice none 0 0) := hres.cellAt 2 _ rfl
  have y3 : w4.cell? ⟨w.heap.size, 3, none⟩ = some (.bool false) := hres.cellAt 3 _ rfl
  have hltF := hfrm.lt
  have hltR := hres.lt
  have hfF := hfrm.free
  have hfR := hres.free
  have hneF := HS.out.lt
  have hne : w.heap.size ≠ w2.heap.size := by omega
  have hne' : w2.heap.size ≠ w.heap.size := by omega
  clear hres hfrm hneF
  go_wp2_with fail
  have HE := Lib.hid (HS4.out.stored rfl)
  generalize (((((w4.setCell ⟨w2.heap.size, 1, none⟩ (.slice pn 1 cn)).setCell ⟨w.heap.size, 0, none⟩ (.int .u64 18)).setCell ⟨w.heap.size, 1, none⟩ (.slice pn 1 cn)).setCell ⟨w.heap.size, 2, none⟩ (.slice none 0 0)).setCell ⟨w.heap.size, 3, none⟩ (.bool false)) = W at *
  have hE := HE.out.1
  have z0 : W.cell? ⟨w.heap.size, 0, none⟩ = some (.int .u64 18) := hE.cellAt 0 _ rfl
  have z1 : W.cell? ⟨w.heap.size, 1, none⟩ = some (.slice pn 1 cn) := hE.cellAt 1 _ rfl
  have z2 : W.cell? ⟨w.heap.size, 2, none⟩ = some (.slice none 0 0) := hE.cellAt 2 _ rfl
  have z3 : W.cell? ⟨w.heap.size, 3, none⟩ = some (.bool false) := hE.cellAt 3 _ rfl
  refine bodyPost_ret (v := .agg (frC 18 (.slice pn 1 cn) (.slice none 0 0))) (by simp [results, Try.results29, go_sem, z0, z1, z2, z3]) rfl ?_
  exact ⟨⟨_, _, rfl, HE.out.2.1, (fun e => by rw [e] at hk; cases hk), HE.out.2.2.1⟩, HE.out.2.2.2⟩
end Go.Proofs.Ytgdkbflhgcchfaa
