/- The counting of frames. -/
import Derived.Test.YtgdkbflhgcchfaaD5
import Derived.Test.YtgdkbflhgcchfaaD3
import Derived.Test.YtgdkbflhgcchfaaB3
import Derived.Maps.OwnOps
namespace Go.Proofs.Ytgdkbflhgcchfaa
open Go.RowKit

/-- The pair (l, o). -/
def mkP (l o : Nat) : Pt := ⟨(min l 2, min o 20000000000), by constructor <;> simp <;> omega⟩
theorem mkP_v (l o : Nat) (hl : l ≤ 2) (ho : o ≤ 20000000000) : pairv (mkP l o) = .agg #[.int .i64 (l : Int), .int .i64 (o : Int)] := by
  simp only [mkP, pairv, Nat.min_eq_left hl, Nat.min_eq_left ho]
theorem mkP_inj {l o l' o' : Nat} (hl : l ≤ 2) (ho : o ≤ 20000000000) (hl' : l' ≤ 2) (ho' : o' ≤ 20000000000) (h : mkP l o = mkP l' o') : l = l' ∧ o = o' := by
  have := congrArg Subtype.val h
  simp only [mkP, Prod.mk.injEq, Nat.min_eq_left hl, Nat.min_eq_left ho, Nat.min_eq_left hl', Nat.min_eq_left ho'] at this
  exact this
/-- A row of 256 numbers. -/
abbrev arrC (f : Nat → Int) : Array Value := Array.ofFn (n := 256) fun i => .int .i64 (f i.val)
/-- The two counts in memory. -/
structure CntAt (w : World) (m1 m2 : Nat) (F : Pt → Nat → Int) (G : List UInt8 → Int) : Prop where
  c : ∃ q : Pt → Option Value, MapK pairv w m1 q ∧ (∀ x, q x = none → ∀ b, F x b = 0) ∧ ∀ x v, q x = some v → v = .agg (arrC (F x))
  o : ∃ q : List UInt8 → Option Value, MapK strv w m2 q ∧ (∀ x, q x = none → G x = 0) ∧ ∀ x v, q x = some v → v = .int .i64 (G x)
  ne : m1 ≠ m2
theorem zero46 : (Try.prog.info? 46).map (fun i => (i.size, i.zero)) = some (256, some (.agg (arrC fun _ => 0))) := by kernel_rfl
theorem CntAt.grow {w w' : World} {m1 m2 : Nat} {F : Pt → Nat → Int} {G : List UInt8 → Int} (h : CntAt w m1 m2 F G) (hG : Grow w w') : CntAt w' m1 m2 F G := by
  obtain ⟨⟨q, h1, h2⟩, ⟨q', h3, h4⟩, h5⟩ := h
  exact ⟨⟨q, h1.grow hG, h2⟩, ⟨q', h3.grow hG, h4⟩, h5⟩
theorem wpList_putK {κ : Type} [DecidableEq κ] {kv : κ → Value} (w : World) {ops : Array Oper} {rest : List Oper} {o : Oper} {a : Act} {Q : Exit → Act → World → Prop} (hgd : o.guard = none) (m x v : Operand) {t k e : TypeId}
    (ho : o.op = .mapUpdate t m x v) (K : Keys Try.prog k kv) (hT : Try.prog.underlying t = some (.map k e)) {r : Nat} {q : κ → Option Value} (hq : MapK kv w r q) (key : κ) (val : Value)
    (hm : a.eval m = .map (some r)) (hx : a.eval x = kv key) (hv : a.eval v = val)
    (h : ∀ w', MapK kv w' r (fun y => if y = key then some val else q y) → Fr (fun i => i = r) w w' → wpList Try.prog ops Q rest (a.put o.dst undef) w') : wpList Try.prog ops Q (o :: rest) a w := by
  refine wpList_plain hgd fun K' hK' => ?_
  obtain ⟨w', hr, hm', hg⟩ := hq.put K hT key val
  unfold Oper.wp
  simp [execOp, ho, hm, hx, hv, hr, Result.andThen]
  exact hK' _ _ (h w' hm' hg)
theorem str_cons (c : UInt8) (l : List UInt8) : ({ data := #[c] } ++ { data := l.toArray } : ByteArray) = ⟨(c :: l).toArray⟩ := by
  apply ByteArray.ext
  rw [ByteArray.data_append]
  simp
theorem info3 : (Try.prog.info? 3).map (fun i => i.zero) = some (some (.int .i64 0)) := by kernel_rfl
theorem zero3 (w : World) : (zeroValue 3).run Try.prog w = .ok (.int .i64 0) w := by
  obtain ⟨i, hi, hz⟩ := Option.map_eq_some_iff.1 info3
  simp [zeroValue, typeInfo, hi, hz]
theorem CntAt.lookO {w : World} {m1 m2 : Nat} {F : Pt → Nat → Int} {G : List UInt8 → Int} (h : CntAt w m1 m2 F G) (k : List UInt8) : (Instr.lookup 26 (.map (some m2)) (strv k) false).run Try.prog w = .ok (.int .i64 (G k)) w := by
  obtain ⟨_, ⟨q, h1, h2, h3⟩, _⟩ := h
  rw [h1.look (keys_string Try.underlying9) Try.underlying26 zero3 k]
  cases e : q k with
  | none => rw [h2 k e]; rfl
  | some v => rw [h3 k v e]; rfl
/-- The count of other frames, turned at one key. -/
def incO (G : List UInt8 → Int) (k : List UInt8) (y : Int) : List UInt8 → Int := fun j => if j = k then G j + y else G j
set_option maxRecDepth 100000 in
set_option maxHeartbeats 1000000 in
theorem count_other (w : World) (m1 m2 : Nat) (F : Pt → Nat → Int) (G : List UInt8 → Int) (hC : CntAt w m1 m2 F G) (l : Nat) (c : Ct) (hl : l ≤ 2) (hc : c.Ok) (h6 : c.ty ≠ 6) (v : Value) (hv : Rd w v c.enc) (y : Int) (hy : y = 1 ∨ y = -1)
    (hb : -1000000 ≤ G (b8 l :: c.enc) ∧ G (b8 l :: c.enc) ≤ 1000000) (hpos : 0 ≤ G (b8 l :: c.enc) + y) :
    Calls Try.prog 10 #[.agg #[.map (some m1), .map (some m2)], .int .i64 (l : Int), v, .int .i64 y] w fun e w' => e = .returned (.bool true) ∧ CntAt w' m1 m2 F (incO G (b8 l :: c.enc) y) ∧ Fr (fun k => k = m1 ∨ k = m2) w w' := by
  have HP := Lib.hid (clone_any (w.alloc (.cells #[.map (some m1), .map (some m2)] 28)) v _ (hv.keep (Grow.bytes ((Fr.refl _ w).alloc _))) (by have := enc_len _ hc; omega))
  have HC1 : Hid (CntAt w m1 m2 F G) := Lib.hid hC
  have HV := Lib.hid hv
  obtain ⟨pv, cv, rfl, hlc, _⟩ := id hv
  clear hv hC
  have hlen : c.enc.length ≤ 500 := enc_len _ hc
  generalize hN : c.enc.length = N at *
  go_enter Try.func10, Try.ntmps10
  go_wp2_with fail
  refine HP.out.mono ?_
  rintro e w2 ⟨v2, rfl, hv2, hG2, _⟩
  obtain ⟨p2, c2, rfl, _⟩ := hv2.rd.int hN
  have HF := Lib.hid (frames_any w2 _ c hc hv2.rd)
  have HG2 : Hid (Grow w w2 ∧ Grow (w.alloc (.cells #[.map (some m1), .map (some m2)] 28)) w2) := Lib.hid ⟨((Fr.refl _ w).alloc _).trans hG2, hG2⟩
  clear hv2 hG2
  go_wp2_with fail
  refine HF.out.mono ?_
  rintro e w3 ⟨hG3, fs, rfl, b, o, cap, nv, dv, cur, rfl, hcap, hcur, hcells, hnv, _, hdv⟩
  have HG3 : Hid (Grow w w3 ∧ Blk w3 w.heap.size #[.map (some m1), .map (some m2)] 28) := Lib.hid ⟨HG2.out.1.trans hG3, hG3.blk (HG2.out.2.blk (Blk.new w _ _) (fun e => e)) (fun e => e)⟩
  have hcl : ∀ j u, (frC c.ty nv dv)[j]? = some u → w3.cell? ⟨b, o + j, none⟩ = some u := fun j u hj => by
    have := hcells j u hj
    simp [World.cell?, hcur, this]
  have k0 : w3.cell? ⟨b, o, none⟩ = some (.int .u64 (c.ty : Int)) := hcl 0 _ rfl
  have hbl : b < w3.heap.size := (Array.getElem?_eq_some_iff.1 hcur).1
  have hty : ((c.ty : Int) != 6) = true := by simp; omega
  have hB3 := HG3.out.2
  have q0 : w3.cell? ⟨w.heap.size, 0, none⟩ = some (.map (some m1)) := hB3.cellAt 0 _ rfl
  have q1 : w3.cell? ⟨w.heap.size, 1, none⟩ = some (.map (some m2)) := hB3.cellAt 1 _ rfl
  have hltC := hB3.lt
  have hl8 : IntKind.u8.wrap (l : Int) = (l : Int) := by rw [IntKind.wrap_u8]; omega
  have s1 : (convert 31 9 (.slice (some ⟨w3.heap.size, 0, none⟩) 1 1)).run Try.prog (w3.alloc (.cells #[.int .u8 (l : Int)] 5)) = .ok (.string ⟨[b8 l].toArray⟩) (w3.alloc (.cells #[.int .u8 (l : Int)] 5)) := by
    have := (Rd.one w3 (b8 l)).string
    rwa [b8_val l (by omega)] at this
  have s2 : (convert 31 9 (.slice pv N cv)).run Try.prog (w3.alloc (.cells #[.int .u8 (l : Int)] 5)) = .ok (.string ⟨c.enc.toArray⟩) (w3.alloc (.cells #[.int .u8 (l : Int)] 5)) := (HV.out.keep (Grow.bytes (HG3.out.1.alloc _))).string
  have s3 := str_cons (b8 l) c.enc
  have HC4 : Hid (CntAt (w3.alloc (.cells #[.int .u8 (l : Int)] 5)) m1 m2 F G) := Lib.hid (HC1.out.grow (HG3.out.1.alloc _))
  have s4 := HC4.out.lookO (b8 l :: c.enc)
  obtain ⟨qO, hO1, hO2, hO3⟩ := HC4.out.o
  have HO4 := Lib.hid (And.intro hO1 (And.intro hO2 hO3))
  clear hO1 hO2 hO3
  have hk : w.heap.size ≠ m2 := by
    intro e
    have := (HG3.out.1.drew).size
    obtain ⟨_, ⟨q', h3, _⟩, _⟩ := HC1.out
    have := h3.lt
    omega
  have HU : Hid (∀ w5, MapK strv w5 m2 (fun z => if z = b8 l :: c.enc then some (Value.int .i64 (G (b8 l :: c.enc) + y)) else qO z) → Fr (fun i => i = m2) (w3.alloc (.cells #[.int .u8 (l : Int)] 5)) w5 →
      Hid (CntAt w5 m1 m2 F (incO G (b8 l :: c.enc) y) ∧ Fr (fun k => k = m1 ∨ k = m2) w w5) ∧ w5.cell? ⟨w.heap.size, 1, none⟩ = some (.map (some m2)) ∧ w.heap.size < w5.heap.size ∧
      ((convert 31 9 (.slice (some ⟨w5.heap.size, 0, none⟩) 1 1)).run Try.prog (w5.alloc (.cells #[.int .u8 (l : Int)] 5)) = .ok (.string ⟨[b8 l].toArray⟩) (w5.alloc (.cells #[.int .u8 (l : Int)] 5))) ∧
      ((convert 31 9 (.slice pv N cv)).run Try.prog (w5.alloc (.cells #[.int .u8 (l : Int)] 5)) = .ok (.string ⟨c.enc.toArray⟩) (w5.alloc (.cells #[.int .u8 (l : Int)] 5))) ∧
      (Instr.lookup 26 (.map (some m2)) (strv (b8 l :: c.enc)) false).run Try.prog (w5.alloc (.cells #[.int .u8 (l : Int)] 5)) = .ok (.int .i64 (G (b8 l :: c.enc) + y)) (w5.alloc (.cells #[.int .u8 (l : Int)] 5))) := Lib.hid fun w5 hM hF => by
    obtain ⟨⟨qC, c1, c2⟩, _, hne⟩ := HC4.out
    have hlt3 : w.heap.size < (w3.alloc (.cells #[.int .u8 (l : Int)] 5)).heap.size := by rw [size_alloc]; omega
    have hB4 : Blk (w3.alloc (.cells #[.int .u8 (l : Int)] 5)) w.heap.size #[.map (some m1), .map (some m2)] 28 := HG3.out.2.alloc _
    have hB5 := hF.blk hB4 hk
    have hC5 : CntAt w5 m1 m2 F (incO G (b8 l :: c.enc) y) := by
      refine ⟨⟨qC, c1.same (hF.block m1 c1.lt hne), c2⟩, ⟨_, hM, fun x hx => ?_, fun x u hx => ?_⟩, hne⟩
      · have hx : (if x = b8 l :: c.enc then some (Value.int .i64 (G (b8 l :: c.enc) + y)) else qO x) = none := hx
        unfold incO
        by_cases e : x = b8 l :: c.enc
        · rw [if_pos e] at hx; cases hx
        · rw [if_neg e] at hx; rw [if_neg e]; exact HO4.out.2.1 x hx
      · have hx : (if x = b8 l :: c.enc then some (Value.int .i64 (G (b8 l :: c.enc) + y)) else qO x) = some u := hx
        unfold incO
        by_cases e : x = b8 l :: c.enc
        · rw [if_pos e] at hx; rw [if_pos e, e]; exact (Option.some.inj hx).symm
        · rw [if_neg e] at hx; rw [if_neg e]; exact HO4.out.2.2 x u hx
    have hkb : KeepB (w3.alloc (.cells #[.int .u8 (l : Int)] 5)) w5 := hF.bytes (fun k hk hb => by subst hk; exact HO4.out.1.noBytes hb)
    have hV5 : Rd w5 (.slice pv N cv) c.enc := (HV.out.keep (Grow.bytes (HG3.out.1.alloc _))).keep hkb
    refine ⟨Lib.hid ⟨hC5, (Grow.to (HG3.out.1.alloc _)).trans (hF.mono (fun k _ e => .inr e))⟩, hB5.cellAt 1 _ rfl, hB5.lt, ?_, (hV5.keep (Grow.bytes ((Fr.refl _ w5).alloc _))).string, ?_⟩
    · have := (Rd.one w5 (b8 l)).string
      rwa [b8_val l (by omega)] at this
    · have := (hC5.grow ((Fr.refl _ w5).alloc (.cells #[.int .u8 (l : Int)] 5))).lookO (b8 l :: c.enc)
      rw [show incO G (b8 l :: c.enc) y (b8 l :: c.enc) = G (b8 l :: c.enc) + y from if_pos rfl] at this
      exact this
  clear hG3 hcur hcells hcl hnv hdv hB3
  go_wp2_with (at_mapUpdate; refine wpList_putK _ rfl _ _ _ rfl (keys_string Try.underlying9) Try.underlying26 HO4.out.1 (b8 l :: c.enc) (.int .i64 (G (b8 l :: c.enc) + y)) rfl rfl rfl ?_; intro w5 hM5 hF5; obtain ⟨HU5, z1, hlt5, t1, t2, t4⟩ := HU.out w5 hM5 hF5; clear hM5 hF5)
  go_ret
  exact ⟨rfl, HU5.out.1.grow ((Fr.refl _ w5).alloc _), HU5.out.2.alloc _⟩
end Go.Proofs.Ytgdkbflhgcchfaa
