/- The counting of CRYPTO frames, byte by byte. -/
import Derived.Test.YtgdkbflhgcchfaaD6
import Derived.Deep.WholeRow
namespace Go.Proofs.Ytgdkbflhgcchfaa
open Go.RowKit

/-- One byte more, or less, at the place x. -/
def inc1 (F : Pt → Nat → Int) (x : Pt) (b : Nat) (y : Int) : Pt → Nat → Int := fun z c => if z = x ∧ c = b then F z c + y else F z c
/-- All bytes of d, from the offset a on. -/
def addC (F : Pt → Nat → Int) (l a : Nat) (y : Int) : List UInt8 → Pt → Nat → Int
  | [] => F
  | b :: d => addC (inc1 F (mkP l a) b.toNat y) l (a + 1) y d
theorem inc1_same (F : Pt → Nat → Int) (x : Pt) (b : Nat) (y : Int) : inc1 F x b y x = fun j => if j = b then F x j + y else F x j := by
  funext j
  unfold inc1
  by_cases e : j = b
  · rw [if_pos ⟨rfl, e⟩, if_pos e]
  · rw [if_neg (fun h => e h.2), if_neg e]
theorem inc1_other (F : Pt → Nat → Int) (x z : Pt) (b : Nat) (y : Int) (h : z ≠ x) : inc1 F x b y z = F z := by
  funext j
  unfold inc1
  rw [if_neg (fun e => h e.1)]
theorem arr_inc (f : Nat → Int) (b : Nat) (v y : Int) (hv : v = f b + y) : (arrC f).setIfInBounds b (.int .i64 v) = arrC (fun j => if j = b then f j + y else f j) := by
  subst hv
  unfold arrC
  generalize 256 = n
  apply Array.ext
  · simp
  · intro j hj1 hj2
    rw [Array.getElem_setIfInBounds (by simpa using hj2), Array.getElem_ofFn, Array.getElem_ofFn]
    by_cases e : b = j
    · subst e; simp
    · rw [if_neg e]
      have : ¬ j = b := fun h => e h.symm
      simp [this]
theorem addC_snoc (l : Nat) (y : Int) (b : UInt8) : ∀ (d : List UInt8) (F : Pt → Nat → Int) (a : Nat), addC F l a y (d ++ [b]) = inc1 (addC F l a y d) (mkP l (a + d.length)) b.toNat y
  | [], F, a => rfl
  | c :: d, F, a => by
    show addC (inc1 F (mkP l a) c.toNat y) l (a + 1) y (d ++ [b]) = _
    rw [addC_snoc l y b d]
    show inc1 (addC _ _ _ _ d) _ _ _ = inc1 (addC _ _ _ _ d) _ _ _
    rw [show a + 1 + d.length = a + (c :: d).length by simp; omega]
theorem addC_far (l : Nat) (y : Int) (hl : l ≤ 2) (l' o c : Nat) (hl' : l' ≤ 2) (ho : o ≤ 20000000000) : ∀ (d : List UInt8) (F : Pt → Nat → Int) (a : Nat), a + d.length ≤ 20000000000 → (l ≠ l' ∨ o < a ∨ a + d.length ≤ o) → addC F l a y d (mkP l' o) c = F (mkP l' o) c
  | [], F, a, _, _ => rfl
  | b :: d, F, a, h, h2 => by
    rw [List.length_cons] at h h2
    show addC (inc1 F (mkP l a) b.toNat y) l (a + 1) y d (mkP l' o) c = _
    rw [addC_far l y hl l' o c hl' ho d _ (a + 1) (by omega) (by omega)]
    unfold inc1
    rw [if_neg]
    rintro ⟨e, _⟩
    have := mkP_inj hl' ho hl (by omega) e
    omega
theorem CntAt.lookC {w : World} {m1 m2 : Nat} {F : Pt → Nat → Int} {G : List UInt8 → Int} (h : CntAt w m1 m2 F G) (x : Pt) : (Instr.lookup 25 (.map (some m1)) (pairv x) false).run Try.prog w = .ok (.agg (arrC (F x))) w := by
  obtain ⟨⟨q, h1, h2, h3⟩, _, _⟩ := h
  have hz : ∀ w : World, (zeroValue 46).run Try.prog w = .ok (.agg (arrC fun _ => 0)) w := fun w => by
    obtain ⟨i, hi, hz⟩ := Option.map_eq_some_iff.1 zero46
    simp only [Prod.mk.injEq] at hz
    simp [zeroValue, typeInfo, hi, hz.2]
  rw [h1.look keys_pair Try.underlying25 hz x]
  cases e : q x with
  | none =>
    have : F x = fun _ => 0 := funext (h2 x e)
    rw [this]; rfl
  | some v => rw [h3 x v e]; rfl
theorem Blk.load46 {w : World} {b : Nat} {C : Array Value} (h : Blk w b C 46) (hn : C.size = 256) (hi : (Try.prog.info? 46).map (·.size) = some 256) : (Instr.loadAt 46 (.pointer (some ⟨b, 0, none⟩))).run Try.prog w = .ok (.agg C) w := by
  simp only [Instr.loadAt, Instr.sureAddr, Sem.run_bind, Sem.run_pure, Result.andThen]
  exact run_loadVar_row _ _ 46 46 C (0, 0) _ h Try.underlying46 rfl (by rw [hi, hn])
theorem wpList_load46 (w : World) {ops : Array Oper} {rest : List Oper} {o : Oper} {a : Act} {Q : Exit → Act → World → Prop} (hgd : o.guard = none) (x : Operand) (ho : o.op = .load 46 x) {b : Nat} (hx : a.eval x = .pointer (some ⟨b, 0, none⟩)) {v : Value}
    (hr : (Instr.loadAt 46 (.pointer (some ⟨b, 0, none⟩))).run Try.prog w = .ok v w) (h : wpList Try.prog ops Q rest (a.put o.dst v) w) : wpList Try.prog ops Q (o :: rest) a w := by
  refine wpList_plain hgd fun K hK => ?_
  unfold Oper.wp
  simp [execOp, ho, hx, hr, Result.andThen]
  exact hK _ _ h
theorem size46 : (Try.prog.info? 46).map (·.size) = some 256 := by kernel_rfl
theorem zc46 : Try.zeroCells46.size = 256 := by kernel_rfl
theorem store46 (w : World) (A : Array Value) (n : Nat) (hn : n = w.heap.size) (hA : A.size = 256) (h1 : A.all (·.oneCell') = true) :
    (storeCells ⟨n, 0, none⟩ A.toList 0).run Try.prog (w.alloc (.cells Try.zeroCells46 46)) = .ok () (w.alloc (.cells A 46)) := by
  subst hn
  exact run_storeCells_new w 46 Try.zeroCells46 A (by rw [size46, hA]) (by rw [zc46, hA]) h1
set_option maxRecDepth 100000 in
set_option maxHeartbeats 2000000 in
theorem count_crypto (w : World) (m1 m2 : Nat) (F : Pt → Nat → Int) (G : List UInt8 → Int) (hC : CntAt w m1 m2 F G) (l a : Nat) (d : List UInt8) (hl : l ≤ 2) (hc : (Ct.crypto a d).Ok) (v : Value) (hv : Rd w v (Ct.crypto a d).enc) (y : Int) (hy : y = 1 ∨ y = -1)
    (hp : ∀ i b, d[i]? = some b → -1000000 ≤ F (mkP l (a + i)) b.toNat ∧ F (mkP l (a + i)) b.toNat ≤ 1000000 ∧ 0 ≤ F (mkP l (a + i)) b.toNat + y) :
    Calls Try.prog 10 #[.agg #[.map (some m1), .map (some m2)], .int .i64 (l : Int), v, .int .i64 y] w fun e w' => e = .returned (.bool true) ∧ CntAt w' m1 m2 (addC F l a y d) G ∧ Fr (fun k => k = m1 ∨ k = m2) w w' := by
  have HP := Lib.hid (clone_any (w.alloc (.cells #[.map (some m1), .map (some m2)] 28)) v _ (hv.keep (Grow.bytes ((Fr.refl _ w).alloc _))) (by have := enc_len _ hc; omega))
  have HC1 : Hid (CntAt w m1 m2 F G) := Lib.hid hC
  have HV := Lib.hid hv
  obtain ⟨pv, cv, rfl, hlc, _⟩ := id hv
  clear hv hC
  obtain ⟨ha, _, hd⟩ := id hc
  have ha : a ≤ 10000000000 := ha
  have hd : d.length ≤ 400 := hd
  have HPp := Lib.hid hp
  clear hp
  have hlen : (Ct.crypto a d).enc.length ≤ 500 := enc_len _ hc
  generalize hN : (Ct.crypto a d).enc.length = N at *
  go_enter Try.func10, Try.ntmps10
  go_wp2_with fail
  refine HP.out.mono ?_
  rintro e w2 ⟨v2, rfl, hv2, hG2, _⟩
  obtain ⟨p2, c2, rfl, _⟩ := hv2.rd.int hN
  have HF := Lib.hid (frames_any w2 _ _ hc hv2.rd)
  have HG2 : Hid (Grow w w2 ∧ Grow (w.alloc (.cells #[.map (some m1), .map (some m2)] 28)) w2) := Lib.hid ⟨((Fr.refl _ w).alloc _).trans hG2, hG2⟩
  clear hv2 hG2
  go_wp2_with fail
  refine HF.out.mono ?_
  rintro e w3 ⟨hG3, fs, rfl, b, o, cap, nv, dv, cur, rfl, hcap, hcur, hcells, hnv, _, hdv⟩
  have HG3 : Hid (Grow w w3 ∧ Blk w3 w.heap.size #[.map (some m1), .map (some m2)] 28) := Lib.hid ⟨HG2.out.1.trans hG3, hG3.blk (HG2.out.2.blk (Blk.new w _ _) (fun e => e)) (fun e => e)⟩
  have hcl : ∀ j u, (frC 6 nv dv)[j]? = some u → w3.cell? ⟨b, o + j, none⟩ = some u := fun j u hj => by
    have := hcells j u hj
    simp [World.cell?, hcur, this]
  have hnv2 : OwnN w3 nv [a] := hnv
  have hdv2 : Rd w3 dv d := hdv
  clear hnv hdv
  obtain ⟨_, pn, cn, rfl, hcn, _, hnb⟩ := hnv2
  have hcn : 1 ≤ cn := hcn
  rcases hnb with hnb | ⟨bn, on, curn, rfl, hcurn, _, hncell⟩
  · omega
  have n0 : w3.cell? ⟨bn, on, none⟩ = some (.int .u64 (a : Int)) := by
    have := hncell 0 _ rfl
    simp [World.cell?, hcurn] at this ⊢
    simpa using this
  have HD3 : Hid (Rd w3 dv d) := Lib.hid hdv2
  obtain ⟨pd, cd, rfl, hdc, _⟩ := id hdv2
  have k0 : w3.cell? ⟨b, o, none⟩ = some (.int .u64 6) := hcl 0 _ rfl
  have k1 : w3.cell? ⟨b, o + 1, none⟩ = some (.slice (some ⟨bn, on, none⟩) 1 cn) := hcl 1 _ rfl
  have k2 : w3.cell? ⟨b, o + 2, none⟩ = some (.slice pd d.length cd) := hcl 2 _ rfl
  have hbl : b < w3.heap.size := (Array.getElem?_eq_some_iff.1 hcur).1
  have hbnl : bn < w3.heap.size := (Array.getElem?_eq_some_iff.1 hcurn).1
  have HK := Lib.hid (And.intro k0 (And.intro k1 (And.intro n0 (And.intro hbl hbnl))))
  have HB : Hid (∀ m, m = m1 ∨ m = m2 → m ≠ b ∧ m ≠ bn ∧ m ≠ w.heap.size ∧ ¬ BytesBlk w3 m) := Lib.hid fun m hm => by
    have hmap : ∃ es clock, w3.heap[m]? = some (.map es clock) := by
      obtain ⟨⟨q1, h1, _⟩, ⟨q2, h2, _⟩, _⟩ := HC1.out.grow HG3.out.1
      rcases hm with rfl | rfl
      · obtain ⟨es, clock, h, _⟩ := h1; exact ⟨es, clock, h⟩
      · obtain ⟨es, clock, h, _⟩ := h2; exact ⟨es, clock, h⟩
    obtain ⟨es, clock, hmap⟩ := hmap
    refine ⟨fun e => ?_, fun e => ?_, fun e => ?_, fun ⟨c, f, hb⟩ => ?_⟩
    · subst e; rw [hmap] at hcur; cases hcur
    · subst e; rw [hmap] at hcurn; cases hcurn
    · have := HG3.out.2
      subst e
      have := hmap.symm.trans this
      cases this
    · rw [hmap] at hb; cases hb
  clear hG3 hcells hcl hdv2 hncell hcurn hcur k1 n0
  go_wp2_with fail
  go_loopg [67] d.length (fun k s67 wr => ∃ i : Nat, k + i = d.length ∧ s67 = .int .i64 (i : Int) ∧ Hid (Fr (fun k => k = m1 ∨ k = m2) w3 wr ∧ CntAt wr m1 m2 (addC F l a y (d.take i)) G))
  case atStart => exact ⟨0, by simp, rfl, Lib.hid ⟨Fr.refl _ _, HC1.out.grow HG3.out.1⟩⟩
  case round =>
    obtain ⟨i, hk, rfl, HI⟩ := hrel
    by_cases hend : i = d.length
    · have hne : ¬ (i < d.length) := by omega
      have HE : Hid (CntAt wr m1 m2 (addC F l a y d) G) := Lib.hid (by have := HI.out.2; rwa [List.take_of_length_le (by omega)] at this)
      go_wp2_with fail
      go_ret
      exact ⟨rfl, HE.out, (Grow.to HG3.out.1).trans HI.out.1⟩
    · have hi : i < d.length := by omega
      have hbi : d[i]? = some (d[i]'hi) := List.getElem?_eq_getElem hi
      have htk : d.take (i + 1) = d.take i ++ [d[i]'hi] := by rw [List.take_add_one, hbi]; rfl
      generalize d[i]'hi = c at hbi htk
      obtain ⟨_, _, hh, h1, h2, h3⟩ := id HD3.out
      injection hh with hh1 hh2 hh3
      subst hh1
      obtain ⟨bd, od, rfl, hbd, hxd⟩ := h3 (by intro e; rw [e] at hi; exact absurd hi (by simp))
      have fr := HI.out.1
      have x0 : wr.cell? ⟨bd, od + i, none⟩ = some (.int .u8 (c.toNat : Int)) := (World.cell?_of_block (fr.block bd hbd.lt (fun e => (HB.out bd e).2.2.2 hbd))).trans (hxd i c hbi)
      have k1 : wr.cell? ⟨b, o + 1, none⟩ = some (.slice (some ⟨bn, on, none⟩) 1 cn) := (World.cell?_of_block (fr.block b hbl (fun e => (HB.out b e).1 rfl))).trans HK.out.2.1
      have n0 : wr.cell? ⟨bn, on, none⟩ = some (.int .u64 (a : Int)) := (World.cell?_of_block (fr.block bn hbnl (fun e => (HB.out bn e).2.1 rfl))).trans HK.out.2.2.1
      have q0 : wr.cell? ⟨w.heap.size, 0, none⟩ = some (.map (some m1)) := (fr.blk HG3.out.2 (fun e => (HB.out _ e).2.2.1 rfl)).cellAt 0 _ rfl
      have hbl1 : b < wr.heap.size := Nat.lt_of_lt_of_le hbl fr.size
      have hbn1 : bn < wr.heap.size := Nat.lt_of_lt_of_le hbnl fr.size
      have hbd1 : bd < wr.heap.size := Nat.lt_of_lt_of_le hbd.lt fr.size
      have hw1 : w.heap.size < wr.heap.size := (fr.blk HG3.out.2 (fun e => (HB.out _ e).2.2.1 rfl)).lt
      have hcu := c.toNat_lt
      clear hbd hxd fr hh2 hh3 h3 k0 k2
      go_upto_region 11 with fail
      obtain ⟨Fi, hFi⟩ : ∃ Fi, Fi = addC F l a y (d.take i) := ⟨_, rfl⟩
      have hpv : (Value.agg #[.int .i64 (l : Int), .int .i64 ((a : Int) + (i : Int))]) = pairv (mkP l (a + i)) := by rw [mkP_v l (a + i) hl (by omega)]; simp
      have HCi : Hid (CntAt (wr.alloc (.cells #[.int .i64 (l : Int), .int .i64 ((a : Int) + (i : Int))] 45)) m1 m2 Fi G) := Lib.hid (by rw [hFi]; exact HI.out.2.grow ((Fr.refl _ wr).alloc _))
      have s1 : (Instr.lookup 25 (.map (some m1)) (.agg #[.int .i64 (l : Int), .int .i64 ((a : Int) + (i : Int))]) false).run Try.prog (wr.alloc (.cells #[.int .i64 (l : Int), .int .i64 ((a : Int) + (i : Int))] 45)) = .ok (.agg (arrC (Fi (mkP l (a + i))))) (wr.alloc (.cells #[.int .i64 (l : Int), .int .i64 ((a : Int) + (i : Int))] 45)) := by
        rw [hpv]; exact HCi.out.lookC _
      have HPV := Lib.hid hpv
      clear hpv
      have hAs : (arrC (Fi (mkP l (a + i)))).size = 256 := by simp
      have hA1 : (arrC (Fi (mkP l (a + i)))).all (·.oneCell') = true := by
        rw [Array.all_eq_true]
        intro j hj
        simp [Value.oneCell']
      have hAc : (arrC (Fi (mkP l (a + i))))[c.toNat]? = some (.int .i64 (Fi (mkP l (a + i)) c.toNat)) := by rw [Array.getElem?_ofFn, dif_pos (by simpa using hcu)]
      have s2 := store46 (wr.alloc (.cells #[.int .i64 (l : Int), .int .i64 ((a : Int) + (i : Int))] 45)) (arrC (Fi (mkP l (a + i)))) (wr.heap.size + 1) (size_alloc _ _).symm hAs hA1
      obtain ⟨A, hA⟩ : ∃ A, A = arrC (Fi (mkP l (a + i))) := ⟨_, rfl⟩
      rw [← hA] at s1 s2 hAs hAc
      have HA := Lib.hid hA
      clear hA1 hA
      obtain ⟨V, hV⟩ : ∃ V, V = Fi (mkP l (a + i)) c.toNat := ⟨_, rfl⟩
      have hVF : Fi (mkP l (a + i)) c.toNat = F (mkP l (a + i)) c.toNat := by
        rw [hFi]
        exact addC_far l y hl l (a + i) c.toNat hl (by omega) (d.take i) F a (by rw [List.length_take]; omega) (.inr (.inr (by rw [List.length_take]; omega)))
      obtain ⟨hv1, hv2, hv3⟩ : -1000000 ≤ V ∧ V ≤ 1000000 ∧ 0 ≤ V + y := by rw [hV, hVF]; exact HPp.out i c hbi
      rw [← hV] at hAc
      have HAc := Lib.hid hAc
      have HFi := Lib.hid (And.intro hFi hV)
      have hyb : -1 ≤ y ∧ y ≤ 1 := by omega
      obtain ⟨hy1, hy2⟩ := hyb
      clear hAc hFi hV hVF
      have hG1 : Grow wr ((wr.alloc (.cells #[.int .i64 (l : Int), .int .i64 ((a : Int) + (i : Int))] 45)).alloc (.cells A 46)) := ((Fr.refl _ wr).alloc _).alloc _
      have hK1 : Blk ((wr.alloc (.cells #[.int .i64 (l : Int), .int .i64 ((a : Int) + (i : Int))] 45)).alloc (.cells A 46)) wr.heap.size #[.int .i64 (l : Int), .int .i64 ((a : Int) + (i : Int))] 45 := (Blk.new wr _ _).alloc _
      have hN1 : Blk ((wr.alloc (.cells #[.int .i64 (l : Int), .int .i64 ((a : Int) + (i : Int))] 45)).alloc (.cells A 46)) (wr.heap.size + 1) A 46 := Blk.newAt _ _ _ _ (by simp)
      go_upto_region 12 with fail
      clear s1 s2
      generalize ((wr.alloc (.cells #[.int .i64 (l : Int), .int .i64 ((a : Int) + (i : Int))] 45)).alloc (.cells A 46)) = W1 at *
      have r0 : W1.cell? ⟨wr.heap.size + 1, c.toNat, none⟩ = some (.int .i64 V) := hN1.cellAt _ _ HAc.out
      have hltN := hN1.lt
      have hfN := hN1.free
      have hcN : (c.toNat : Int) < 256 := by omega
      have hG2 : Grow wr (W1.setCell ⟨wr.heap.size + 1, c.toNat, none⟩ (.int .i64 (V + y))) := hG1.setCell _ _ (.inr (by show wr.heap.size ≤ wr.heap.size + 1; omega))
      have hN2 : Blk (W1.setCell ⟨wr.heap.size + 1, c.toNat, none⟩ (.int .i64 (V + y))) (wr.heap.size + 1) (A.setIfInBounds c.toNat (.int .i64 (V + y))) 46 := hN1.set _ _
      have hK2 : Blk (W1.setCell ⟨wr.heap.size + 1, c.toNat, none⟩ (.int .i64 (V + y))) wr.heap.size #[.int .i64 (l : Int), .int .i64 ((a : Int) + (i : Int))] 45 := hK1.setOther _ _ (by show wr.heap.size ≠ wr.heap.size + 1; omega)
      go_upto_region 13 with fail
      clear r0 hltN hfN hG1 hK1 hN1
      generalize W1.setCell ⟨wr.heap.size + 1, c.toNat, none⟩ (.int .i64 (V + y)) = W2 at *
      obtain ⟨A2, hA2⟩ : ∃ A2, A2 = A.setIfInBounds c.toNat (.int .i64 (V + y)) := ⟨_, rfl⟩
      rw [← hA2] at hN2
      have hA2s : A2.size = 256 := by rw [hA2, Array.size_setIfInBounds, hAs]
      have HA2 := Lib.hid hA2
      have k3 : W2.cell? ⟨wr.heap.size, 0, none⟩ = some (.int .i64 (l : Int)) := hK2.cellAt 0 _ rfl
      have k4 : W2.cell? ⟨wr.heap.size, 1, none⟩ = some (.int .i64 ((a : Int) + (i : Int))) := hK2.cellAt 1 _ rfl
      have q2 : W2.cell? ⟨w.heap.size, 0, none⟩ = some (.map (some m1)) := (Grow.cell hG2 hw1).trans q0
      have hw2 : w.heap.size < W2.heap.size := Nat.lt_of_lt_of_le hw1 hG2.size
      have s3 := Lib.hid (hN2.load46 hA2s size46)
      have hlK := hK2.lt
      have hlN := hN2.lt
      have HW2 := Lib.hid (And.intro hG2 (And.intro hN2 hK2))
      obtain ⟨qC, hC1, hC2, hC3⟩ := ((HI.out.2).grow hG2).c
      have HC4 := Lib.hid (And.intro hC1 (And.intro hC2 hC3))
      clear hA2 hG2 hN2 hK2 hC1 hC2 hC3
      have HU : Hid (∀ w5, MapK pairv w5 m1 (fun z => if z = mkP l (a + i) then some (Value.agg A2) else qC z) → Fr (fun i => i = m1) W2 w5 →
          Hid (Fr (fun k => k = m1 ∨ k = m2) w3 w5 ∧ CntAt w5 m1 m2 (addC F l a y (d.take (i + 1))) G) ∧ w5.cell? ⟨wr.heap.size + 1, c.toNat, none⟩ = some (.int .i64 (V + y)) ∧ wr.heap.size + 1 < w5.heap.size) := Lib.hid fun w5 hM hF => by
        obtain ⟨hG2, hN2, hK2⟩ := HW2.out
        have hm1 : m1 < wr.heap.size := by obtain ⟨⟨q, h1, _⟩, _⟩ := HI.out.2; exact h1.lt
        have hN5 := hF.blk hN2 (fun e => by have e : wr.heap.size + 1 = m1 := e; omega)
        refine ⟨Lib.hid ⟨HI.out.1.trans ((Grow.to hG2).trans (hF.mono (fun k _ e => .inl e))), ?_⟩, ?_, hN5.lt⟩
        · obtain ⟨_, ⟨q', o1, o2⟩, hne⟩ := HI.out.2.grow hG2
          have hFi2 : addC F l a y (d.take (i + 1)) = inc1 Fi (mkP l (a + i)) c.toNat y := by
            rw [htk, addC_snoc, ← HFi.out.1, List.length_take, Nat.min_eq_left (by omega)]
          rw [hFi2]
          have hne' : m2 ≠ m1 := fun e => hne e.symm
          refine ⟨⟨_, hM, fun x hx => ?_, fun x u hx => ?_⟩, ⟨q', o1.same (hF.block m2 o1.lt hne'), o2⟩, hne⟩
          · have hx : (if x = mkP l (a + i) then some (Value.agg A2) else qC x) = none := hx
            intro b
            unfold inc1
            by_cases e : x = mkP l (a + i)
            · rw [if_pos e] at hx; cases hx
            · rw [if_neg e] at hx
              rw [if_neg (fun h => e h.1), HFi.out.1]
              exact HC4.out.2.1 x hx b
          · have hx : (if x = mkP l (a + i) then some (Value.agg A2) else qC x) = some u := hx
            by_cases e : x = mkP l (a + i)
            · rw [if_pos e] at hx
              have hx := Option.some.inj hx
              rw [← hx, e, inc1_same, HA2.out, HA.out, arr_inc _ _ _ y (by rw [HFi.out.2])]
            · rw [if_neg e] at hx
              rw [inc1_other _ _ _ _ _ e, HFi.out.1]
              exact HC4.out.2.2 x u hx
        · have hcs : c.toNat < A2.size := by omega
          refine hN5.cellAt _ _ ?_
          rw [HA2.out, Array.getElem?_setIfInBounds, if_pos rfl, if_pos (by rw [hAs]; omega)]
      go_wp2_with (first
        | (with_reducible refine wpList_load46 _ rfl _ rfl rfl s3.out ?_)
        | (at_mapUpdate; refine wpList_putK _ rfl _ _ _ rfl keys_pair Try.underlying25 HC4.out.1 (mkP l (a + i)) (.agg A2) rfl HPV.out rfl ?_; intro w5 hM5 hF5; obtain ⟨HU5, z1, hlt5⟩ := HU.out w5 hM5 hF5; clear hM5 hF5))
      go_roundg (gk - 1)
      case measure => omega
      case rel => exact ⟨i + 1, by omega, by go_num, HU5⟩
end Go.Proofs.Ytgdkbflhgcchfaa
