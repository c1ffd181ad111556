/- The tied card of laws.FnCYHello: a client's first CRYPTO data are sent whole, cut about the server's name. Without a condition on the arguments. -/
import Derived.Test.YtdhhccpeikhilaaDoorW1
import Derived.Test.YtdhhccpeikhilaaDoorE0
import Derived.Test.YtdhhccpeikhilaaDoorJ5
namespace Go.Proofs.YtdhhccpeikhilaaDoor.fnCYHello
open Go.ChangeShapes Go.WideShapes Go.ChangeAt Go.RowKit Go.Proofs.YtdhhccpeikhilaaDoor

theorem below {W W' : World} (h : Grow W W') : Below W.heap.size W W' := h.below (Nat.le_refl _) (fun _ e => e.elim)

set_option maxRecDepth 100000 in
theorem contract (H : Type) (enc : TypeId × Value → H) (W : World) (base : Nat) (args : Array Value) (ds gs : List (DataW H)) (before : List MemPlace)
    (hval : ∀ (j : Nat) t v, Tryd.f4.params[j]? = some t → args[j]? = some v → Value.okWide Tryd.prog W .any base t v)
    (hW : DataW.Whole enc Tryd.prog Tryd.f4.params.toList Rows.fnCYHelloSpec.vars false W args.toList ds gs before) (hL : laidMetH Tryd.prog Rows.fnCYHelloRow.laid W) :
    Calls Tryd.prog 4 args W fun e W' => ∃ v, e = .returned v ∧ Rows.fnCYHelloSpec.post enc Tryd.prog Tryd.f4 false true false false W args v W' := by
  have hW' := hW
  obtain ⟨p, q, hA0, hV, rfl, hfz, hnd⟩ := hW
  have hA : DataW.TrodAll enc Tryd.prog W 0 (fun _ => true) true Tryd.f4.params.toList args.toList ds p := hA0
  rw [Tryd.params4] at hA hval
  obtain ⟨v0, vs0, d0, ds0, p0, q0, hargs, rfl, rfl, h0, r0⟩ := trodAll_cons hA
  obtain ⟨v1, vs1, d1, ds1, p1, q1, rfl, rfl, rfl, h1, r1⟩ := trodAll_cons r0
  obtain ⟨v2, vs2, d2, ds2, p2, q2, rfl, rfl, rfl, h2, r2⟩ := trodAll_cons r1
  obtain ⟨v3, vs3, d3, ds3, p3, q3, rfl, rfl, rfl, h3, r3⟩ := trodAll_cons r2
  obtain ⟨v4, vs4, d4, ds4, p4, q4, rfl, rfl, rfl, h4, r4⟩ := trodAll_cons r3
  obtain ⟨v5, vs5, d5, ds5, p5, q5, rfl, rfl, rfl, h5, r5⟩ := trodAll_cons r4
  obtain ⟨rfl, rfl, rfl⟩ := trodAll_nil r5
  obtain rfl : args = #[v0, v1, v2, v3, v4, v5] := by cases args; simp_all
  obtain ⟨rfl, rfl⟩ := trodVars_none hV
  obtain ⟨s, rfl⟩ := okWide_string Tryd.underlying9 (hval 0 9 v0 rfl rfl)
  obtain ⟨za, rfl⟩ := okWide_int Tryd.underlying5 (hval 1 5 v1 rfl rfl)
  obtain ⟨zc, rfl⟩ := okWide_int Tryd.underlying5 (hval 2 5 v2 rfl rfl)
  obtain ⟨zk, rfl⟩ := okWide_int Tryd.underlying25 (hval 3 25 v3 rfl rfl)
  obtain ⟨a4, len4, cap4, rfl⟩ := okWide_slice Tryd.underlying26 (hval 4 26 v4 rfl rfl)
  obtain ⟨scr, rfl⟩ := okWide_bool Tryd.underlying4 (hval 5 4 v5 rfl rfl)
  have h0k := h0
  have h1k := h1
  have h2k := h2
  have h3k := h3
  have h4k := h4
  have h5k := h5
  obtain ⟨f1, g1⟩ := h1
  obtain ⟨f2, g2⟩ := h2
  obtain ⟨f3, g3⟩ := h3
  obtain ⟨f4, g4⟩ := h4
  obtain ⟨z1, e1, _, w1⟩ := DataW.trod_int Tryd.underlying5 g1
  obtain ⟨z2, e2, _, w2⟩ := DataW.trod_int Tryd.underlying5 g2
  obtain ⟨z3, e3, _, w3⟩ := DataW.trod_int Tryd.underlying25 g3
  have e1 : za = z1 := by simpa [Value.cells] using e1
  have e2 : zc = z2 := by simpa [Value.cells] using e2
  have e3 : zk = z3 := by simpa [Value.cells] using e3
  subst e1 e2 e3
  have b1 := wf_u8 w1
  have b2 := wf_u8 w2
  have b3 := wf_u16 w3
  obtain ⟨most, hmost⟩ := open_bytes (v := .slice a4 len4 cap4) g4
  obtain ⟨⟨ad, hcell⟩, hsz⟩ := laid_eof hL
  obtain ⟨na, rfl⟩ := Int.eq_ofNat_of_zero_le b1.1
  obtain ⟨nc, rfl⟩ := Int.eq_ofNat_of_zero_le b2.1
  obtain ⟨nk, rfl⟩ := Int.eq_ofNat_of_zero_le b3.1
  clear hA0
  simp only [List.append_nil] at hW'
  refine (hello_law W s na nc nk _ most scr ad hmost (by omega) (by omega) (by omega) hcell hsz).mono fun e W' ⟨he, hg⟩ => ?_
  subst he
  have hb := below hg
  have hlt : ∀ x ∈ p0 ++ (p1 ++ (p2 ++ (p3 ++ (p4 ++ p5)))), x.block < W.heap.size := fun x hx => by simpa using hW'.lt x (by simpa using hx)
  have hT0 := Below.trod laidOut (by kernel_rfl) (of_decide_eq_true (by kernel_rfl)) h0k hb (fun x hx => hlt x (by simp [hx]))
  have hT1 := Below.trod laidOut (by kernel_rfl) (of_decide_eq_true (by kernel_rfl)) h1k hb (fun x hx => hlt x (by simp [hx]))
  have hT2 := Below.trod laidOut (by kernel_rfl) (of_decide_eq_true (by kernel_rfl)) h2k hb (fun x hx => hlt x (by simp [hx]))
  have hT3 := Below.trod laidOut (by kernel_rfl) (of_decide_eq_true (by kernel_rfl)) h3k hb (fun x hx => hlt x (by simp [hx]))
  have hT4 := Below.trod laidOut (by kernel_rfl) (of_decide_eq_true (by kernel_rfl)) h4k hb (fun x hx => hlt x (by simp [hx]))
  have hT5 := Below.trod laidOut (by kernel_rfl) (of_decide_eq_true (by kernel_rfl)) h5k hb (fun x hx => hlt x (by simp [hx]))
  exact ⟨_, rfl, [d0, d1, d2, d3, d4, d5], [], _, _, _, _, hW', trodAll_cons_mk (shut_bool Tryd.underlying4 _) trodAll_mk0, trodAll_cons_mk hT0 (trodAll_cons_mk hT1 (trodAll_cons_mk hT2 (trodAll_cons_mk hT3 (trodAll_cons_mk hT4 (trodAll_cons_mk hT5 trodAll_mk0))))), rfl, hb.frame _, fun h => by cases h⟩

abbrev wArgs : Array Value := #[.string ⟨#[]⟩, .int .u8 0, .int .u8 0, .int .u16 0, .slice none 0 0, .bool false]
theorem reads (os : Os) {H : Type} (enc : TypeId × Value → H) : ∃ places, DataW.whole enc Tryd.prog ((laidWorld os).forCall (fun _ _ => 0) ⟨#[], wArgs, []⟩).memory Tryd.f4.params.toList Rows.fnCYHelloSpec.vars false wArgs.toList 8 = some ([.lit (.string []), .lit (.int .u8 0), .lit (.int .u8 0), .lit (.int .u16 0), .nil, .lit (.bool false)], [], places) :=
  ⟨[], by kernel_rfl⟩

set_option maxRecDepth 100000 in
theorem lifted (os : Os) (started : os.Started) (H : Type) (enc : TypeId × Value → H) (F : Stop.Interp) :
    ReturnsInHanded {} Tryd.checked os 4 .any ((OpenSpec.ofChange Rows.fnCYHelloSpec).preRow enc Tryd.prog Tryd.f4 Rows.fnCYHelloRow.domain false Rows.fnCYHelloRow.laid) (((OpenSpec.ofChange Rows.fnCYHelloSpec).at F).post enc Tryd.prog Tryd.f4 false true false false) := by
  obtain ⟨places, hx⟩ := reads os enc
  refine returnsInHanded_of_row (C := Tryd.checked) (s := OpenSpec.ofChange Rows.fnCYHelloSpec) own started (by kernel_rfl) Tryd.func4
    (witness_row_at (enc := enc) (C := Tryd.checked) false (laidWorld os) wArgs rfl (by kernel_rfl) (by kernel_rfl) (by kernel_rfl)
      (OpenSpec.preRow_of_cond 8 hx (by kernel_rfl) (fun k hk => by cases hk) (by kernel_rfl) (laid_met os _))) ?_
  intro W base args ds gs before hval hW _ _ _ hL _ _
  exact contract H enc W base args ds gs before hval hW hL

theorem said : Rows.FnCYHelloSaid :=
  OpenClaim.holds_of_cond 4 Tryd.f4 rfl rfl rfl rfl rfl rfl rfl ⟨rfl, rfl, rfl, rfl, rfl⟩ rfl rfl rfl rfl rfl (by kernel_rfl) Tryd.func4 (by kernel_rfl)
    (of_decide_eq_true (by kernel_rfl)) (by unfold Func.isWrapper; first | (rw [if_pos (by decide +kernel)]; kernel_rfl) | (rw [if_neg (by decide +kernel)]; exact ⟨rfl, rfl⟩))
    (fun os started H enc _ F => by rw [OpenClaim.pre_eq_preRow]; exact lifted os started H enc F)

/-- No parameter wants a stand-in; the program's own looks are off. -/
theorem plain (f : FuncId) (fn : Func) (hf : Tryd.pinned.checked.prog.funcNamed "given.example/pub-hobbing/laws.FnCYHello" = some f) (hfn : Tryd.pinned.checked.prog.funcs[f]? = some fn) :
    true = Tryd.pinned.checked.prog.looks [] ∧ ∀ (j : Nat) t, fn.params[j]? = some t → Tryd.pinned.checked.prog.wantsStandIn t = false := by
  obtain rfl : f = 4 := Option.some.inj ((show Tryd.prog.funcNamed "given.example/pub-hobbing/laws.FnCYHello" = some 4 by kernel_rfl).symm.trans hf) |>.symm
  obtain rfl : fn = Tryd.f4 := (Option.some.inj (Tryd.func4.symm.trans hfn)).symm
  refine ⟨by kernel_rfl, fun j t ht => ?_⟩
  rw [Tryd.params4] at ht
  have hm : t ∈ [9, 5, 5, 25, 26, 4] := by simpa using Array.mem_of_getElem? ht
  have h : ([9, 5, 5, 25, 26, 4].all fun t => !Tryd.prog.wantsStandIn t) = true := by kernel_rfl
  have h2 := List.all_eq_true.1 h t hm
  have h3 : Tryd.prog.wantsStandIn t = false := by simpa using h2
  exact h3

/-- THE CARD. -/
theorem card : Rows.FnCYHelloCardSaid :=
  Claim7.holds_tied_plain_at .later [] _ _ _ _ said (fun _ h => by cases h) (by kernel_rfl) (fun _ h => by cases h) fnCYHello_row_tie rfl ⟨rfl, rfl⟩ (by kernel_rfl) rfl plain (by kernel_rfl)
#print axioms card
end Go.Proofs.YtdhhccpeikhilaaDoor.fnCYHello
