/- The reference's frames: RQCrypto, RQOther. -/
import Derived.Test.YtgdkbflhgcchfaaA6
import Derived.Deep.RegionHeld3
namespace Go.Proofs.Ytgdkbflhgcchfaa
open Go.RowKit

/-- A buffer v (bytes l) made since w0, and slices to be appended to it: none lies in the buffer's row. -/
structure Pack (w0 W : World) (v : Value) (l : List UInt8) (S : List (Value × List UInt8)) : Prop where
  grow : Grow w0 W
  own : OwnB W v l
  new : ∀ k, v.ownBlock = some k → w0.heap.size ≤ k ∧ k < W.heap.size
  src : ∀ s ∈ S, Rd W s.1 s.2 ∧ (s.2 ≠ [] → ∀ k, s.1.ownBlock = some k → k < W.heap.size ∧ v.ownBlock ≠ some k)
section
variable {w0 W W' : World} {v x : Value} {l m : List UInt8} {S : List (Value × List UInt8)}
theorem Pack.growTo (P : Pack w0 W v l S) (hG : Grow W W') : Pack w0 W' v l S :=
  ⟨P.grow.trans hG, P.own.keep (fun k hk => hG.block k (P.new k hk).2 (fun e => e)), fun k hk => ⟨(P.new k hk).1, Nat.lt_of_lt_of_le (P.new k hk).2 hG.size⟩, fun s hs => ⟨(P.src s hs).1.keep hG.bytes, fun hne k hk => ⟨Nat.lt_of_lt_of_le ((P.src s hs).2 hne k hk).1 hG.size, ((P.src s hs).2 hne k hk).2⟩⟩⟩
theorem Pack.drew (P : Pack w0 W v l S) : Pack w0 W.drew v l S := P.growTo (Fr.refl _ W).drew
theorem Pack.add (P : Pack w0 W v l S) (hr : Rd W x m) (hx : m ≠ [] → ∀ k, x.ownBlock = some k → k < W.heap.size ∧ v.ownBlock ≠ some k) : Pack w0 W v l ((x, m) :: S) :=
  ⟨P.grow, P.own, P.new, fun s hs => by
    rcases List.mem_cons.1 hs with rfl | hs
    · exact ⟨hr, hx⟩
    · exact P.src s hs⟩
theorem Pack.buf (P : Pack w0 W v l S) : Buf w0 W v l := ⟨P.own, P.grow, P.new⟩
theorem pack_append (P : Pack w0 W v l S) (hx : (x, m) ∈ S) (hl : l.length + m.length ≤ 1000000) (ty : TypeId) : ∃ v' W', (Builtin.append_ #[31, 31] ty #[v, x]).run Try.prog W = .ok v' W' ∧ Pack w0 W' v' (l ++ m) S := by
  obtain ⟨v', W', hrun, h1, h2, h3⟩ := appendB2 P.own (P.src _ hx).1 hl ty
  obtain ⟨g1, g2⟩ := app_next P.grow P.new h2 h3
  refine ⟨v', W', hrun, g1, h1, g2, fun s hs => ⟨?_, fun hne k hk => ⟨Nat.lt_of_lt_of_le ((P.src s hs).2 hne k hk).1 h2.size, fun e => ?_⟩⟩⟩
  · by_cases hne : s.2 = []
    · obtain ⟨p, c, e, a1, a2, _⟩ := (P.src s hs).1
      exact ⟨p, c, e, a1, a2, fun h => (h hne).elim⟩
    · exact (P.src s hs).1.avoid h2 (fun k hk _ e => ((P.src s hs).2 hne k e).2 hk)
  · rcases h3 k e with e | e
    · exact ((P.src s hs).2 hne k hk).2 e
    · have := ((P.src s hs).2 hne k hk).1; omega
theorem Pack.old (P : Pack w0 W v l S) (hr : Rd w0 x m) : Pack w0 W v l ((x, m) :: S) :=
  P.add (hr.keep P.grow.bytes) (fun hne k hk => by
    obtain ⟨p, c, rfl, _, _, h3⟩ := hr
    obtain ⟨b, o, rfl, hb⟩ := h3 hne
    have : b = k := Option.some.inj hk
    subst this
    have := hb.1.lt
    exact ⟨Nat.lt_of_lt_of_le this P.grow.size, fun e => by have := (P.new b e).1; omega⟩)
theorem pack_num (P : Pack w0 W v l S) (n : Nat) (hn : n ≤ 4611686018427387903) (z : Int) (hz : z = (n : Int)) :
    Calls Try.prog 16 #[.int .u64 z] W fun e W' => ∃ b, e = .returned (.slice (some ⟨b, 0, none⟩) (vlen n) (vlen n)) ∧ Pack w0 W' v l ((.slice (some ⟨b, 0, none⟩) (vlen n) (vlen n), V n) :: S) := by
  subst hz
  refine (number_any W n hn).mono ?_
  rintro e W' ⟨hG, b, rfl, hB, hb⟩
  have ho := hB.own (k := vlen n) (V_length n) (by have := vlen_le n; omega)
  refine ⟨b, rfl, (P.growTo hG).add ho.rd (fun _ k hk => ?_)⟩
  have : b = k := Option.some.inj hk
  subst this
  exact ⟨hB.lt, fun e => by have := (P.new b e).2; omega⟩
theorem step_pack {ops : Array Oper} {o : Oper} {a : Act} {K : Act → World → Prop} {Q : Exit → Act → World → Prop} {E : Prop} (P : Pack w0 W v l S) (hw : Region.wanted o (yielded ops a.tmps) = true) (s y : Operand)
    (ho : o.op = .call { callee := .builtin .append, args := #[s, y], argTypes := #[31, 31] }) (hs : a.eval s = v) (hx : a.eval y = x) (hm : (x, m) ∈ S) (hl : l.length + m.length ≤ 1000000)
    (h : ∀ v' W', Pack w0 W' v' (l ++ m) S → K (a.put o.dst v') W') :
    if Region.wanted o (yielded ops a.tmps) = true then Oper.wp Try.prog o a W K Q else E :=
  step_append_run hw s y 31 ho v x hs hx (pack_append P hm hl o.type) h
theorem wpList_pack {ops : Array Oper} {rest : List Oper} {o : Oper} {a : Act} {Q : Exit → Act → World → Prop} (P : Pack w0 W v l S) (hgd : o.guard = none) (s y : Operand)
    (ho : o.op = .call { callee := .builtin .append, args := #[s, y], argTypes := #[31, 31] }) (hs : a.eval s = v) (hx : a.eval y = x) (hm : (x, m) ∈ S) (hl : l.length + m.length ≤ 1000000)
    (h : ∀ v' W', Pack w0 W' v' (l ++ m) S → wpList Try.prog ops Q rest (a.put o.dst v') W') : wpList Try.prog ops Q (o :: rest) a W :=
  wpList_append_run W hgd s y 31 ho v x hs hx (pack_append P hm hl o.type) h
end
set_option maxRecDepth 100000 in
set_option maxHeartbeats 2000000 in
theorem refCrypto_any (w : World) (o : Nat) (d : Value) (m : List UInt8) (hd : Rd w d m) (ho : o ≤ 10000000000) (hm : m.length ≤ 400) :
    Calls Try.prog 8 #[.int .i64 (o : Int), d] w fun e w' => ∃ v', e = .returned v' ∧ Buf w w' v' ((Ct.crypto o m).enc) := by
  obtain ⟨p, cd, rfl, _⟩ := id hd
  have P : Pack w (w.alloc (.cells #[.int .u8 6] 5)) (.slice (some ⟨w.heap.size, 0, none⟩) 1 1) [6] [] := by
    have hB : BRow (w.alloc (.cells #[.int .u8 6] 5)) w.heap.size [6] := Blk.new w #[.int .u8 6] 5
    refine ⟨(Fr.refl _ w).alloc _, hB.own rfl (by decide), fun k hk => ?_, fun s hs => nomatch hs⟩
    have : w.heap.size = k := Option.some.inj hk
    subst this
    exact ⟨Nat.le_refl _, hB.lt⟩
  have P := P.old hd
  clear hd
  have hl0 : vlen o ≤ 8 ∧ (V o).length = vlen o := ⟨(vlen_le o).2, V_length o⟩
  have hl1 : vlen m.length ≤ 8 ∧ (V m.length).length = vlen m.length := ⟨(vlen_le _).2, V_length _⟩
  have HL := Lib.hid (And.intro hl0 hl1)
  have HM := Lib.hid hm
  clear hl0 hl1 hm
  go_enter Try.func8, Try.ntmps8
  go_wp2_with fail
  refine (pack_num P o (by omega) _ rfl).mono ?_
  rintro e W1 ⟨b1, rfl, P1⟩
  have HP1 := Lib.hid P1
  clear P P1
  go_wp2_with (at_builtin; refine wpList_pack HP1.out rfl _ _ rfl rfl rfl List.mem_cons_self (by have := HL.out; simp only [List.length_cons, List.length_nil]; omega) ?_; intro v2 W2 P2; have HP2 := Lib.hid P2; clear P2)
  refine (pack_num HP2.out m.length (by have := HM.out; omega) _ rfl).mono ?_
  rintro e W3 ⟨b3, rfl, P3⟩
  have HP3 := Lib.hid P3
  clear P3
  go_wp2_with (first | (at_builtin; refine wpList_pack HP3.out rfl _ _ rfl rfl rfl List.mem_cons_self (by have := HL.out; simp only [List.length_append, List.length_cons, List.length_nil]; omega) ?_; intro v4 W4 P4; have HP4 := Lib.hid P4; clear P4) | (at_builtin; refine wpList_pack (x := .slice p m.length cd) (m := m) HP4.out rfl _ _ rfl rfl rfl (by simp) (by have := HL.out; have := HM.out; simp only [List.length_append, List.length_cons, List.length_nil]; omega) ?_; intro v5 W5 P5; have HP5 := Lib.hid P5; clear P5))
  go_ret
  exact ⟨v5, rfl, HP5.out.buf⟩
end Go.Proofs.Ytgdkbflhgcchfaa
