/- Frames of the package: what they are, their Length and their Append. -/
import Derived.Test.YtgdkbflhgcchfaaA3
namespace Go.Proofs.Ytgdkbflhgcchfaa
open Go.RowKit

/-- A buffer that the program has made since w0, with the bytes l. -/
def Buf (w0 W : World) (v : Value) (l : List UInt8) : Prop := OwnB W v l ∧ Grow w0 W ∧ ∀ k, v.ownBlock = some k → w0.heap.size ≤ k ∧ k < W.heap.size
theorem Buf.nil (w : World) : Buf w w (.slice none 0 0) [] := ⟨Own.nil w 5 1, Fr.refl _ _, New.nil w w⟩
theorem Buf.alloc {w0 W : World} {v : Value} {l : List UInt8} (h : Buf w0 W v l) (o : Obj) : Buf w0 (W.alloc o) v l :=
  ⟨h.1.keep (fun k hk => Below.heap_alloc _ _ _ (h.2.2 k hk).2), h.2.1.alloc o, New.grow h.2.2 ((Fr.refl _ _).alloc o)⟩
theorem Buf.of {w0 W w' : World} {v v' : Value} {l l' : List UInt8} (h : Buf w0 W v l) (ho : OwnB w' v' l') (hF : Fr (fun k => v.ownBlock = some k) W w') (hf : ∀ k, v'.ownBlock = some k → v.ownBlock = some k ∨ (W.heap.size ≤ k ∧ k < w'.heap.size)) : Buf w0 w' v' l' := by
  obtain ⟨h1, h2⟩ := app_next h.2.1 h.2.2 hF hf
  exact ⟨ho, h1, h2⟩
/-- .. of at most k bytes. -/
def LBuf (w0 W : World) (v : Value) (l : List UInt8) (k : Nat) : Prop := Buf w0 W v l ∧ l.length ≤ k
/-- 'append(b, x)' of one byte x. -/
theorem wpList_append1 {w0 W : World} {ops : Array Oper} {rest : List Oper} {o : Oper} {a : Act} {Q : Exit → Act → World → Prop} {v : Value} {l : List UInt8} (hgd : o.guard = none) (s x : Operand)
    (ho : o.op = .call { callee := .builtin .append, args := #[s, x], argTypes := #[31, 31] }) {k : Nat} (hB : LBuf w0 W v l k) (z : Int) (c : UInt8) (hz : Value.int .u8 z = u8 c) (hlen : k ≤ 100000)
    (hs : a.eval s = v) (hx : a.eval x = .slice (some ⟨W.heap.size, 0, none⟩) 1 1)
    (h : ∀ v' w', LBuf w0 w' v' (l ++ [c]) (k + 1) → wpList Try.prog ops Q rest (a.put o.dst v') w') : wpList Try.prog ops Q (o :: rest) a (W.alloc (.cells #[.int .u8 z] 5)) := by
  rw [hz]
  refine wpList_appendB2 _ hgd s x ho v _ l [c] (hB.1.alloc _).1 (Rd.one W c) (by have := hB.2; simp; omega) hs hx ?_
  intro v' w' h1 h2 h3
  exact h v' w' ⟨(hB.1.alloc _).of h1 h2 h3, by have := hB.2; simp; omega⟩
/-- 'append(b, d...)'. -/
theorem wpList_appendD {w0 W : World} {ops : Array Oper} {rest : List Oper} {o : Oper} {a : Act} {Q : Exit → Act → World → Prop} {v d : Value} {l m : List UInt8} (hgd : o.guard = none) (s x : Operand)
    (ho : o.op = .call { callee := .builtin .append, args := #[s, x], argTypes := #[31, 31] }) {k : Nat} (hB : LBuf w0 W v l k) (hd : Rd w0 d m) (hm : m.length ≤ 400) (hlen : k ≤ 100000)
    (hs : a.eval s = v) (hx : a.eval x = d)
    (h : ∀ v' w', LBuf w0 w' v' (l ++ m) (k + 400) → wpList Try.prog ops Q rest (a.put o.dst v') w') : wpList Try.prog ops Q (o :: rest) a W := by
  refine wpList_appendB2 _ hgd s x ho v d l m hB.1.1 (hd.keep hB.1.2.1.bytes) (by have := hB.2; omega) hs hx ?_
  intro v' w' h1 h2 h3
  exact h v' w' ⟨hB.1.of h1 h2 h3, by have := hB.2; simp; omega⟩
theorem vbuf {w0 W : World} {v : Value} {l : List UInt8} {k : Nat} (hB : LBuf w0 W v l k) (z : Int) (n : Nat) (hz : z = (n : Int)) (hl : k ≤ 100000) (hn : n ≤ 4611686018427387903) :
    Calls Try.prog 67 #[v, .int .u64 z] W fun e w' => ∃ v', e = .returned v' ∧ LBuf w0 w' v' (l ++ V n) (k + 8) := by
  subst hz
  refine (vappend W v l n hB.1.1 (fun k hk => (hB.1.2.2 k hk).2) (by have := hB.2; omega) hn).mono ?_
  rintro e w' ⟨v', rfl, h1, h2, h3⟩
  exact ⟨v', rfl, hB.1.of h1 h2 h3, by have := hB.2; have := vlen_le n; rw [List.length_append, V_length]; omega⟩
theorem Buf.cell {w0 W : World} {v : Value} {l : List UInt8} (h : Buf w0 W v l) {b i : Nat} {x : Value} (hb : b < w0.heap.size) (hx : w0.cell? ⟨b, i, none⟩ = some x) : W.cell? ⟨b, i, none⟩ = some x := (h.2.1.cell hb).trans hx

/-- Control frames, as the statements make them. -/
inductive Ct where
  | ping | done
  | reset (a b : Nat) | stop (a b : Nat) | maxStream (a b : Nat)
  | maxData (a : Nat) | maxStreams (a : Nat) | retire (a : Nat)
  | token (d : List UInt8) | crypto (a : Nat) (d : List UInt8)
namespace Ct
def ty : Ct → Nat | ping => 1 | done => 30 | reset _ _ => 4 | stop _ _ => 5 | maxStream _ _ => 17 | maxData _ => 16 | maxStreams _ => 18 | retire _ => 25 | token _ => 7 | crypto _ _ => 6
def a : Ct → Nat | reset a _ => a | stop a _ => a | maxStream a _ => a | maxData a => a | maxStreams a => a | retire a => a | crypto a _ => a | _ => 0
def b : Ct → Nat | reset _ b => b | stop _ b => b | maxStream _ b => b | _ => 0
def c : Ct → Nat | reset a _ => a | _ => 0
def data : Ct → List UInt8 | token d => d | crypto _ d => d | _ => []
/-- Sizes. -/
def Ok (x : Ct) : Prop := x.a ≤ 10000000000 ∧ x.b ≤ 10000000000 ∧ x.data.length ≤ 400
/-- As it stands on the wire. -/
def enc (x : Ct) : List UInt8 := match x with
  | ping => [1] | done => [30]
  | reset a b => [4] ++ V a ++ V b ++ V a | stop a b => [5] ++ V a ++ V b | maxStream a b => [17] ++ V a ++ V b
  | maxData a => [16] ++ V a | maxStreams a => [18] ++ V a | retire a => [25] ++ V a
  | token d => [7] ++ V d.length ++ d | crypto a d => [6] ++ V a ++ V d.length ++ d
end Ct

set_option maxRecDepth 100000 in
set_option maxHeartbeats 1000000 in
theorem app_ping (w : World) (p : Nat) (hf : Blk w p #[] 166) :
    Calls Try.prog 99 #[.pointer (some ⟨p, 0, none⟩), .slice none 0 0, .int .u32 1] w fun e w' => ∃ v', e = .returned (.tuple #[v', .nilIface]) ∧ Buf w w' v' ([1]) := by
  have hlt := hf.lt
  have HB := Lib.hid (show LBuf w w (.slice none 0 0) [] 0 from ⟨Buf.nil w, Nat.le_refl _⟩)
  clear hf
  go_enter Try.func99, Try.ntmps99
  go_wp2_with (at_builtin; refine wpList_append1 (k := 0) rfl _ _ rfl HB.out _ 1 rfl (by omega) rfl rfl ?_; intro v' wv hB; have HB := Lib.hid hB; clear hB; skip)
  refine bodyPost_ret (v := .tuple #[v', .nilIface]) (by simp [results, Try.results99, go_sem]) rfl ?_
  refine ⟨v', rfl, ?_⟩
  have hB := HB.out.1
  exact hB

set_option maxRecDepth 100000 in
set_option maxHeartbeats 1000000 in
theorem len_ping (w : World) (p : Nat) (hf : Blk w p #[] 166) :
    Calls Try.prog 100 #[.pointer (some ⟨p, 0, none⟩), .int .u32 1] w fun e w' => e = .returned (.int .i64 ((1 : Nat) : Int)) ∧ Grow w w' := by
  have hlt := hf.lt
  clear hf
  go_enter Try.func100, Try.ntmps100
  go_wp2_with fail
  go_ret
  exact ⟨ret_int (by omega), Fr.refl _ _⟩

set_option maxRecDepth 100000 in
set_option maxHeartbeats 1000000 in
theorem app_done (w : World) (p : Nat) (hf : Blk w p #[] 164) :
    Calls Try.prog 97 #[.pointer (some ⟨p, 0, none⟩), .slice none 0 0, .int .u32 1] w fun e w' => ∃ v', e = .returned (.tuple #[v', .nilIface]) ∧ Buf w w' v' ([30]) := by
  have hlt := hf.lt
  have HB := Lib.hid (show LBuf w w (.slice none 0 0) [] 0 from ⟨Buf.nil w, Nat.le_refl _⟩)
  clear hf
  go_enter Try.func97, Try.ntmps97
  go_wp2_with (at_builtin; refine wpList_append1 (k := 0) rfl _ _ rfl HB.out _ 30 rfl (by omega) rfl rfl ?_; intro v' wv hB; have HB := Lib.hid hB; clear hB; skip)
  refine bodyPost_ret (v := .tuple #[v', .nilIface]) (by simp [results, Try.results97, go_sem]) rfl ?_
  refine ⟨v', rfl, ?_⟩
  have hB := HB.out.1
  exact hB

set_option maxRecDepth 100000 in
set_option maxHeartbeats 1000000 in
theorem len_done (w : World) (p : Nat) (hf : Blk w p #[] 164) :
    Calls Try.prog 98 #[.pointer (some ⟨p, 0, none⟩), .int .u32 1] w fun e w' => e = .returned (.int .i64 ((1 : Nat) : Int)) ∧ Grow w w' := by
  have hlt := hf.lt
  clear hf
  go_enter Try.func98, Try.ntmps98
  go_wp2_with fail
  go_ret
  exact ⟨ret_int (by omega), Fr.refl _ _⟩

set_option maxRecDepth 100000 in
set_option maxHeartbeats 1000000 in
theorem app_reset (w : World) (p : Nat) (a b : Nat) (hf : Blk w p #[.int .i64 (a : Int), .int .u64 (b : Int), .int .i64 (a : Int), .int .i64 0] 116) (ha : a ≤ 10000000000) (hb : b ≤ 10000000000) :
    Calls Try.prog 65 #[.pointer (some ⟨p, 0, none⟩), .slice none 0 0, .int .u32 1] w fun e w' => ∃ v', e = .returned (.tuple #[v', .nilIface]) ∧ Buf w w' v' ([4] ++ V a ++ V b ++ V a) := by
  have hlt := hf.lt
  have c0 : w.cell? ⟨p, 0, none⟩ = some (.int .i64 (a : Int)) := hf.cellAt 0 _ rfl
  have c1 : w.cell? ⟨p, 1, none⟩ = some (.int .u64 (b : Int)) := hf.cellAt 1 _ rfl
  have c2 : w.cell? ⟨p, 2, none⟩ = some (.int .i64 (a : Int)) := hf.cellAt 2 _ rfl
  have c3 : w.cell? ⟨p, 3, none⟩ = some (.int .i64 0) := hf.cellAt 3 _ rfl
  have HB := Lib.hid (show LBuf w w (.slice none 0 0) [] 0 from ⟨Buf.nil w, Nat.le_refl _⟩)
  have HK0 := Lib.hid c0
  have HK1 := Lib.hid c1
  have HK2 := Lib.hid c2
  have HK3 := Lib.hid c3
  clear hf
  go_enter Try.func65, Try.ntmps65
  go_wp2_with fail
  refine (vbuf (k := 0) HB.out 4 4 rfl (by omega) (by omega)).mono ?_; rintro e wv ⟨v', rfl, hB⟩; have HB := Lib.hid hB; clear hB; have c0 := HB.out.1.cell hlt (HK0.out); have c1 := HB.out.1.cell hlt (HK1.out); have c2 := HB.out.1.cell hlt (HK2.out); have c3 := HB.out.1.cell hlt (HK3.out); skip
  go_wp2_with fail
  refine (vbuf (k := 0 + 8) HB.out _ a rfl (by omega) (by omega)).mono ?_; rintro e wv ⟨v', rfl, hB⟩; have HB := Lib.hid hB; clear hB; have c0 := HB.out.1.cell hlt (HK0.out); have c1 := HB.out.1.cell hlt (HK1.out); have c2 := HB.out.1.cell hlt (HK2.out); have c3 := HB.out.1.cell hlt (HK3.out); skip
  go_wp2_with fail
  refine (vbuf (k := 0 + 8 + 8) HB.out _ b rfl (by omega) (by omega)).mono ?_; rintro e wv ⟨v', rfl, hB⟩; have HB := Lib.hid hB; clear hB; have c0 := HB.out.1.cell hlt (HK0.out); have c1 := HB.out.1.cell hlt (HK1.out); have c2 := HB.out.1.cell hlt (HK2.out); have c3 := HB.out.1.cell hlt (HK3.out); skip
  go_wp2_with fail
  refine (vbuf (k := 0 + 8 + 8 + 8) HB.out _ a rfl (by omega) (by omega)).mono ?_; rintro e wv ⟨v', rfl, hB⟩; have HB := Lib.hid hB; clear hB; have c0 := HB.out.1.cell hlt (HK0.out); have c1 := HB.out.1.cell hlt (HK1.out); have c2 := HB.out.1.cell hlt (HK2.out); have c3 := HB.out.1.cell hlt (HK3.out); skip
  go_wp2_with fail
  refine bodyPost_ret (v := .tuple #[v', .nilIface]) (by simp [results, Try.results65, go_sem]) rfl ?_
  refine ⟨v', rfl, ?_⟩
  have hB := HB.out.1
  exact hB

set_option maxRecDepth 100000 in
set_option maxHeartbeats 1000000 in
theorem len_reset (w : World) (p : Nat) (a b : Nat) (hf : Blk w p #[.int .i64 (a : Int), .int .u64 (b : Int), .int .i64 (a : Int), .int .i64 0] 116) (ha : a ≤ 10000000000) (hb : b ≤ 10000000000) :
    Calls Try.prog 66 #[.pointer (some ⟨p, 0, none⟩), .int .u32 1] w fun e w' => e = .returned (.int .i64 ((1 + vlen a + vlen b + vlen a : Nat) : Int)) ∧ Grow w w' := by
  have hlt := hf.lt
  have c0 : w.cell? ⟨p, 0, none⟩ = some (.int .i64 (a : Int)) := hf.cellAt 0 _ rfl
  have c1 : w.cell? ⟨p, 1, none⟩ = some (.int .u64 (b : Int)) := hf.cellAt 1 _ rfl
  have c2 : w.cell? ⟨p, 2, none⟩ = some (.int .i64 (a : Int)) := hf.cellAt 2 _ rfl
  have c3 : w.cell? ⟨p, 3, none⟩ = some (.int .i64 0) := hf.cellAt 3 _ rfl
  have la := len_any w a (by omega)
  have bla := vlen_le a
  have lb := len_any w b (by omega)
  have blb := vlen_le b
  have x0 : 0 ≤ (a : Int) := by omega
  have x1 : 0 ≤ (b : Int) := by omega
  clear hf
  have s0 : IntKind.i64.wrap (1 + (vlen a : Int)) = 1 + (vlen a : Int) := IntWalk.i64_in _ (by omega)
  have s1 : IntKind.i64.wrap (1 + (vlen a : Int) + (vlen b : Int)) = 1 + (vlen a : Int) + (vlen b : Int) := IntWalk.i64_in _ (by omega)
  have s2 : IntKind.i64.wrap (1 + (vlen a : Int) + (vlen b : Int) + (vlen a : Int)) = 1 + (vlen a : Int) + (vlen b : Int) + (vlen a : Int) := IntWalk.i64_in _ (by omega)
  go_enter Try.func66, Try.ntmps66
  go_wp2_with fail
  go_quiet ((go_at_call 47; exact Calls.quiet_of_same (flip_world (len_any _ _ (by omega)))))
  go_wp2_with fail
  go_ret
  exact ⟨ret_int (by omega), drewN_grow _ _⟩

set_option maxRecDepth 100000 in
set_option maxHeartbeats 1000000 in
theorem app_stop (w : World) (p : Nat) (a b : Nat) (hf : Blk w p #[.int .i64 (a : Int), .int .u64 (b : Int)] 119) (ha : a ≤ 10000000000) (hb : b ≤ 10000000000) :
    Calls Try.prog 68 #[.pointer (some ⟨p, 0, none⟩), .slice none 0 0, .int .u32 1] w fun e w' => ∃ v', e = .returned (.tuple #[v', .nilIface]) ∧ Buf w w' v' ([5] ++ V a ++ V b) := by
  have hlt := hf.lt
  have c0 : w.cell? ⟨p, 0, none⟩ = some (.int .i64 (a : Int)) := hf.cellAt 0 _ rfl
  have c1 : w.cell? ⟨p, 1, none⟩ = some (.int .u64 (b : Int)) := hf.cellAt 1 _ rfl
  have HB := Lib.hid (show LBuf w w (.slice none 0 0) [] 0 from ⟨Buf.nil w, Nat.le_refl _⟩)
  have HK0 := Lib.hid c0
  have HK1 := Lib.hid c1
  clear hf
  go_enter Try.func68, Try.ntmps68
  go_wp2_with (at_builtin; refine wpList_append1 (k := 0) rfl _ _ rfl HB.out _ 5 rfl (by omega) rfl rfl ?_; intro v' wv hB; have HB := Lib.hid hB; clear hB; have c0 := HB.out.1.cell hlt (HK0.out); have c1 := HB.out.1.cell hlt (HK1.out); skip)
  refine (vbuf (k := 0 + 1) HB.out _ a rfl (by omega) (by omega)).mono ?_; rintro e wv ⟨v', rfl, hB⟩; have HB := Lib.hid hB; clear hB; have c0 := HB.out.1.cell hlt (HK0.out); have c1 := HB.out.1.cell hlt (HK1.out); skip
  go_wp2_with fail
  refine (vbuf (k := 0 + 1 + 8) HB.out _ b rfl (by omega) (by omega)).mono ?_; rintro e wv ⟨v', rfl, hB⟩; have HB := Lib.hid hB; clear hB; have c0 := HB.out.1.cell hlt (HK0.out); have c1 := HB.out.1.cell hlt (HK1.out); skip
  go_wp2_with fail
  refine bodyPost_ret (v := .tuple #[v', .nilIface]) (by simp [results, Try.results68, go_sem]) rfl ?_
  refine ⟨v', rfl, ?_⟩
  have hB := HB.out.1
  exact hB

set_option maxRecDepth 100000 in
set_option maxHeartbeats 1000000 in
theorem len_stop (w : World) (p : Nat) (a b : Nat) (hf : Blk w p #[.int .i64 (a : Int), .int .u64 (b : Int)] 119) (ha : a ≤ 10000000000) (hb : b ≤ 10000000000) :
    Calls Try.prog 69 #[.pointer (some ⟨p, 0, none⟩), .int .u32 1] w fun e w' => e = .returned (.int .i64 ((1 + vlen a + vlen b : Nat) : Int)) ∧ Grow w w' := by
  have hlt := hf.lt
  have c0 : w.cell? ⟨p, 0, none⟩ = some (.int .i64 (a : Int)) := hf.cellAt 0 _ rfl
  have c1 : w.cell? ⟨p, 1, none⟩ = some (.int .u64 (b : Int)) := hf.cellAt 1 _ rfl
  have la := len_any w a (by omega)
  have bla := vlen_le a
  have lb := len_any w b (by omega)
  have blb := vlen_le b
  have x0 : 0 ≤ (a : Int) := by omega
  have x1 : 0 ≤ (b : Int) := by omega
  clear hf
  have s0 : IntKind.i64.wrap ((vlen a : Int) + (vlen b : Int)) = (vlen a : Int) + (vlen b : Int) := IntWalk.i64_in _ (by omega)
  have s1 : IntKind.i64.wrap (1 + ((vlen a : Int) + (vlen b : Int))) = 1 + ((vlen a : Int) + (vlen b : Int)) := IntWalk.i64_in _ (by omega)
  go_enter Try.func69, Try.ntmps69
  go_wp2_with fail
  go_quiet ((go_at_call 47; exact Calls.quiet_of_same (flip_world (len_any _ _ (by omega)))))
  go_wp2_with fail
  go_ret
  exact ⟨ret_int (by omega), drewN_grow _ _⟩

set_option maxRecDepth 100000 in
set_option maxHeartbeats 1000000 in
theorem app_maxStream (w : World) (p : Nat) (a b : Nat) (hf : Blk w p #[.int .i64 (a : Int), .int .i64 (b : Int)] 131) (ha : a ≤ 10000000000) (hb : b ≤ 10000000000) :
    Calls Try.prog 75 #[.pointer (some ⟨p, 0, none⟩), .slice none 0 0, .int .u32 1] w fun e w' => ∃ v', e = .returned (.tuple #[v', .nilIface]) ∧ Buf w w' v' ([17] ++ V a ++ V b) := by
  have hlt := hf.lt
  have c0 : w.cell? ⟨p, 0, none⟩ = some (.int .i64 (a : Int)) := hf.cellAt 0 _ rfl
  have c1 : w.cell? ⟨p, 1, none⟩ = some (.int .i64 (b : Int)) := hf.cellAt 1 _ rfl
  have HB := Lib.hid (show LBuf w w (.slice none 0 0) [] 0 from ⟨Buf.nil w, Nat.le_refl _⟩)
  have HK0 := Lib.hid c0
  have HK1 := Lib.hid c1
  clear hf
  go_enter Try.func75, Try.ntmps75
  go_wp2_with (at_builtin; refine wpList_append1 (k := 0) rfl _ _ rfl HB.out _ 17 rfl (by omega) rfl rfl ?_; intro v' wv hB; have HB := Lib.hid hB; clear hB; have c0 := HB.out.1.cell hlt (HK0.out); have c1 := HB.out.1.cell hlt (HK1.out); skip)
  refine (vbuf (k := 0 + 1) HB.out _ a rfl (by omega) (by omega)).mono ?_; rintro e wv ⟨v', rfl, hB⟩; have HB := Lib.hid hB; clear hB; have c0 := HB.out.1.cell hlt (HK0.out); have c1 := HB.out.1.cell hlt (HK1.out); skip
  go_wp2_with fail
  refine (vbuf (k := 0 + 1 + 8) HB.out _ b rfl (by omega) (by omega)).mono ?_; rintro e wv ⟨v', rfl, hB⟩; have HB := Lib.hid hB; clear hB; have c0 := HB.out.1.cell hlt (HK0.out); have c1 := HB.out.1.cell hlt (HK1.out); skip
  go_wp2_with fail
  refine bodyPost_ret (v := .tuple #[v', .nilIface]) (by simp [results, Try.results75, go_sem]) rfl ?_
  refine ⟨v', rfl, ?_⟩
  have hB := HB.out.1
  exact hB

set_option maxRecDepth 100000 in
set_option maxHeartbeats 1000000 in
theorem len_maxStream (w : World) (p : Nat) (a b : Nat) (hf : Blk w p #[.int .i64 (a : Int), .int .i64 (b : Int)] 131) (ha : a ≤ 10000000000) (hb : b ≤ 10000000000) :
    Calls Try.prog 76 #[.pointer (some ⟨p, 0, none⟩), .int .u32 1] w fun e w' => e = .returned (.int .i64 ((1 + vlen a + vlen b : Nat) : Int)) ∧ Grow w w' := by
  have hlt := hf.lt
  have c0 : w.cell? ⟨p, 0, none⟩ = some (.int .i64 (a : Int)) := hf.cellAt 0 _ rfl
  have c1 : w.cell? ⟨p, 1, none⟩ = some (.int .i64 (b : Int)) := hf.cellAt 1 _ rfl
  have la := len_any w a (by omega)
  have bla := vlen_le a
  have lb := len_any w b (by omega)
  have blb := vlen_le b
  have x0 : 0 ≤ (a : Int) := by omega
  have x1 : 0 ≤ (b : Int) := by omega
  clear hf
  have s0 : IntKind.i64.wrap ((vlen a : Int) + (vlen b : Int)) = (vlen a : Int) + (vlen b : Int) := IntWalk.i64_in _ (by omega)
  have s1 : IntKind.i64.wrap (1 + ((vlen a : Int) + (vlen b : Int))) = 1 + ((vlen a : Int) + (vlen b : Int)) := IntWalk.i64_in _ (by omega)
  go_enter Try.func76, Try.ntmps76
  go_wp2_with fail
  go_quiet ((go_at_call 47; exact Calls.quiet_of_same (flip_world (len_any _ _ (by omega)))))
  go_wp2_with fail
  go_ret
  exact ⟨ret_int (by omega), drewN_grow _ _⟩

set_option maxRecDepth 100000 in
set_option maxHeartbeats 1000000 in
theorem app_maxData (w : World) (p : Nat) (a : Nat) (hf : Blk w p #[.int .i64 (a : Int)] 128) (ha : a ≤ 10000000000) :
    Calls Try.prog 73 #[.pointer (some ⟨p, 0, none⟩), .slice none 0 0, .int .u32 1] w fun e w' => ∃ v', e = .returned (.tuple #[v', .nilIface]) ∧ Buf w w' v' ([16] ++ V a) := by
  have hlt := hf.lt
  have c0 : w.cell? ⟨p, 0, none⟩ = some (.int .i64 (a : Int)) := hf.cellAt 0 _ rfl
  have HB := Lib.hid (show LBuf w w (.slice none 0 0) [] 0 from ⟨Buf.nil w, Nat.le_refl _⟩)
  have HK0 := Lib.hid c0
  clear hf
  go_enter Try.func73, Try.ntmps73
  go_wp2_with (at_builtin; refine wpList_append1 (k := 0) rfl _ _ rfl HB.out _ 16 rfl (by omega) rfl rfl ?_; intro v' wv hB; have HB := Lib.hid hB; clear hB; have c0 := HB.out.1.cell hlt (HK0.out); skip)
  refine (vbuf (k := 0 + 1) HB.out _ a rfl (by omega) (by omega)).mono ?_; rintro e wv ⟨v', rfl, hB⟩; have HB := Lib.hid hB; clear hB; have c0 := HB.out.1.cell hlt (HK0.out); skip
  go_wp2_with fail
  refine bodyPost_ret (v := .tuple #[v', .nilIface]) (by simp [results, Try.results73, go_sem]) rfl ?_
  refine ⟨v', rfl, ?_⟩
  have hB := HB.out.1
  exact hB

set_option maxRecDepth 100000 in
set_option maxHeartbeats 1000000 in
theorem len_maxData (w : World) (p : Nat) (a : Nat) (hf : Blk w p #[.int .i64 (a : Int)] 128) (ha : a ≤ 10000000000) :
    Calls Try.prog 74 #[.pointer (some ⟨p, 0, none⟩), .int .u32 1] w fun e w' => e = .returned (.int .i64 ((1 + vlen a : Nat) : Int)) ∧ Grow w w' := by
  have hlt := hf.lt
  have c0 : w.cell? ⟨p, 0, none⟩ = some (.int .i64 (a : Int)) := hf.cellAt 0 _ rfl
  have la := len_any w a (by omega)
  have bla := vlen_le a
  have x0 : 0 ≤ (a : Int) := by omega
  clear hf
  generalize vlen a = l0 at *
  go_enter Try.func74, Try.ntmps74
  go_wp2_with (first | (go_at_call 47; refine la.mono ?_; rintro e w2 ⟨rfl, rfl⟩))
  go_ret
  exact ⟨ret_int (by omega), Fr.refl _ _⟩

set_option maxRecDepth 100000 in
set_option maxHeartbeats 1000000 in
theorem app_maxStreams (w : World) (p : Nat) (a : Nat) (hf : Blk w p #[.int .u8 1, .int .i64 (a : Int)] 135) (ha : a ≤ 10000000000) :
    Calls Try.prog 77 #[.pointer (some ⟨p, 0, none⟩), .slice none 0 0, .int .u32 1] w fun e w' => ∃ v', e = .returned (.tuple #[v', .nilIface]) ∧ Buf w w' v' ([18] ++ V a) := by
  have hlt := hf.lt
  have c0 : w.cell? ⟨p, 0, none⟩ = some (.int .u8 1) := hf.cellAt 0 _ rfl
  have c1 : w.cell? ⟨p, 1, none⟩ = some (.int .i64 (a : Int)) := hf.cellAt 1 _ rfl
  have HB := Lib.hid (show LBuf w w (.slice none 0 0) [] 0 from ⟨Buf.nil w, Nat.le_refl _⟩)
  have HK0 := Lib.hid c0
  have HK1 := Lib.hid c1
  clear hf
  go_enter Try.func77, Try.ntmps77
  go_wp2_with (at_builtin; refine wpList_append1 (k := 0) rfl _ _ rfl HB.out _ 18 rfl (by omega) rfl rfl ?_; intro v' wv hB; have HB := Lib.hid hB; clear hB; have c0 := HB.out.1.cell hlt (HK0.out); have c1 := HB.out.1.cell hlt (HK1.out); skip)
  refine (vbuf (k := 0 + 1) HB.out _ a rfl (by omega) (by omega)).mono ?_; rintro e wv ⟨v', rfl, hB⟩; have HB := Lib.hid hB; clear hB; have c0 := HB.out.1.cell hlt (HK0.out); have c1 := HB.out.1.cell hlt (HK1.out); skip
  go_wp2_with fail
  refine bodyPost_ret (v := .tuple #[v', .nilIface]) (by simp [results, Try.results77, go_sem]) rfl ?_
  refine ⟨v', rfl, ?_⟩
  have hB := HB.out.1
  exact hB

set_option maxRecDepth 100000 in
set_option maxHeartbeats 1000000 in
theorem len_maxStreams (w : World) (p : Nat) (a : Nat) (hf : Blk w p #[.int .u8 1, .int .i64 (a : Int)] 135) (ha : a ≤ 10000000000) :
    Calls Try.prog 78 #[.pointer (some ⟨p, 0, none⟩), .int .u32 1] w fun e w' => e = .returned (.int .i64 ((1 + vlen a : Nat) : Int)) ∧ Grow w w' := by
  have hlt := hf.lt
  have c0 : w.cell? ⟨p, 0, none⟩ = some (.int .u8 1) := hf.cellAt 0 _ rfl
  have c1 : w.cell? ⟨p, 1, none⟩ = some (.int .i64 (a : Int)) := hf.cellAt 1 _ rfl
  have la := len_any w a (by omega)
  have bla := vlen_le a
  have x0 : 0 ≤ (a : Int) := by omega
  clear hf
  generalize vlen a = l0 at *
  go_enter Try.func78, Try.ntmps78
  go_wp2_with (first | (go_at_call 47; refine la.mono ?_; rintro e w2 ⟨rfl, rfl⟩))
  go_ret
  exact ⟨ret_int (by omega), Fr.refl _ _⟩

set_option maxRecDepth 100000 in
set_option maxHeartbeats 1000000 in
theorem app_retire (w : World) (p : Nat) (a : Nat) (hf : Blk w p #[.int .u64 (a : Int)] 154) (ha : a ≤ 10000000000) :
    Calls Try.prog 91 #[.pointer (some ⟨p, 0, none⟩), .slice none 0 0, .int .u32 1] w fun e w' => ∃ v', e = .returned (.tuple #[v', .nilIface]) ∧ Buf w w' v' ([25] ++ V a) := by
  have hlt := hf.lt
  have c0 : w.cell? ⟨p, 0, none⟩ = some (.int .u64 (a : Int)) := hf.cellAt 0 _ rfl
  have HB := Lib.hid (show LBuf w w (.slice none 0 0) [] 0 from ⟨Buf.nil w, Nat.le_refl _⟩)
  have HK0 := Lib.hid c0
  clear hf
  go_enter Try.func91, Try.ntmps91
  go_wp2_with (at_builtin; refine wpList_append1 (k := 0) rfl _ _ rfl HB.out _ 25 rfl (by omega) rfl rfl ?_; intro v' wv hB; have HB := Lib.hid hB; clear hB; have c0 := HB.out.1.cell hlt (HK0.out); skip)
  refine (vbuf (k := 0 + 1) HB.out _ a rfl (by omega) (by omega)).mono ?_; rintro e wv ⟨v', rfl, hB⟩; have HB := Lib.hid hB; clear hB; have c0 := HB.out.1.cell hlt (HK0.out); skip
  go_wp2_with fail
  refine bodyPost_ret (v := .tuple #[v', .nilIface]) (by simp [results, Try.results91, go_sem]) rfl ?_
  refine ⟨v', rfl, ?_⟩
  have hB := HB.out.1
  exact hB

set_option maxRecDepth 100000 in
set_option maxHeartbeats 1000000 in
theorem len_retire (w : World) (p : Nat) (a : Nat) (hf : Blk w p #[.int .u64 (a : Int)] 154) (ha : a ≤ 10000000000) :
    Calls Try.prog 92 #[.pointer (some ⟨p, 0, none⟩), .int .u32 1] w fun e w' => e = .returned (.int .i64 ((1 + vlen a : Nat) : Int)) ∧ Grow w w' := by
  have hlt := hf.lt
  have c0 : w.cell? ⟨p, 0, none⟩ = some (.int .u64 (a : Int)) := hf.cellAt 0 _ rfl
  have la := len_any w a (by omega)
  have bla := vlen_le a
  have x0 : 0 ≤ (a : Int) := by omega
  clear hf
  generalize vlen a = l0 at *
  go_enter Try.func92, Try.ntmps92
  go_wp2_with (first | (go_at_call 47; refine la.mono ?_; rintro e w2 ⟨rfl, rfl⟩))
  go_ret
  exact ⟨ret_int (by omega), Fr.refl _ _⟩

set_option maxRecDepth 100000 in
set_option maxHeartbeats 1000000 in
theorem app_token (w : World) (p : Nat) (d : Value) (m : List UInt8) (hf : Blk w p #[d] 125) (hd : Rd w d m) (hm : m.length ≤ 400) :
    Calls Try.prog 71 #[.pointer (some ⟨p, 0, none⟩), .slice none 0 0, .int .u32 1] w fun e w' => ∃ v', e = .returned (.tuple #[v', .nilIface]) ∧ Buf w w' v' ([7] ++ V m.length ++ m) := by
  have hlt := hf.lt
  have c0 : w.cell? ⟨p, 0, none⟩ = some (d) := hf.cellAt 0 _ rfl
  obtain ⟨q, cap, rfl, hdd⟩ : ∃ q cap, d = .slice q m.length cap ∧ Rd w d m := by obtain ⟨q, cap, e, _⟩ := id hd; exact ⟨q, cap, e, hd⟩
  have HD := Lib.hid hdd
  clear hd hdd
  have HB := Lib.hid (show LBuf w w (.slice none 0 0) [] 0 from ⟨Buf.nil w, Nat.le_refl _⟩)
  have HK0 := Lib.hid c0
  clear hf
  go_enter Try.func71, Try.ntmps71
  go_wp2_with (at_builtin; refine wpList_append1 (k := 0) rfl _ _ rfl HB.out _ 7 rfl (by omega) rfl rfl ?_; intro v' wv hB; have HB := Lib.hid hB; clear hB; have c0 := HB.out.1.cell hlt (HK0.out); skip)
  refine (vbuf (k := 0 + 1) HB.out _ m.length rfl (by omega) (by omega)).mono ?_; rintro e wv ⟨v', rfl, hB⟩; have HB := Lib.hid hB; clear hB; have c0 := HB.out.1.cell hlt (HK0.out); skip
  go_wp2_with (at_builtin; refine wpList_appendD (k := 0 + 1 + 8) rfl _ _ rfl HB.out HD.out hm (by omega) rfl rfl ?_; intro v' wv hB; have HB := Lib.hid hB; clear hB; have c0 := HB.out.1.cell hlt (HK0.out); skip)
  refine bodyPost_ret (v := .tuple #[v', .nilIface]) (by simp [results, Try.results71, go_sem]) rfl ?_
  refine ⟨v', rfl, ?_⟩
  have hB := HB.out.1
  exact hB

set_option maxRecDepth 100000 in
set_option maxHeartbeats 1000000 in
theorem len_token (w : World) (p : Nat) (d : Value) (m : List UInt8) (hf : Blk w p #[d] 125) (hd : Rd w d m) (hm : m.length ≤ 400) :
    Calls Try.prog 72 #[.pointer (some ⟨p, 0, none⟩), .int .u32 1] w fun e w' => e = .returned (.int .i64 ((1 + vlen m.length + m.length : Nat) : Int)) ∧ Grow w w' := by
  have hlt := hf.lt
  have c0 : w.cell? ⟨p, 0, none⟩ = some (d) := hf.cellAt 0 _ rfl
  obtain ⟨q, cap, rfl⟩ : ∃ q cap, d = .slice q m.length cap := by obtain ⟨q, cap, e, _⟩ := id hd; exact ⟨q, cap, e⟩
  clear hd
  have la := len_any w m.length (by omega)
  have bla := vlen_le m.length
  have x0 : 0 ≤ (m.length : Int) := by omega
  clear hf
  generalize m.length = mm at *
  have s0 : IntKind.i64.wrap ((vlen mm : Int) + (mm : Int)) = (vlen mm : Int) + (mm : Int) := IntWalk.i64_in _ (by omega)
  have s1 : IntKind.i64.wrap (1 + ((vlen mm : Int) + (mm : Int))) = 1 + ((vlen mm : Int) + (mm : Int)) := IntWalk.i64_in _ (by omega)
  go_enter Try.func72, Try.ntmps72
  go_wp2_with fail
  go_quiet ((go_at_call 47; exact Calls.quiet_of_same (flip_world (len_any _ _ (by omega)))))
  go_wp2_with fail
  go_ret
  exact ⟨ret_int (by omega), drewN_grow _ _⟩

set_option maxRecDepth 100000 in
set_option maxHeartbeats 1000000 in
theorem app_crypto (w : World) (p : Nat) (a : Nat) (d : Value) (m : List UInt8) (hf : Blk w p #[.int .i64 (a : Int), d] 122) (ha : a ≤ 10000000000) (hd : Rd w d m) (hm : m.length ≤ 400) :
    Calls Try.prog 70 #[.pointer (some ⟨p, 0, none⟩), .slice none 0 0, .int .u32 1] w fun e w' => ∃ v', e = .returned (.tuple #[v', .nilIface]) ∧ Buf w w' v' ([6] ++ V a ++ V m.length ++ m) := by
  have hlt := hf.lt
  have c0 : w.cell? ⟨p, 0, none⟩ = some (.int .i64 (a : Int)) := hf.cellAt 0 _ rfl
  have c1 : w.cell? ⟨p, 1, none⟩ = some (d) := hf.cellAt 1 _ rfl
  obtain ⟨q, cap, rfl, hdd⟩ : ∃ q cap, d = .slice q m.length cap ∧ Rd w d m := by obtain ⟨q, cap, e, _⟩ := id hd; exact ⟨q, cap, e, hd⟩
  have HD := Lib.hid hdd
  clear hd hdd
  have HB := Lib.hid (show LBuf w w (.slice none 0 0) [] 0 from ⟨Buf.nil w, Nat.le_refl _⟩)
  have HK0 := Lib.hid c0
  have HK1 := Lib.hid c1
  clear hf
  go_enter Try.func70, Try.ntmps70
  go_wp2_with (at_builtin; refine wpList_append1 (k := 0) rfl _ _ rfl HB.out _ 6 rfl (by omega) rfl rfl ?_; intro v' wv hB; have HB := Lib.hid hB; clear hB; have c0 := HB.out.1.cell hlt (HK0.out); have c1 := HB.out.1.cell hlt (HK1.out); skip)
  refine (vbuf (k := 0 + 1) HB.out _ a rfl (by omega) (by omega)).mono ?_; rintro e wv ⟨v', rfl, hB⟩; have HB := Lib.hid hB; clear hB; have c0 := HB.out.1.cell hlt (HK0.out); have c1 := HB.out.1.cell hlt (HK1.out); skip
  go_wp2_with fail
  refine (vbuf (k := 0 + 1 + 8) HB.out _ m.length rfl (by omega) (by omega)).mono ?_; rintro e wv ⟨v', rfl, hB⟩; have HB := Lib.hid hB; clear hB; have c0 := HB.out.1.cell hlt (HK0.out); have c1 := HB.out.1.cell hlt (HK1.out); skip
  go_wp2_with (at_builtin; refine wpList_appendD (k := 0 + 1 + 8 + 8) rfl _ _ rfl HB.out HD.out hm (by omega) rfl rfl ?_; intro v' wv hB; have HB := Lib.hid hB; clear hB; have c0 := HB.out.1.cell hlt (HK0.out); have c1 := HB.out.1.cell hlt (HK1.out); skip)
  refine bodyPost_ret (v := .tuple #[v', .nilIface]) (by simp [results, Try.results70, go_sem]) rfl ?_
  refine ⟨v', rfl, ?_⟩
  have hB := HB.out.1
  exact hB

set_option maxRecDepth 100000 in
set_option maxHeartbeats 1000000 in
theorem len_crypto (w : World) (p : Nat) (a : Nat) (d : Value) (m : List UInt8) (hf : Blk w p #[.int .i64 (a : Int), d] 122) (ha : a ≤ 10000000000) (hd : Rd w d m) (hm : m.length ≤ 400) :
    Calls Try.prog 45 #[.pointer (some ⟨p, 0, none⟩), .int .u32 1] w fun e w' => e = .returned (.int .i64 ((1 + vlen a + vlen m.length + m.length : Nat) : Int)) ∧ Grow w w' := by
  have hlt := hf.lt
  have c0 : w.cell? ⟨p, 0, none⟩ = some (.int .i64 (a : Int)) := hf.cellAt 0 _ rfl
  have c1 : w.cell? ⟨p, 1, none⟩ = some (d) := hf.cellAt 1 _ rfl
  obtain ⟨q, cap, rfl⟩ : ∃ q cap, d = .slice q m.length cap := by obtain ⟨q, cap, e, _⟩ := id hd; exact ⟨q, cap, e⟩
  clear hd
  have la := len_any w a (by omega)
  have bla := vlen_le a
  have lb := len_any w m.length (by omega)
  have blb := vlen_le m.length
  have x0 : 0 ≤ (a : Int) := by omega
  have x1 : 0 ≤ (m.length : Int) := by omega
  clear hf
  generalize m.length = mm at *
  have s0 : IntKind.i64.wrap (1 + (vlen a : Int)) = 1 + (vlen a : Int) := IntWalk.i64_in _ (by omega)
  have s1 : IntKind.i64.wrap (1 + (vlen a : Int) + (vlen mm : Int)) = 1 + (vlen a : Int) + (vlen mm : Int) := IntWalk.i64_in _ (by omega)
  have s2 : IntKind.i64.wrap (1 + (vlen a : Int) + (vlen mm : Int) + (mm : Int)) = 1 + (vlen a : Int) + (vlen mm : Int) + (mm : Int) := IntWalk.i64_in _ (by omega)
  go_enter Try.func45, Try.ntmps45
  go_wp2_with fail
  go_quiet ((go_at_call 47; exact Calls.quiet_of_same (flip_world (len_any _ _ (by omega)))))
  go_wp2_with fail
  go_ret
  exact ⟨ret_int (by omega), drewN_grow _ _⟩
end Go.Proofs.Ytgdkbflhgcchfaa
