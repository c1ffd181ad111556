/- Words for the reference's ClientHello: rows of zeros, bytes of a string, append of a make. -/
import Derived.Test.YtdhhccpeikhilaaDoorJ1
import Derived.Test.YtdhhccpeikhilaaDoorF3
import Derived.Laws.IdiomStrings
import Derived.Laws.MakeOwn
namespace Go.Proofs.YtdhhccpeikhilaaDoor
open Go.RowKit

abbrev twoB (l : List UInt8) : List UInt8 := hb1 l.length :: hb2 l.length :: l

theorem own_row (w : World) (l : List UInt8) (C : Array Value) (hC : C = (l.map u8).toArray) (hl : l.length ≤ 1000000) : OwnB (w.alloc (.cells C 5)) (.slice (some ⟨w.heap.size, 0, none⟩) l.length l.length) l := by
  subst hC
  refine ⟨by simp, _, _, rfl, Nat.le_refl _, by omega, .inr ⟨w.heap.size, 0, _, rfl, heap_alloc_new w _, by simp, fun j u hj => ?_⟩⟩
  rw [Nat.zero_add]; simpa using hj

theorem hb1_val (n : Nat) (h : n < 65536) : Value.int .u8 ((n : Int) / 256) = u8 (hb1 n) := by
  have : (hb1 n).toNat = n / 256 := by unfold hb1; rw [UInt8.toNat_ofNat']; omega
  show Value.int .u8 ((n : Int) / 256) = Value.int .u8 ((hb1 n).toNat : Int)
  rw [this]; congr 1
theorem hb2_val (n : Nat) : Value.int .u8 ((n : Int) % 256) = u8 (hb2 n) := by
  have : (hb2 n).toNat = n % 256 := by unfold hb2; rw [UInt8.toNat_ofNat']
  show Value.int .u8 ((n : Int) % 256) = Value.int .u8 ((hb2 n).toNat : Int)
  rw [this]; congr 1

set_option maxRecDepth 100000 in
theorem two_any (w : World) (v : Value) (l : List UInt8) (h : Rd w v l) (hl : l.length ≤ 60000) :
    Calls Tryd.prog 22 #[v] w fun e w' => ∃ v', e = .returned v' ∧ OwnB w' v' (twoB l) ∧ Grow w w' ∧ (∀ k, v'.ownBlock = some k → w.heap.size ≤ k ∧ k < w'.heap.size) := by
  obtain ⟨p, c, rfl, h1, h2, h3⟩ := id h
  have hO := own_row w [hb1 l.length, hb2 l.length] #[.int .u8 ((l.length : Int) / 256), .int .u8 ((l.length : Int) % 256)] (by rw [hb1_val _ (by omega), hb2_val]; rfl) (by simp)
  have hG : Grow w (w.alloc (.cells #[.int .u8 ((l.length : Int) / 256), .int .u8 ((l.length : Int) % 256)] 5)) := (Fr.refl _ w).alloc _
  have hr := h.keep hG.bytes
  have HO := Lib.hid hO
  have HR := Lib.hid hr
  have HG := Lib.hid hG
  clear h h3 hO hr hG
  go_enter Tryd.func22, Tryd.ntmps22
  go_wp2_with (at_builtin; refine wpList_appendB2 _ rfl _ _ rfl (.slice (some ⟨w.heap.size, 0, none⟩) 2 2) (.slice p l.length c) [hb1 l.length, hb2 l.length] l HO.out HR.out (by simp; omega) rfl rfl ?_; intro v' w1 ho1 hF1 hfr1)
  go_ret
  refine ⟨_, rfl, ho1, Grow.trans' HG.out hF1 (fun k hk => Nat.le_of_eq (Option.some.inj hk)), fun k hk => ?_⟩
  rcases hfr1 k hk with e | e
  · have e2 : w.heap.size = k := Option.some.inj e
    have := hF1.size
    simp at this
    omega
  · have := e.1
    simp at this
    omega

theorem conv_string (w : World) (s : ByteArray) (host : List UInt8) (hs : s.data.toList = host) (hl : host.length ≤ 1000000) :
    ∃ p c W2, (convert 9 26 (.string s)).run Tryd.prog w = .ok (.slice p host.length c) W2 ∧ Rd W2 (.slice p host.length c) host ∧ Grow w W2 := by
  subst hs
  have hsz : s.size = s.data.toList.length := Array.length_toList.symm
  have hr := run_bytes_of_string (P := Tryd.prog) w 9 26 5 s Tryd.underlying9 Tryd.underlying26 Tryd.underlying5
  rw [hsz] at hr
  refine ⟨_, _, _, hr, ⟨_, _, rfl, grownCap_ge w _ 0 5, grownCap_le_maxLen w _ 0 5 (by unfold maxLen; omega), fun _ => ⟨w.heap.size, 0, rfl, ⟨_, _, heap_alloc_new w.drew _⟩, fun i x hx => ?_⟩⟩, ((Fr.refl _ w).drew).alloc _⟩
  have hn := heap_alloc_new w.drew (.cells (bytesRow s (grownCap w s.data.toList.length 0 5)) 5 ((bytesRow s (grownCap w s.data.toList.length 0 5)).size, (bytesRow s (grownCap w s.data.toList.length 0 5)).size + 1))
  have hlt := (List.getElem?_eq_some_iff.1 hx).1
  have he : (bytesRow s (grownCap w s.data.toList.length 0 5))[0 + i]? = some (u8 x) := by
    unfold bytesRow
    rw [Nat.zero_add, Array.getElem?_append_left (by simpa using hlt)]
    simp only [Array.getElem?_map]
    rw [← Array.getElem?_toList, hx]; rfl
  unfold World.cell?
  rw [show (w.drew.alloc (.cells (bytesRow s (grownCap w s.data.toList.length 0 5)) 5 ((bytesRow s (grownCap w s.data.toList.length 0 5)).size, (bytesRow s (grownCap w s.data.toList.length 0 5)).size + 1))).heap[w.heap.size]? = _ from hn]
  exact he

theorem own_row_n (w : World) (l : List UInt8) (n : Nat) (hn : l.length = n) (C : Array Value) (hC : C = (l.map u8).toArray) (hl : n ≤ 1000000) : OwnB (w.alloc (.cells C 5)) (.slice (some ⟨w.heap.size, 0, none⟩) n n) l := by
  subst hn
  exact own_row w l C hC hl

abbrev zeros (n : Nat) : List UInt8 := List.replicate n 0
theorem made_zero (n : Nat) : madeCells (Value.int .u8 0).cells n = Array.replicate n (u8 0) := by
  apply Array.ext
  · simp [madeCells]
  · intro j h1 h2
    simp [madeCells, Value.cells, Nat.mod_one]
theorem make_zero (n : Nat) (hn : n < 256) (w : World) : (Instr.makeSlice 26 (.int .u8 (n : Int)) (.int .u8 (n : Int))).run Tryd.prog w = .ok (.slice (some ⟨w.heap.size, 0, none⟩) n n) (w.alloc (.cells (Array.replicate n (u8 0)) 5)) := by
  obtain ⟨i, hi, hzz⟩ := Option.map_eq_some_iff.1 info5
  simp only [Prod.mk.injEq] at hzz
  obtain ⟨hz, hs, hb⟩ := hzz
  have hr := run_makeSlice (P := Tryd.prog) (w := w) 26 5 i (.int .u8 0) Tryd.underlying26 hi hz .u8 .u8 n n (by omega) (by omega) (by rw [hs]; simp; omega) (by rw [hb]; omega) (by omega)
  rw [hr, hs, Int.toNat_natCast, Nat.mul_one, made_zero]
theorem own_zeros (w : World) (n : Nat) (hn : n < 256) : OwnB (w.alloc (.cells (Array.replicate n (u8 0)) 5)) (.slice (some ⟨w.heap.size, 0, none⟩) n n) (zeros n) :=
  own_row_n w (zeros n) n (by simp) _ (by simp [zeros]) (by omega)

theorem made (n : Nat) (hn : n < 256) : ∃ (MV : World → Value) (MW : World → World), (∀ w, (Instr.makeSlice 26 (.int .u8 (n : Int)) (.int .u8 (n : Int))).run Tryd.prog w = .ok (MV w) (MW w)) ∧ (∀ w, OwnB (MW w) (MV w) (zeros n) ∧ Grow w (MW w)) ∧ ∀ w k, (MV w).ownBlock = some k → w.heap.size ≤ k :=
  ⟨fun w => .slice (some ⟨w.heap.size, 0, none⟩) n n, fun w => w.alloc (.cells (Array.replicate n (u8 0)) 5), fun w => make_zero n hn w, fun w => ⟨own_zeros w n hn, (Fr.refl _ w).alloc _⟩, fun _ _ hk => Nat.le_of_eq (Option.some.inj hk)⟩
theorem build_two (x y : UInt8) (w : World) : (Instr.buildSlice 26 2 #[(0, u8 x), (1, u8 y)]).run Tryd.prog w = .ok (.slice (some ⟨w.heap.size, 0, none⟩) 2 2) (w.alloc (.cells #[u8 x, u8 y] 5)) := by
  go_simp
theorem built (x y : UInt8) (X Y : Int) (hx : (x.toNat : Int) = X) (hy : (y.toNat : Int) = Y) : ∃ (BV : World → Value) (BW : World → World), (∀ w, (Instr.buildSlice 26 2 #[(0, .int .u8 X), (1, .int .u8 Y)]).run Tryd.prog w = .ok (BV w) (BW w)) ∧ ∀ w, OwnB (BW w) (BV w) [x, y] ∧ Grow w (BW w) :=
  ⟨fun w => .slice (some ⟨w.heap.size, 0, none⟩) 2 2, fun w => w.alloc (.cells #[u8 x, u8 y] 5), fun w => by subst hx hy; exact build_two x y w, fun w => ⟨own_row_n w [x, y] 2 rfl _ rfl (by decide), (Fr.refl _ w).alloc _⟩⟩

/-- One append more onto a slice that is new since w0. -/
theorem app_next {w0 W w8 : World} {v6 v8 : Value} (h : Grow w0 W) (hv : ∀ k, v6.ownBlock = some k → w0.heap.size ≤ k ∧ k < W.heap.size) (hF : Fr (fun k => v6.ownBlock = some k) W w8) (hf : ∀ k, v8.ownBlock = some k → v6.ownBlock = some k ∨ (W.heap.size ≤ k ∧ k < w8.heap.size)) :
    Grow w0 w8 ∧ ∀ k, v8.ownBlock = some k → w0.heap.size ≤ k ∧ k < w8.heap.size := by
  refine ⟨Grow.trans' h hF (fun k hk => (hv k hk).1), fun k hk => ?_⟩
  have := h.size
  have := hF.size
  rcases hf k hk with e | e
  · have := hv k e; omega
  · omega
theorem New.grow {w0 W W' : World} {v : Value} (hv : ∀ k, v.ownBlock = some k → w0.heap.size ≤ k ∧ k < W.heap.size) (hg : Grow W W') : ∀ k, v.ownBlock = some k → w0.heap.size ≤ k ∧ k < W'.heap.size :=
  fun k hk => ⟨(hv k hk).1, Nat.lt_of_lt_of_le (hv k hk).2 hg.size⟩
theorem New.nil (w0 W : World) : ∀ k, (Value.slice none 0 0).ownBlock = some k → w0.heap.size ≤ k ∧ k < W.heap.size := fun _ h => nomatch h
theorem zeros_two (n : Nat) : twoB (zeros n) = hb1 n :: hb2 n :: List.replicate n 0 := by simp [twoB, zeros]

theorem zeroC (n : Nat) : Builtin.zeroCells (Value.int .u8 0).cells n = ((zeros n).map u8).toArray := by
  apply Array.ext
  · simp [Builtin.zeroCells, Value.cells]
  · intro j h1 h2
    simp [Builtin.zeroCells, Value.cells, Nat.mod_one]
set_option maxRecDepth 100000 in
/-- 'append(s, make([]byte, m)...)' where there is no room. -/
theorem appendZ {w : World} {p : Option Addr} {n cap m : Nat} {l : List UInt8} (h : OwnB w (.slice p n cap) l) (hn : l.length = n) (hcap : cap < n + m) (hm : n + m ≤ 100000) (ty : TypeId) :
    ∃ v' w', (Builtin.append_ #[26, 3] ty #[.slice p n cap, .int .i64 (m : Int)]).run Tryd.prog w = .ok v' w' ∧ OwnB w' v' (l ++ zeros m) ∧ Grow w w' ∧ (∀ k, v'.ownBlock = some k → w.heap.size ≤ k ∧ k < w'.heap.size) := by
  obtain ⟨i, hi, hzz⟩ := Option.map_eq_some_iff.1 info5
  simp only [Prod.mk.injEq] at hzz
  obtain ⟨hz, hs, hb⟩ := hzz
  subst hn
  have hold : (Builtin.firstCells i.size l.length (.slice p l.length cap)).run Tryd.prog w.drew = .ok (l.map u8).toArray w.drew := by
    obtain ⟨h1, p', cap', hv, h2, h3, h4⟩ := h
    injection hv with e1 e2 e3
    subst e1 e3
    rw [hs]
    rcases h4 with h4 | ⟨b, off, cur, rfl, h5, h6, h7⟩
    · have h0 : l = [] := List.eq_nil_of_length_eq_zero (by omega)
      subst h0
      cases p with
      | none => exact run_firstCells_none _ _ _ _ _
      | some a => exact run_firstCells_some _ _ _ a _ _ [] (by simp) (fun j v hj => by simp at hj)
    · refine run_firstCells_some _ _ _ _ _ _ (l.map u8) h1 (fun j u hj => ?_)
      have : w.cell? ⟨b, off + j, none⟩ = some u := by simp [World.cell?, h5, h7 j u hj]
      simpa [Addr.add_lit] using this
  have hwm : IntKind.i64.wrap (m : Int) = (m : Int) := IntWalk.i64_in _ (by omega)
  have hfit : Builtin.nextslicecap (l.length + m) cap * i.bytes ≤ 281474976710656 := growslice_fits hcap (by rw [hb]; omega)
  have hrun : (Builtin.append_ #[26, 3] ty #[.slice p l.length cap, .int .i64 (m : Int)]).run Tryd.prog w =
      .ok (.slice (some ⟨w.heap.size, 0, none⟩) (l.length + m) (grownCap w (l.length + m) cap 5))
        (w.drew.alloc (.cells (((l.map u8) ++ ((zeros m).map u8)).toArray ++ Builtin.zeroCells (Value.int .u8 0).cells (grownCap w (l.length + m) cap 5 - (l.length + m))) 5)) := by
    have hnn : ¬ (l.length + m ≤ cap) := by omega
    have h63' : ¬ (9223372036854775807 < ((l.length : Int) + (m : Int))) := by omega
    have h48' : ¬ (281474976710656 < Builtin.nextslicecap (l.length + m) cap * i.bytes) := by omega
    have hl0 : ¬ ((m : Int) < 0) := by omega
    have hb48 : ¬ ((281474976710656 : Int) < (m : Int)) := by omega
    have hm0 : ¬ (m = 0) := by
      obtain ⟨_, p', cap', hv, h2, _⟩ := h
      injection hv with e1 e2 e3
      omega
    have hz2 := zeroC m
    have h48'' : ¬ (281474976710656 < Builtin.nextslicecap (l.length + m) cap) := by rw [hb] at hfit; omega
    rw [hs] at hold
    simp [Builtin.append_, run_underlying Tryd.underlying26, run_underlying Tryd.underlying3, sizeOf, typeInfo, zeroValue, hi, hz, hs, hb, asInt, asIntOf, hwm, hl0, hb48, hnn, h63', hm0, h48'', Question.forced, hold, newRow, grownCap]
    rw [hz2]
    congr 2
    apply Array.ext'
    simp [List.append_assoc]
  have hlen : (l.map u8 ++ (zeros m).map u8).length = l.length + m := by simp
  refine ⟨_, _, hrun, ⟨by simp, some ⟨w.heap.size, 0, none⟩, grownCap w (l.length + m) cap 5, (by rw [List.length_append, List.length_replicate]), ?_, ?_, .inr ⟨w.heap.size, 0, _, rfl, heap_alloc_new w.drew _, ?_, fun j u hj => ?_⟩⟩, ((Fr.refl _ w).drew).alloc _, fun k hk => ?_⟩
  · rw [List.length_append, List.length_replicate]; exact grownCap_ge _ _ _ _
  · exact grownCap_le_maxLen w (l.length + m) cap 5 (by unfold maxLen; omega)
  · have := grownCap_ge w (l.length + m) cap 5
    simp only [Array.size_append, List.size_toArray, size_zeroCells, hlen, Value.cells]
    simp
    omega
  · have hj2 : ((l.map u8 ++ (zeros m).map u8))[j]? = some u := by rw [← List.map_append]; exact hj
    have hlt := (List.getElem?_eq_some_iff.1 hj2).1
    rw [Nat.zero_add, Array.getElem?_append_left (by simpa using hlt)]
    simpa using hj2
  · have : w.heap.size = k := Option.some.inj hk
    subst this
    simp

theorem wpList_appendZ (w : World) {ops : Array Oper} {rest : List Oper} {o : Oper} {a : Act} {Q : Exit → Act → World → Prop} (hgd : o.guard = none) (s x : Operand)
    (ho : o.op = .call { callee := .builtin .append, args := #[s, x], argTypes := #[26, 3] }) (p : Option Addr) (n cap m : Nat) (l : List UInt8) (hown : OwnB w (.slice p n cap) l) (hn : l.length = n) (hcap : cap < n + m) (hm : n + m ≤ 100000)
    (hs : a.eval s = .slice p n cap) (hx : a.eval x = .int .i64 (m : Int))
    (h : ∀ v' w', OwnB w' v' (l ++ zeros m) → Grow w w' → (∀ k, v'.ownBlock = some k → w.heap.size ≤ k ∧ k < w'.heap.size) → wpList Tryd.prog ops Q rest (a.put o.dst v') w') : wpList Tryd.prog ops Q (o :: rest) a w := by
  refine wpList_plain hgd fun K hK => ?_
  obtain ⟨v', w', hrun, h1, h2, h3⟩ := appendZ hown hn hcap hm o.type
  unfold Oper.wp
  simp [execOp, ho, resolve, invoke, builtin, hs, hx, hrun, Result.andThen]
  exact hK _ _ (h v' w' h1 h2 h3)

theorem exts_built (host : List UInt8) (a c : Nat) : aheadExt a ++ [0, 0] ++ twoB (twoB ([0] ++ twoB host)) ++ [0, 51] ++ twoB (zeros c) = exts host a c := by
  have e1 : twoB (zeros c) = hb1 c :: hb2 c :: List.replicate c 0 := zeros_two c
  have e2 : ([0] ++ twoB host).length = host.length + 3 := by simp
  have e3 : (twoB ([0] ++ twoB host)).length = host.length + 5 := by simp
  have e4 : twoB (twoB ([0] ++ twoB host)) = hb1 (host.length + 5) :: hb2 (host.length + 5) :: hb1 (host.length + 3) :: hb2 (host.length + 3) :: 0 :: hb1 host.length :: hb2 host.length :: host := by
    show hb1 (twoB ([0] ++ twoB host)).length :: hb2 (twoB ([0] ++ twoB host)).length :: hb1 ([0] ++ twoB host).length :: hb2 ([0] ++ twoB host).length :: ([0] ++ twoB host) = _
    rw [e2, e3]; rfl
  rw [e1, e4]
  unfold exts hostExt behindExt
  simp only [List.append_assoc, List.cons_append, List.nil_append]
theorem hello_built (host : List UInt8) (a c : Nat) (X : List UInt8) (L : Nat) (hX : X = exts host a c) (hL : X.length = L) : [1, 0, hb1 (L + 43), hb2 (L + 43)] ++ (([3, 3] ++ zeros 32 ++ [(0 : UInt8), 0, 2, 19, 1, 1, 0]) ++ twoB X) = hello host a c := by
  have hE : L = extsLen host.length a c := by rw [← hL, hX, exts_length]
  unfold hello
  rw [← hE, ← hX]
  show _ = _
  unfold pre47 twoB
  rw [hL]
  rfl
end Go.Proofs.YtdhhccpeikhilaaDoor
