/- Numbers of variable length: quicvarint.Append, quicvarint.Len, and the reference's. -/
import Derived.Test.YtgdkbflhgcchfaaA1
import Derived.Laws.BitsAllLaws
namespace Go.Proofs.Ytgdkbflhgcchfaa
open Go.RowKit

theorem size_alloc (w : World) (o : Obj) : (w.alloc o).heap.size = w.heap.size + 1 := by simp
def b8 (n : Nat) : UInt8 := UInt8.ofNat n
theorem b8_val (n : Nat) (h : n < 256) : u8 (b8 n) = .int .u8 (n : Int) := by
  have : (b8 n).toNat = n := by unfold b8; rw [UInt8.toNat_ofNat']; omega
  unfold u8; rw [this]
theorem b8_mod (n : Nat) : u8 (b8 n) = .int .u8 ((n : Int) % 256) := by
  have : (b8 n).toNat = n % 256 := by unfold b8; rw [UInt8.toNat_ofNat']
  unfold u8; rw [this]; congr 1
/-- How many bytes a number has. -/
def vlen (n : Nat) : Nat := if n ≤ 63 then 1 else if n ≤ 16383 then 2 else if n ≤ 1073741823 then 4 else 8
/-- A number of variable length. -/
def V (n : Nat) : List UInt8 :=
  if n ≤ 63 then [b8 n] else if n ≤ 16383 then [b8 (n / 256 + 64), b8 n] else if n ≤ 1073741823 then [b8 (n / 16777216 + 128), b8 (n / 65536), b8 (n / 256), b8 n]
  else [b8 (n / 72057594037927936 + 192), b8 (n / 281474976710656), b8 (n / 1099511627776), b8 (n / 4294967296), b8 (n / 16777216), b8 (n / 65536), b8 (n / 256), b8 n]
theorem V_length (n : Nat) : (V n).length = vlen n := by
  unfold V vlen; split
  · rfl
  · split
    · rfl
    · split <;> rfl
theorem vlen_le (n : Nat) : 1 ≤ vlen n ∧ vlen n ≤ 8 := by
  unfold vlen; split
  · omega
  · split
    · omega
    · split <;> omega
theorem or64 : ∀ x : Nat, x < 64 → x ||| 64 = x + 64 := by decide
theorem or128 : ∀ x : Nat, x < 64 → x ||| 128 = x + 128 := by decide
theorem or192 : ∀ x : Nat, x < 64 → x ||| 192 = x + 192 := by decide
theorem u8_or64 (x : Nat) (h : x < 64) : bits .or .u8 (x : Int) 64 = ((x + 64 : Nat) : Int) := by
  have := u8_or_nat x 64 (by omega) (by omega); rw [or64 x h] at this; exact this
theorem u8_or128 (x : Nat) (h : x < 64) : bits .or .u8 (x : Int) 128 = ((x + 128 : Nat) : Int) := by
  have := u8_or_nat x 128 (by omega) (by omega); rw [or128 x h] at this; exact this
theorem u8_or192 (x : Nat) (h : x < 64) : bits .or .u8 (x : Int) 192 = ((x + 192 : Nat) : Int) := by
  have := u8_or_nat x 192 (by omega) (by omega); rw [or192 x h] at this; exact this

theorem b8_or64 (n : Nat) (h : n ≤ 16383) : u8 (b8 (n / 256 + 64)) = .int .u8 (bits .or .u8 ((n : Int) / 256) 64) := by
  rw [b8_val _ (by omega)]; have := u8_or64 (n / 256) (by omega); rw [Int.natCast_ediv] at this; rw [← this]; rfl
theorem b8_or128 (n : Nat) (h : n ≤ 1073741823) : u8 (b8 (n / 16777216 + 128)) = .int .u8 (bits .or .u8 ((n : Int) / 16777216) 128) := by
  rw [b8_val _ (by omega)]; have := u8_or128 (n / 16777216) (by omega); rw [Int.natCast_ediv] at this; rw [← this]; rfl
theorem b8_or192 (n : Nat) (h : n ≤ 4611686018427387903) : u8 (b8 (n / 72057594037927936 + 192)) = .int .u8 (bits .or .u8 ((n : Int) / 72057594037927936) 192) := by
  rw [b8_val _ (by omega)]; have := u8_or192 (n / 72057594037927936) (by omega); rw [Int.natCast_ediv] at this; rw [← this]; rfl
set_option maxRecDepth 100000 in
theorem vappend1 (w : World) (v : Value) (l : List UInt8) (n : Nat) (ho : OwnB w v l) (hv : ∀ k, v.ownBlock = some k → k < w.heap.size) (hl : l.length ≤ 100000) (hn : n ≤ 63) :
    Calls Try.prog 67 #[v, .int .u64 (n : Int)] w fun e w' => ∃ v', e = .returned v' ∧ OwnB w' v' (l ++ [b8 n]) ∧ Fr (fun k => v.ownBlock = some k) w w' ∧ (∀ k, v'.ownBlock = some k → v.ownBlock = some k ∨ (w.heap.size ≤ k ∧ k < w'.heap.size)) := by
  have hn0 : (n : Int) ≤ 63 := by omega
  have hrow := own_row_n w [b8 n] 1 rfl #[.int .u8 (n : Int)] (by simp [b8_val n (by omega)]) (by decide)
  have HR := Lib.hid hrow
  have HO := Lib.hid (ho.keep (w' := w.alloc (.cells #[.int .u8 (n : Int)] 5)) (fun k hk => Below.heap_alloc _ _ _ (hv k hk)))
  clear hrow ho
  go_enter Try.func67, Try.ntmps67
  go_wp2_with (at_builtin; refine wpList_appendB2 _ rfl _ _ rfl v _ l [b8 n] HO.out HR.out.rd (by simp; omega) rfl rfl ?_; intro v' w1 ho1 hF1 hfr1)
  refine bodyPost_ret (v := v') (by simp [results, Try.results67, go_sem]) rfl ?_
  refine ⟨v', rfl, ho1, ((Fr.refl _ _).alloc _).trans hF1, ?_⟩
  intro k hk
  rcases hfr1 k hk with h | ⟨h1, h2⟩
  · exact .inl h
  · exact .inr ⟨by rw [size_alloc] at h1; omega, h2⟩
set_option maxRecDepth 100000 in
theorem vappend2 (w : World) (v : Value) (l : List UInt8) (n : Nat) (ho : OwnB w v l) (hv : ∀ k, v.ownBlock = some k → k < w.heap.size) (hl : l.length ≤ 100000) (hn : 63 < n) (hn2 : n ≤ 16383) :
    Calls Try.prog 67 #[v, .int .u64 (n : Int)] w fun e w' => ∃ v', e = .returned v' ∧ OwnB w' v' (l ++ [b8 (n / 256 + 64), b8 n]) ∧ Fr (fun k => v.ownBlock = some k) w w' ∧ (∀ k, v'.ownBlock = some k → v.ownBlock = some k ∨ (w.heap.size ≤ k ∧ k < w'.heap.size)) := by
  have hn0 : ¬ ((n : Int) ≤ 63) := by omega
  have hn1 : (n : Int) ≤ 16383 := by omega
  have hrow := own_row_n w [b8 (n / 256 + 64), b8 n] 2 rfl #[.int .u8 (bits .or .u8 ((n : Int) / 256) 64), .int .u8 ((n : Int) % 256)] (by simp [b8_mod, b8_or64 n, hn2]) (by decide)
  have HR := Lib.hid hrow
  have HO := Lib.hid (ho.keep (w' := w.alloc (.cells #[.int .u8 (bits .or .u8 ((n : Int) / 256) 64), .int .u8 ((n : Int) % 256)] 5)) (fun k hk => Below.heap_alloc _ _ _ (hv k hk)))
  clear hrow ho
  go_enter Try.func67, Try.ntmps67
  go_wp2_with (at_builtin; refine wpList_appendB2 _ rfl _ _ rfl v _ l [b8 (n / 256 + 64), b8 n] HO.out HR.out.rd (by simp; omega) rfl rfl ?_; intro v' w1 ho1 hF1 hfr1)
  refine bodyPost_ret (v := v') (by simp [results, Try.results67, go_sem]) rfl ?_
  refine ⟨v', rfl, ho1, ((Fr.refl _ _).alloc _).trans hF1, ?_⟩
  intro k hk
  rcases hfr1 k hk with h | ⟨h1, h2⟩
  · exact .inl h
  · exact .inr ⟨by rw [size_alloc] at h1; omega, h2⟩
set_option maxRecDepth 100000 in
theorem vappend4 (w : World) (v : Value) (l : List UInt8) (n : Nat) (ho : OwnB w v l) (hv : ∀ k, v.ownBlock = some k → k < w.heap.size) (hl : l.length ≤ 100000) (hn : 16383 < n) (hn2 : n ≤ 1073741823) :
    Calls Try.prog 67 #[v, .int .u64 (n : Int)] w fun e w' => ∃ v', e = .returned v' ∧ OwnB w' v' (l ++ [b8 (n / 16777216 + 128), b8 (n / 65536), b8 (n / 256), b8 n]) ∧ Fr (fun k => v.ownBlock = some k) w w' ∧ (∀ k, v'.ownBlock = some k → v.ownBlock = some k ∨ (w.heap.size ≤ k ∧ k < w'.heap.size)) := by
  have hn0 : ¬ ((n : Int) ≤ 63) := by omega
  have hn1 : ¬ ((n : Int) ≤ 16383) := by omega
  have hn3 : (n : Int) ≤ 1073741823 := by omega
  have hrow := own_row_n w [b8 (n / 16777216 + 128), b8 (n / 65536), b8 (n / 256), b8 n] 4 rfl #[.int .u8 (bits .or .u8 ((n : Int) / 16777216) 128), .int .u8 ((n : Int) / 65536 % 256), .int .u8 ((n : Int) / 256 % 256), .int .u8 ((n : Int) % 256)] (by simp [b8_mod, b8_or128 n, hn2]) (by decide)
  have HR := Lib.hid hrow
  have HO := Lib.hid (ho.keep (w' := w.alloc (.cells #[.int .u8 (bits .or .u8 ((n : Int) / 16777216) 128), .int .u8 ((n : Int) / 65536 % 256), .int .u8 ((n : Int) / 256 % 256), .int .u8 ((n : Int) % 256)] 5)) (fun k hk => Below.heap_alloc _ _ _ (hv k hk)))
  clear hrow ho
  go_enter Try.func67, Try.ntmps67
  go_wp2_with (at_builtin; refine wpList_appendB2 _ rfl _ _ rfl v _ l [b8 (n / 16777216 + 128), b8 (n / 65536), b8 (n / 256), b8 n] HO.out HR.out.rd (by simp; omega) rfl rfl ?_; intro v' w1 ho1 hF1 hfr1)
  refine bodyPost_ret (v := v') (by simp [results, Try.results67, go_sem]) rfl ?_
  refine ⟨v', rfl, ho1, ((Fr.refl _ _).alloc _).trans hF1, ?_⟩
  intro k hk
  rcases hfr1 k hk with h | ⟨h1, h2⟩
  · exact .inl h
  · exact .inr ⟨by rw [size_alloc] at h1; omega, h2⟩
set_option maxRecDepth 100000 in
theorem vappend8 (w : World) (v : Value) (l : List UInt8) (n : Nat) (ho : OwnB w v l) (hv : ∀ k, v.ownBlock = some k → k < w.heap.size) (hl : l.length ≤ 100000) (hn : 1073741823 < n) (hn2 : n ≤ 4611686018427387903) :
    Calls Try.prog 67 #[v, .int .u64 (n : Int)] w fun e w' => ∃ v', e = .returned v' ∧ OwnB w' v' (l ++ [b8 (n / 72057594037927936 + 192), b8 (n / 281474976710656), b8 (n / 1099511627776), b8 (n / 4294967296), b8 (n / 16777216), b8 (n / 65536), b8 (n / 256), b8 n]) ∧ Fr (fun k => v.ownBlock = some k) w w' ∧ (∀ k, v'.ownBlock = some k → v.ownBlock = some k ∨ (w.heap.size ≤ k ∧ k < w'.heap.size)) := by
  have hn0 : ¬ ((n : Int) ≤ 63) := by omega
  have hn1 : ¬ ((n : Int) ≤ 16383) := by omega
  have hn3 : ¬ ((n : Int) ≤ 1073741823) := by omega
  have hn4 : (n : Int) ≤ 4611686018427387903 := by omega
  have hrow := own_row_n w [b8 (n / 72057594037927936 + 192), b8 (n / 281474976710656), b8 (n / 1099511627776), b8 (n / 4294967296), b8 (n / 16777216), b8 (n / 65536), b8 (n / 256), b8 n] 8 rfl #[.int .u8 (bits .or .u8 ((n : Int) / 72057594037927936) 192), .int .u8 ((n : Int) / 281474976710656 % 256), .int .u8 ((n : Int) / 1099511627776 % 256), .int .u8 ((n : Int) / 4294967296 % 256), .int .u8 ((n : Int) / 16777216 % 256), .int .u8 ((n : Int) / 65536 % 256), .int .u8 ((n : Int) / 256 % 256), .int .u8 ((n : Int) % 256)] (by simp [b8_mod, b8_or192 n, hn2]) (by decide)
  have HR := Lib.hid hrow
  have HO := Lib.hid (ho.keep (w' := w.alloc (.cells #[.int .u8 (bits .or .u8 ((n : Int) / 72057594037927936) 192), .int .u8 ((n : Int) / 281474976710656 % 256), .int .u8 ((n : Int) / 1099511627776 % 256), .int .u8 ((n : Int) / 4294967296 % 256), .int .u8 ((n : Int) / 16777216 % 256), .int .u8 ((n : Int) / 65536 % 256), .int .u8 ((n : Int) / 256 % 256), .int .u8 ((n : Int) % 256)] 5)) (fun k hk => Below.heap_alloc _ _ _ (hv k hk)))
  clear hrow ho
  go_enter Try.func67, Try.ntmps67
  go_wp2_with (at_builtin; refine wpList_appendB2 _ rfl _ _ rfl v _ l [b8 (n / 72057594037927936 + 192), b8 (n / 281474976710656), b8 (n / 1099511627776), b8 (n / 4294967296), b8 (n / 16777216), b8 (n / 65536), b8 (n / 256), b8 n] HO.out HR.out.rd (by simp; omega) rfl rfl ?_; intro v' w1 ho1 hF1 hfr1)
  refine bodyPost_ret (v := v') (by simp [results, Try.results67, go_sem]) rfl ?_
  refine ⟨v', rfl, ho1, ((Fr.refl _ _).alloc _).trans hF1, ?_⟩
  intro k hk
  rcases hfr1 k hk with h | ⟨h1, h2⟩
  · exact .inl h
  · exact .inr ⟨by rw [size_alloc] at h1; omega, h2⟩
theorem vappend (w : World) (v : Value) (l : List UInt8) (n : Nat) (ho : OwnB w v l) (hv : ∀ k, v.ownBlock = some k → k < w.heap.size) (hl : l.length ≤ 100000) (hn : n ≤ 4611686018427387903) :
    Calls Try.prog 67 #[v, .int .u64 (n : Int)] w fun e w' => ∃ v', e = .returned v' ∧ OwnB w' v' (l ++ V n) ∧ Fr (fun k => v.ownBlock = some k) w w' ∧ (∀ k, v'.ownBlock = some k → v.ownBlock = some k ∨ (w.heap.size ≤ k ∧ k < w'.heap.size)) := by
  unfold V
  split
  · exact vappend1 w v l n ho hv hl ‹_›
  · split
    · exact vappend2 w v l n ho hv hl (by omega) ‹_›
    · split
      · exact vappend4 w v l n ho hv hl (by omega) ‹_›
      · exact vappend8 w v l n ho hv hl (by omega) hn
end Go.Proofs.Ytgdkbflhgcchfaa
