/- Lengths of numbers, rooms, the reference's numbers. -/
import Derived.Test.YtgdkbflhgcchfaaA2
namespace Go.Proofs.Ytgdkbflhgcchfaa
open Go.RowKit

theorem len_any (w : World) (n : Nat) (h : n ≤ 4611686018427387903) :
    Calls Try.prog 47 #[.int .u64 (n : Int)] w fun e w' => e = .returned (.int .i64 (vlen n : Int)) ∧ w = w' := by
  go_enter Try.func47, Try.ntmps47
  go_wp2
  all_goals (go_ret; refine ⟨ret_int ?_, rfl⟩; unfold vlen; repeat (first | rw [if_pos (by omega)] | rw [if_neg (by omega)]))
  all_goals rfl
theorem len_int (w : World) (z : Int) (n : Nat) (hz : z = (n : Int)) (h : n ≤ 4611686018427387903) :
    Calls Try.prog 47 #[.int .u64 z] w fun e w' => e = .returned (.int .i64 (vlen n : Int)) ∧ w = w' := by
  subst hz; exact len_any w n h
theorem vlen_lo {n : Nat} (h : n < 64) : vlen n = 1 := if_pos (by omega)
theorem vlen_mid {n : Nat} (h : 64 ≤ n) (h2 : n < 16384) : vlen n = 2 := by unfold vlen; rw [if_neg (by omega), if_pos (by omega)]
theorem vlen_hi {n : Nat} (h : 16384 ≤ n) (h2 : n < 1073741824) : vlen n = 4 := by unfold vlen; rw [if_neg (by omega), if_neg (by omega), if_pos (by omega)]
theorem vlen_top {n : Nat} (h : 1073741824 ≤ n) : vlen n = 8 := by unfold vlen; rw [if_neg (by omega), if_neg (by omega), if_neg (by omega)]
set_option maxRecDepth 100000 in
theorem long_any (w : World) (n : Nat) :
    Calls Try.prog 21 #[.int .u64 (n : Int)] w fun e w' => e = .returned (.int .i64 (vlen n : Int)) ∧ w = w' := by
  rcases Nat.lt_or_ge n 64 with c | c
  · rw [vlen_lo c]
    have d1 : decide ((n : Int) < 64) = true := decide_eq_true (by omega)
    clear c
    go_enter Try.func21, Try.ntmps21
    go_wp2_with fail
    go_ret
    exact ⟨rfl, rfl⟩
  · rcases Nat.lt_or_ge n 16384 with c2 | c2
    · rw [vlen_mid c c2]
      have d1 : decide ((n : Int) < 64) = false := decide_eq_false (by omega)
      have d2 : decide ((n : Int) < 16384) = true := decide_eq_true (by omega)
      clear c c2
      go_enter Try.func21, Try.ntmps21
      go_wp2_with fail
      go_ret
      exact ⟨rfl, rfl⟩
    · rcases Nat.lt_or_ge n 1073741824 with c3 | c3
      · rw [vlen_hi c2 c3]
        have d1 : decide ((n : Int) < 64) = false := decide_eq_false (by omega)
        have d2 : decide ((n : Int) < 16384) = false := decide_eq_false (by omega)
        have d3 : decide ((n : Int) < 1073741824) = true := decide_eq_true (by omega)
        clear c c2 c3
        go_enter Try.func21, Try.ntmps21
        go_wp2_with fail
        go_ret
        exact ⟨rfl, rfl⟩
      · rw [vlen_top c3]
        have d1 : decide ((n : Int) < 64) = false := decide_eq_false (by omega)
        have d2 : decide ((n : Int) < 16384) = false := decide_eq_false (by omega)
        have d3 : decide ((n : Int) < 1073741824) = false := decide_eq_false (by omega)
        clear c c2 c3
        go_enter Try.func21, Try.ntmps21
        go_wp2_with fail
        go_ret
        exact ⟨rfl, rfl⟩
theorem long_int (w : World) (z : Int) (n : Nat) (hz : z = (n : Int)) :
    Calls Try.prog 21 #[.int .u64 z] w fun e w' => e = .returned (.int .i64 (vlen n : Int)) ∧ w = w' := by
  subst hz; exact long_any w n

/-- How many bytes of data a CRYPTO frame at offset o has room for, in m bytes. -/
def room (o m : Nat) : Nat := if m < 2 + vlen o then 0 else if m - (2 + vlen o) ≤ 63 then m - (2 + vlen o) else m - (2 + vlen o) - 1

set_option maxRecDepth 100000 in
set_option maxHeartbeats 1000000 in
theorem maxDataLen_any (w : World) (bf o m : Nat) (d : Value) (hf : Blk w bf #[.int .i64 (o : Int), d] 122) (ho : o ≤ 1000000000000) (hm : m ≤ 1000000) :
    Calls Try.prog 46 #[.pointer (some ⟨bf, 0, none⟩), .int .i64 (m : Int)] w fun e w' => e = .returned (.int .i64 (room o m : Int)) ∧ w = w' := by
  have f0 : w.cell? ⟨bf, 0, none⟩ = some (.int .i64 (o : Int)) := hf.cellAt 0 _ rfl
  have hlt := hf.lt
  have hl1 := len_any w o (by omega)
  have hv := vlen_le o
  by_cases hc : m < 2 + vlen o
  · have hr : room o m = 0 := by unfold room; rw [if_pos hc]
    rw [hr]
    clear hr
    generalize vlen o = vo at *
    go_enter Try.func46, Try.ntmps46
    go_wp2_with (go_at_call 47; refine hl1.mono ?_; rintro e w' ⟨rfl, rfl⟩)
    go_ret
    exact ⟨rfl, rfl⟩
  · have hr : room o m = if m - (2 + vlen o) ≤ 63 then m - (2 + vlen o) else m - (2 + vlen o) - 1 := by unfold room; rw [if_neg hc]
    rw [hr]
    have hxm : m - (2 + vlen o) ≤ 1000000 := by omega
    have hv2 : (m - (2 + vlen o) ≤ 63 ∧ vlen (m - (2 + vlen o)) = 1) ∨ (¬ (m - (2 + vlen o) ≤ 63) ∧ (vlen (m - (2 + vlen o)) = 2 ∨ vlen (m - (2 + vlen o)) = 4)) := by
      clear hr
      generalize m - (2 + vlen o) = x at hxm
      unfold vlen; repeat' split
      all_goals omega
    clear hr
    generalize hvo : vlen o = vo at *
    clear hvo
    obtain ⟨x, hx⟩ : ∃ x, m = 2 + vo + x := ⟨m - (2 + vo), by omega⟩
    subst hx
    rw [Nat.add_sub_cancel_left] at *
    rcases hv2 with ⟨h1, h2⟩ | ⟨h1, h2⟩
    · rw [if_pos h1]
      go_enter Try.func46, Try.ntmps46
      go_wp2_with fail
      refine hl1.mono ?_
      rintro e w' ⟨rfl, rfl⟩
      go_wp2_with fail
      refine (len_int w _ x (by omega) (by omega)).mono ?_
      rw [h2]
      rintro e w' ⟨rfl, rfl⟩
      go_wp2_with fail
      go_ret
      exact ⟨ret_int (by omega), rfl⟩
    · rw [if_neg h1]
      have h3 : ((vlen x : Nat) : Int) ≠ 1 := by omega
      go_enter Try.func46, Try.ntmps46
      go_wp2_with fail
      refine hl1.mono ?_
      rintro e w' ⟨rfl, rfl⟩
      go_wp2_with fail
      refine (len_int w _ x (by omega) (by omega)).mono ?_
      rintro e w' ⟨rfl, rfl⟩
      go_wp2_with fail
      go_ret
      exact ⟨ret_int (by omega), rfl⟩

set_option maxRecDepth 100000 in
set_option maxHeartbeats 1000000 in
theorem room_any (w : World) (o m : Nat) (ho : o ≤ 1000000000000) (hm : m ≤ 1000000) :
    Calls Try.prog 30 #[.int .i64 (o : Int), .int .i64 (m : Int)] w fun e w' => e = .returned (.int .i64 (room o m : Int)) ∧ w = w' := by
  have hl1 := long_any w o
  have hv := vlen_le o
  by_cases hc : m < 2 + vlen o
  · have hr : room o m = 0 := by unfold room; rw [if_pos hc]
    rw [hr]
    clear hr
    generalize vlen o = vo at *
    go_enter Try.func30, Try.ntmps30
    go_wp2_with (go_at_call 21; refine hl1.mono ?_; rintro e w' ⟨rfl, rfl⟩)
    go_ret
    exact ⟨rfl, rfl⟩
  · have hr : room o m = if m - (2 + vlen o) ≤ 63 then m - (2 + vlen o) else m - (2 + vlen o) - 1 := by unfold room; rw [if_neg hc]
    rw [hr]
    have hv2 : (m - (2 + vlen o) ≤ 63 ∧ vlen (m - (2 + vlen o)) = 1) ∨ (¬ (m - (2 + vlen o) ≤ 63) ∧ (vlen (m - (2 + vlen o)) = 2 ∨ vlen (m - (2 + vlen o)) = 4)) := by
      have hxm : m - (2 + vlen o) ≤ 1000000 := by omega
      clear hr
      generalize m - (2 + vlen o) = x at hxm
      unfold vlen; repeat' split
      all_goals omega
    clear hr
    generalize hvo : vlen o = vo at *
    clear hvo
    obtain ⟨x, hx⟩ : ∃ x, m = 2 + vo + x := ⟨m - (2 + vo), by omega⟩
    subst hx
    rw [Nat.add_sub_cancel_left] at *
    rcases hv2 with ⟨h1, h2⟩ | ⟨h1, h2⟩
    · rw [if_pos h1]
      go_enter Try.func30, Try.ntmps30
      go_wp2_with fail
      refine hl1.mono ?_
      rintro e w' ⟨rfl, rfl⟩
      go_wp2_with fail
      refine (long_int w _ x (by omega)).mono ?_
      rw [h2]
      rintro e w' ⟨rfl, rfl⟩
      go_wp2_with fail
      go_ret
      exact ⟨ret_int (by omega), rfl⟩
    · rw [if_neg h1]
      have h3 : ((vlen x : Nat) : Int) ≠ 1 := by omega
      go_enter Try.func30, Try.ntmps30
      go_wp2_with fail
      refine hl1.mono ?_
      rintro e w' ⟨rfl, rfl⟩
      go_wp2_with fail
      refine (long_int w _ x (by omega)).mono ?_
      rintro e w' ⟨rfl, rfl⟩
      go_wp2_with fail
      go_ret
      exact ⟨ret_int (by omega), rfl⟩

/-- The last i bytes of a number. -/
def T (n : Nat) : Nat → List UInt8
  | 0 => []
  | i + 1 => b8 (n / 2 ^ (8 * i)) :: T n i
theorem T_length (n : Nat) : ∀ i, (T n i).length = i
  | 0 => rfl
  | i + 1 => by simp [T, T_length n i]
/-- A block of bytes. -/
abbrev BRow (w : World) (b : Nat) (l : List UInt8) : Prop := Blk w b (l.map u8).toArray 5
theorem BRow.set {w : World} {b : Nat} {l : List UInt8} (h : BRow w b l) (i : Nat) (c : UInt8) : BRow (w.setCell ⟨b, i, none⟩ (u8 c)) b (l.set i c) := by
  have := Blk.set h i (u8 c)
  have e : (l.map u8).toArray.setIfInBounds i (u8 c) = ((l.set i c).map u8).toArray := by
    rw [List.setIfInBounds_toArray, List.map_set]
  rw [e] at this
  exact this
theorem BRow.at {w : World} {b : Nat} {l : List UInt8} (h : BRow w b l) {i : Nat} {c : UInt8} (hc : l[i]? = some c) : w.cell? ⟨b, i, none⟩ = some (.int .u8 (c.toNat : Int)) := by
  refine Blk.cellAt h _ _ ?_
  rw [← Array.getElem?_toList]
  simp [hc]
theorem BRow.own {w : World} {b k : Nat} {l : List UInt8} (h : BRow w b l) (hk : l.length = k) (hk2 : k ≤ 1000000) : OwnB w (.slice (some ⟨b, 0, none⟩) k k) l := by
  subst hk
  refine ⟨by simp, _, _, rfl, Nat.le_refl _, by omega, .inr ⟨b, 0, _, rfl, h, by simp, fun j u hj => ?_⟩⟩
  rw [Nat.zero_add, ← Array.getElem?_toList]
  exact hj
theorem T_set (n k i : Nat) (hi : i < k) : (zeros (k - i) ++ T n i).set (k - 1 - i) (b8 (n / 2 ^ (8 * i))) = zeros (k - (i + 1)) ++ T n (i + 1) := by
  have e : zeros (k - i) = zeros (k - (i + 1)) ++ [0] := by
    unfold zeros; rw [← List.replicate_succ', show k - (i + 1) + 1 = k - i from by omega]
  rw [e, List.append_assoc, List.set_append_right _ _ (by simp; omega)]
  have : k - 1 - i - (zeros (k - (i + 1))).length = 0 := by simp [zeros]; omega
  rw [this]; rfl
theorem b8_of_mod (n : Nat) : Value.int .u8 ((n : Int) % 256) = u8 (b8 n) := (b8_mod n).symm
theorem V_T (n : Nat) (k : Nat) (hk : k = vlen n) : (k = 1 ∧ V n = T n 1) ∨ (k = 2 ∧ n ≤ 16383 ∧ V n = b8 (n / 256 + 64) :: T n 1) ∨ (k = 4 ∧ n ≤ 1073741823 ∧ V n = b8 (n / 16777216 + 128) :: T n 3) ∨ (k = 8 ∧ V n = b8 (n / 72057594037927936 + 192) :: T n 7) := by
  subst hk
  unfold V vlen
  split
  · exact .inl ⟨rfl, by simp [T]⟩
  · split
    · exact .inr (.inl ⟨rfl, by omega, by simp [T]⟩)
    · split
      · exact .inr (.inr (.inl ⟨rfl, by omega, by simp [T]⟩))
      · exact .inr (.inr (.inr ⟨rfl, by simp [T]⟩))
theorem byte_small {n : Nat} (h : n < 256) : ((b8 n).toNat : Int) = (n : Int) := by
  unfold b8; rw [UInt8.toNat_ofNat']; omega

set_option maxRecDepth 100000 in
set_option maxHeartbeats 1000000 in
/-- RQNumber. -/
theorem number_any (w : World) (n : Nat) (hn : n ≤ 4611686018427387903) :
    Calls Try.prog 16 #[.int .u64 (n : Int)] w fun e w' => Grow w w' ∧ ∃ b, e = .returned (.slice (some ⟨b, 0, none⟩) (vlen n) (vlen n)) ∧ BRow w' b (V n) ∧ w.heap.size ≤ b := by
  have hL := Lib.hid (long_any w n)
  have hVT := Lib.hid (V_T n)
  have hv0 := vlen_le n
  have hmk := run_make_row' (P := Try.prog) 31 5 (.int .u8 0) 1 Try.underlying31 info5 rfl .i64 .i64 (vlen n) (by omega) (by omega) w
  obtain ⟨k, hk⟩ : ∃ k, k = vlen n := ⟨_, rfl⟩
  rw [← hk] at hv0 hmk ⊢
  have hV2 := Lib.hid (hVT.out k hk)
  have hL2 : Hid (Calls Try.prog 21 #[.int .u64 (n : Int)] w fun e w' => e = .returned (.int .i64 (k : Int)) ∧ w = w') := Lib.hid (by rw [hk]; exact hL.out)
  clear hL hk hVT
  go_enter Try.func16, Try.ntmps16
  go_upto_region 3 with (go_at_call 21; refine hL2.out.mono ?_; rintro e w' ⟨rfl, rfl⟩)
  clear hmk
  have hR0 : BRow (w.alloc (.cells (madeCells #[.int .u8 0] k) 5)) w.heap.size (zeros (k - 0) ++ T n 0) := by
    have := Blk.new w (madeCells #[.int .u8 0] k) 5
    have e : madeCells #[.int .u8 0] k = ((zeros (k - 0) ++ T n 0).map u8).toArray := by
      apply Array.ext'
      rw [toList_madeCells_one]
      simp [u8, T]
    rw [e] at this ⊢
    exact this
  have hG0 : Grow w (w.alloc (.cells (madeCells #[.int .u8 0] k) 5)) := (Fr.refl _ _).alloc _
  generalize w.alloc (.cells (madeCells #[.int .u8 0] k) 5) = w1 at *
  go_wp2_with fail
  go_loopg [12] k (fun m s12 wr => ∃ i : Nat, m + i = k ∧ s12 = .int .i64 (i : Int) ∧ Hid (Grow w wr ∧ BRow wr w.heap.size (zeros (k - i) ++ T n i)))
  case atStart => exact ⟨0, by simp, rfl, Lib.hid ⟨hG0, hR0⟩⟩
  case round =>
    obtain ⟨i, hm, rfl, HI⟩ := hrel
    have hB := HI.out.2
    have hlt := hB.lt
    have hfr := hB.free
    by_cases hend : i = k
    · subst hend
      have hne : ¬ (i < i) := by omega
      rw [Nat.sub_self] at hB
      have hB2 : BRow wr w.heap.size (T n i) := by simpa [zeros] using hB
      rcases hV2.out with ⟨rfl, hV⟩ | ⟨rfl, hn2, hV⟩ | ⟨rfl, hn2, hV⟩ | ⟨rfl, hV⟩
      · clear hB
        have HB := Lib.hid hB2
        clear hB2
        go_wp2_with fail
        go_ret
        exact ⟨HI.out.1, _, rfl, HB.out, Nat.le_refl _⟩
      · have q0 : wr.cell? ⟨w.heap.size, 0, none⟩ = some (.int .u8 ((n : Int) / 256)) := by
          have := hB2.at (i := 0) (c := b8 (n / 256)) rfl
          rw [this, byte_small (by omega)]; rfl
        clear hB
        have HB := Lib.hid hB2
        clear hB2
        go_wp2_with fail
        go_ret
        refine ⟨HI.out.1.setCell _ _ (.inr (Nat.le_refl _)), _, rfl, ?_, Nat.le_refl _⟩
        rw [← b8_or64 n hn2]
        exact HB.out.set 0 _
      · have q0 : wr.cell? ⟨w.heap.size, 0, none⟩ = some (.int .u8 ((n : Int) / 16777216)) := by
          have := hB2.at (i := 0) (c := b8 (n / 16777216)) rfl
          rw [this, byte_small (by omega)]; rfl
        clear hB
        have HB := Lib.hid hB2
        clear hB2
        go_wp2_with fail
        go_ret
        refine ⟨HI.out.1.setCell _ _ (.inr (Nat.le_refl _)), _, rfl, ?_, Nat.le_refl _⟩
        rw [← b8_or128 n hn2]
        exact HB.out.set 0 _
      · have q0 : wr.cell? ⟨w.heap.size, 0, none⟩ = some (.int .u8 ((n : Int) / 72057594037927936)) := by
          have := hB2.at (i := 0) (c := b8 (n / 72057594037927936)) rfl
          rw [this, byte_small (by omega)]; rfl
        clear hB
        have HB := Lib.hid hB2
        clear hB2
        go_wp2_with fail
        go_ret
        refine ⟨HI.out.1.setCell _ _ (.inr (Nat.le_refl _)), _, rfl, ?_, Nat.le_refl _⟩
        rw [← b8_or192 n hn]
        exact HB.out.set 0 _
    · have hik : i < k := by omega
      have hfree : wr.frozen? ⟨w.heap.size, k - 1 - i, none⟩ = false := hfr _
      have q0 : ∃ c0, wr.cell? ⟨w.heap.size, k - 1 - i, none⟩ = some (.int .u8 c0) := by
        have hlen : (zeros (k - i) ++ T n i).length = k := by simp [T_length]; omega
        exact ⟨_, hB.at (List.getElem?_eq_getElem (by rw [hlen]; omega))⟩
      obtain ⟨c0, q0⟩ := q0
      clear hB hend
      go_wp2_with fail
      go_roundg (gk - 1)
      case measure => omega
      case rel =>
        refine ⟨i + 1, by omega, by go_num, Lib.hid ⟨HI.out.1.setCell _ _ (.inr (Nat.le_refl _)), ?_⟩⟩
        have := HI.out.2.set (k - 1 - i) (b8 (n / 2 ^ (8 * i)))
        rw [T_set n k i hik, ← b8_of_mod] at this
        rw [Int.natCast_ediv, Int.natCast_pow] at this
        exact this
end Go.Proofs.Ytgdkbflhgcchfaa
