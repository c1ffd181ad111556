/- RQOther, by types. -/
import Derived.Test.YtgdkbflhgcchfaaB5
namespace Go.Proofs.Ytgdkbflhgcchfaa
open Go.RowKit

theorem pack_start {w0 W : World} (hG : Grow w0 W) (n : Nat) (hn : n ≤ 4611686018427387903) (z : Int) (hz : z = (n : Int)) :
    Calls Try.prog 16 #[.int .u64 z] W fun e W' => ∃ b, e = .returned (.slice (some ⟨b, 0, none⟩) (vlen n) (vlen n)) ∧ Pack w0 W' (.slice (some ⟨b, 0, none⟩) (vlen n) (vlen n)) (V n) [] := by
  subst hz
  refine (number_any W n hn).mono ?_
  rintro e W' ⟨hG', b, rfl, hB, hb⟩
  refine ⟨b, rfl, hG.trans hG', hB.own (V_length n) (by have := vlen_le n; omega), fun k hk => ?_, fun s hs => nomatch hs⟩
  have : b = k := Option.some.inj hk
  subst this
  exact ⟨Nat.le_trans hG.size hb, hB.lt⟩

set_option maxRecDepth 100000 in
set_option maxHeartbeats 40000000 in
theorem other_reset (w : World) (a b c : Nat) (d : Value) (m : List UInt8) (hd : Rd w d m) (ha : a ≤ 10000000000) (hb : b ≤ 10000000000) (hc : c ≤ 10000000000) (hm : m.length ≤ 400) :
    Calls Try.prog 7 #[.agg #[.int .i64 4, .int .u64 (a : Int), .int .u64 (b : Int), .int .u64 (c : Int), d]] w fun e w' => ∃ v', e = .returned v' ∧ Buf w w' v' (V 4 ++ V a ++ V b ++ V c) := by
  obtain ⟨p, cd, rfl, _⟩ := id hd
  have hG0 : Grow w (w.alloc (.cells #[.int .i64 4, .int .u64 (a : Int), .int .u64 (b : Int), .int .u64 (c : Int), .slice p m.length cd] 33)) := (Fr.refl _ w).alloc _
  have hB0 : Blk (w.alloc (.cells #[.int .i64 4, .int .u64 (a : Int), .int .u64 (b : Int), .int .u64 (c : Int), .slice p m.length cd] 33)) w.heap.size #[.int .i64 4, .int .u64 (a : Int), .int .u64 (b : Int), .int .u64 (c : Int), .slice p m.length cd] 33 := Blk.new w _ _
  have hd0 := hd.keep hG0.bytes
  have hs0 : w.heap.size ≤ (w.alloc (.cells #[.int .i64 4, .int .u64 (a : Int), .int .u64 (b : Int), .int .u64 (c : Int), .slice p m.length cd] 33)).heap.size := hG0.size
  have HF := Lib.hid (fun (W : World) (v : Value) (l : List UInt8) (S : List (Value × List UInt8)) (P : Pack (w.alloc (.cells #[.int .i64 4, .int .u64 (a : Int), .int .u64 (b : Int), .int .u64 (c : Int), .slice p m.length cd] 33)) W v l S) => (show Buf w W v l from ⟨P.own, hG0.trans P.grow, fun k hk => ⟨Nat.le_trans hs0 (P.new k hk).1, (P.new k hk).2⟩⟩))
  go_enter Try.func7, Try.ntmps7
  go_upto_region 1 with fail
  generalize w.alloc (.cells #[.int .i64 4, .int .u64 (a : Int), .int .u64 (b : Int), .int .u64 (c : Int), .slice p m.length cd] 33) = w0 at *
  have x0 : w0.cell? ⟨w.heap.size, 0, none⟩ = some (.int .i64 4) := hB0.cellAt 0 _ rfl
  have hlt := hB0.lt
  have HS : Hid (∀ w', Grow w0 w' → (w'.cell? ⟨w.heap.size, 0, none⟩ = some (.int .i64 4) ∧ w'.cell? ⟨w.heap.size, 1, none⟩ = some (.int .u64 (a : Int)) ∧ w'.cell? ⟨w.heap.size, 2, none⟩ = some (.int .u64 (b : Int)) ∧ w'.cell? ⟨w.heap.size, 3, none⟩ = some (.int .u64 (c : Int)) ∧ w'.cell? ⟨w.heap.size, 4, none⟩ = some (.slice p m.length cd))) := Lib.hid fun w' hG => ⟨(hG.blk hB0 (fun e => e)).cellAt 0 _ rfl, (hG.blk hB0 (fun e => e)).cellAt 1 _ rfl, (hG.blk hB0 (fun e => e)).cellAt 2 _ rfl, (hG.blk hB0 (fun e => e)).cellAt 3 _ rfl, (hG.blk hB0 (fun e => e)).cellAt 4 _ rfl⟩
  have HL : Hid ((V 4).length ≤ 8 ∧ (V a).length ≤ 8 ∧ (V b).length ≤ 8 ∧ (V c).length ≤ 8 ∧ (V m.length).length ≤ 8 ∧ m.length ≤ 400) := Lib.hid ⟨by rw [V_length]; exact (vlen_le _).2, by rw [V_length]; exact (vlen_le _).2, by rw [V_length]; exact (vlen_le _).2, by rw [V_length]; exact (vlen_le _).2, by rw [V_length]; exact (vlen_le _).2, hm⟩
  have HD := Lib.hid hd0
  have hns : w.heap.size < w0.heap.size := hlt
  clear hd hd0 hG0 hB0 hs0
  go_wp2_with fail
  refine (pack_start (Fr.refl _ w0) 4 (by omega) _ rfl).mono ?_
  rintro e W1 ⟨b1, rfl, P1⟩
  have x1 := (HS.out _ P1.grow).1
  have hlt1 := Nat.lt_of_lt_of_le hlt P1.grow.size
  have P := P1.drew
  have HP := Lib.hid P1
  clear P1
  go_upto_region 4 with fail
  clear x0 x1
  go_region_held3 (fun w' => w'.cell? ⟨w.heap.size, 0, none⟩ = some (.int .i64 4) ∧ w'.cell? ⟨w.heap.size, 1, none⟩ = some (.int .u64 (a : Int)) ∧ w'.cell? ⟨w.heap.size, 2, none⟩ = some (.int .u64 (b : Int)) ∧ w'.cell? ⟨w.heap.size, 3, none⟩ = some (.int .u64 (c : Int)) ∧ w'.cell? ⟨w.heap.size, 4, none⟩ = some (.slice p m.length cd))
    (first | exact HS.out _ P.grow | exact HS.out _ HP.out.grow | exact HS.out _ HP.out.drew.grow)
    (first
      | (go_at_call 16; with_reducible refine (pack_num P a (by have := HL.out; omega) _ rfl).mono ?_; rintro e Wn0 ⟨bn0, rfl, P'⟩; clear P; have P := P'; clear P')
      | (go_at_call 16; with_reducible refine (pack_num P b (by have := HL.out; omega) _ rfl).mono ?_; rintro e Wn1 ⟨bn1, rfl, P'⟩; clear P; have P := P'; clear P')
      | (go_at_call 16; with_reducible refine (pack_num P c (by have := HL.out; omega) _ rfl).mono ?_; rintro e Wn2 ⟨bn2, rfl, P'⟩; clear P; have P := P'; clear P')
      | (refine step_pack (v := .slice (some ⟨b1, 0, none⟩) (vlen 4) (vlen 4)) (x := .slice (some ⟨bn0, 0, none⟩) (vlen (a)) (vlen (a))) (m := V (a)) (l := V 4) P (by go_simp) _ _ (by rfl) (by rfl) (by rfl) (by simp) (by have := HL.out; (try simp only [List.length_append]); omega) ?_; intro va0 Wa0 P'; clear P; have P := P'; clear P')
      | (refine step_pack (v := va0) (x := .slice (some ⟨bn1, 0, none⟩) (vlen (b)) (vlen (b))) (m := V (b)) (l := V 4 ++ V (a)) P (by go_simp) _ _ (by rfl) (by rfl) (by rfl) (by simp) (by have := HL.out; (try simp only [List.length_append]); omega) ?_; intro va1 Wa1 P'; clear P; have P := P'; clear P')
      | (refine step_pack (v := va1) (x := .slice (some ⟨bn2, 0, none⟩) (vlen (c)) (vlen (c))) (m := V (c)) (l := V 4 ++ V (a) ++ V (b)) P (by go_simp) _ _ (by rfl) (by rfl) (by rfl) (by simp) (by have := HL.out; (try simp only [List.length_append]); omega) ?_; intro va2 Wa2 P'; clear P; have P := P'; clear P'))
  all_goals (
    have HPf := Lib.hid P
    clear P
    go_wp2_with fail
    go_ret
    exact ⟨_, rfl, HF.out _ _ _ _ HPf.out⟩)

set_option maxRecDepth 100000 in
set_option maxHeartbeats 40000000 in
theorem other_stop (w : World) (a b c : Nat) (d : Value) (m : List UInt8) (hd : Rd w d m) (ha : a ≤ 10000000000) (hb : b ≤ 10000000000) (_ : c ≤ 10000000000) (hm : m.length ≤ 400) :
    Calls Try.prog 7 #[.agg #[.int .i64 5, .int .u64 (a : Int), .int .u64 (b : Int), .int .u64 (c : Int), d]] w fun e w' => ∃ v', e = .returned v' ∧ Buf w w' v' (V 5 ++ V a ++ V b) := by
  obtain ⟨p, cd, rfl, _⟩ := id hd
  have hG0 : Grow w (w.alloc (.cells #[.int .i64 5, .int .u64 (a : Int), .int .u64 (b : Int), .int .u64 (c : Int), .slice p m.length cd] 33)) := (Fr.refl _ w).alloc _
  have hB0 : Blk (w.alloc (.cells #[.int .i64 5, .int .u64 (a : Int), .int .u64 (b : Int), .int .u64 (c : Int), .slice p m.length cd] 33)) w.heap.size #[.int .i64 5, .int .u64 (a : Int), .int .u64 (b : Int), .int .u64 (c : Int), .slice p m.length cd] 33 := Blk.new w _ _
  have hd0 := hd.keep hG0.bytes
  have hs0 : w.heap.size ≤ (w.alloc (.cells #[.int .i64 5, .int .u64 (a : Int), .int .u64 (b : Int), .int .u64 (c : Int), .slice p m.length cd] 33)).heap.size := hG0.size
  have HF := Lib.hid (fun (W : World) (v : Value) (l : List UInt8) (S : List (Value × List UInt8)) (P : Pack (w.alloc (.cells #[.int .i64 5, .int .u64 (a : Int), .int .u64 (b : Int), .int .u64 (c : Int), .slice p m.length cd] 33)) W v l S) => (show Buf w W v l from ⟨P.own, hG0.trans P.grow, fun k hk => ⟨Nat.le_trans hs0 (P.new k hk).1, (P.new k hk).2⟩⟩))
  go_enter Try.func7, Try.ntmps7
  go_upto_region 1 with fail
  generalize w.alloc (.cells #[.int .i64 5, .int .u64 (a : Int), .int .u64 (b : Int), .int .u64 (c : Int), .slice p m.length cd] 33) = w0 at *
  have x0 : w0.cell? ⟨w.heap.size, 0, none⟩ = some (.int .i64 5) := hB0.cellAt 0 _ rfl
  have hlt := hB0.lt
  have HS : Hid (∀ w', Grow w0 w' → (w'.cell? ⟨w.heap.size, 0, none⟩ = some (.int .i64 5) ∧ w'.cell? ⟨w.heap.size, 1, none⟩ = some (.int .u64 (a : Int)) ∧ w'.cell? ⟨w.heap.size, 2, none⟩ = some (.int .u64 (b : Int)) ∧ w'.cell? ⟨w.heap.size, 3, none⟩ = some (.int .u64 (c : Int)) ∧ w'.cell? ⟨w.heap.size, 4, none⟩ = some (.slice p m.length cd))) := Lib.hid fun w' hG => ⟨(hG.blk hB0 (fun e => e)).cellAt 0 _ rfl, (hG.blk hB0 (fun e => e)).cellAt 1 _ rfl, (hG.blk hB0 (fun e => e)).cellAt 2 _ rfl, (hG.blk hB0 (fun e => e)).cellAt 3 _ rfl, (hG.blk hB0 (fun e => e)).cellAt 4 _ rfl⟩
  have HL : Hid ((V 5).length ≤ 8 ∧ (V a).length ≤ 8 ∧ (V b).length ≤ 8 ∧ (V c).length ≤ 8 ∧ (V m.length).length ≤ 8 ∧ m.length ≤ 400) := Lib.hid ⟨by rw [V_length]; exact (vlen_le _).2, by rw [V_length]; exact (vlen_le _).2, by rw [V_length]; exact (vlen_le _).2, by rw [V_length]; exact (vlen_le _).2, by rw [V_length]; exact (vlen_le _).2, hm⟩
  have HD := Lib.hid hd0
  have hns : w.heap.size < w0.heap.size := hlt
  clear hd hd0 hG0 hB0 hs0
  go_wp2_with fail
  refine (pack_start (Fr.refl _ w0) 5 (by omega) _ rfl).mono ?_
  rintro e W1 ⟨b1, rfl, P1⟩
  have x1 := (HS.out _ P1.grow).1
  have hlt1 := Nat.lt_of_lt_of_le hlt P1.grow.size
  have P := P1.drew
  have HP := Lib.hid P1
  clear P1
  go_upto_region 8 with fail
  clear x0 x1
  go_region_held3 (fun w' => w'.cell? ⟨w.heap.size, 0, none⟩ = some (.int .i64 5) ∧ w'.cell? ⟨w.heap.size, 1, none⟩ = some (.int .u64 (a : Int)) ∧ w'.cell? ⟨w.heap.size, 2, none⟩ = some (.int .u64 (b : Int)) ∧ w'.cell? ⟨w.heap.size, 3, none⟩ = some (.int .u64 (c : Int)) ∧ w'.cell? ⟨w.heap.size, 4, none⟩ = some (.slice p m.length cd))
    (first | exact HS.out _ P.grow | exact HS.out _ HP.out.grow | exact HS.out _ HP.out.drew.grow)
    (first
      | (go_at_call 16; with_reducible refine (pack_num P a (by have := HL.out; omega) _ rfl).mono ?_; rintro e Wn0 ⟨bn0, rfl, P'⟩; clear P; have P := P'; clear P')
      | (go_at_call 16; with_reducible refine (pack_num P b (by have := HL.out; omega) _ rfl).mono ?_; rintro e Wn1 ⟨bn1, rfl, P'⟩; clear P; have P := P'; clear P')
      | (refine step_pack (v := .slice (some ⟨b1, 0, none⟩) (vlen 5) (vlen 5)) (x := .slice (some ⟨bn0, 0, none⟩) (vlen (a)) (vlen (a))) (m := V (a)) (l := V 5) P (by go_simp) _ _ (by rfl) (by rfl) (by rfl) (by simp) (by have := HL.out; (try simp only [List.length_append]); omega) ?_; intro va0 Wa0 P'; clear P; have P := P'; clear P')
      | (refine step_pack (v := va0) (x := .slice (some ⟨bn1, 0, none⟩) (vlen (b)) (vlen (b))) (m := V (b)) (l := V 5 ++ V (a)) P (by go_simp) _ _ (by rfl) (by rfl) (by rfl) (by simp) (by have := HL.out; (try simp only [List.length_append]); omega) ?_; intro va1 Wa1 P'; clear P; have P := P'; clear P'))
  all_goals (
    have HPf := Lib.hid P
    clear P
    go_wp2_with fail
    go_ret
    exact ⟨_, rfl, HF.out _ _ _ _ HPf.out⟩)

set_option maxRecDepth 100000 in
set_option maxHeartbeats 40000000 in
theorem other_maxStream (w : World) (a b c : Nat) (d : Value) (m : List UInt8) (hd : Rd w d m) (ha : a ≤ 10000000000) (hb : b ≤ 10000000000) (_ : c ≤ 10000000000) (hm : m.length ≤ 400) :
    Calls Try.prog 7 #[.agg #[.int .i64 17, .int .u64 (a : Int), .int .u64 (b : Int), .int .u64 (c : Int), d]] w fun e w' => ∃ v', e = .returned v' ∧ Buf w w' v' (V 17 ++ V a ++ V b) := by
  obtain ⟨p, cd, rfl, _⟩ := id hd
  have hG0 : Grow w (w.alloc (.cells #[.int .i64 17, .int .u64 (a : Int), .int .u64 (b : Int), .int .u64 (c : Int), .slice p m.length cd] 33)) := (Fr.refl _ w).alloc _
  have hB0 : Blk (w.alloc (.cells #[.int .i64 17, .int .u64 (a : Int), .int .u64 (b : Int), .int .u64 (c : Int), .slice p m.length cd] 33)) w.heap.size #[.int .i64 17, .int .u64 (a : Int), .int .u64 (b : Int), .int .u64 (c : Int), .slice p m.length cd] 33 := Blk.new w _ _
  have hd0 := hd.keep hG0.bytes
  have hs0 : w.heap.size ≤ (w.alloc (.cells #[.int .i64 17, .int .u64 (a : Int), .int .u64 (b : Int), .int .u64 (c : Int), .slice p m.length cd] 33)).heap.size := hG0.size
  have HF := Lib.hid (fun (W : World) (v : Value) (l : List UInt8) (S : List (Value × List UInt8)) (P : Pack (w.alloc (.cells #[.int .i64 17, .int .u64 (a : Int), .int .u64 (b : Int), .int .u64 (c : Int), .slice p m.length cd] 33)) W v l S) => (show Buf w W v l from ⟨P.own, hG0.trans P.grow, fun k hk => ⟨Nat.le_trans hs0 (P.new k hk).1, (P.new k hk).2⟩⟩))
  go_enter Try.func7, Try.ntmps7
  go_upto_region 1 with fail
  generalize w.alloc (.cells #[.int .i64 17, .int .u64 (a : Int), .int .u64 (b : Int), .int .u64 (c : Int), .slice p m.length cd] 33) = w0 at *
  have x0 : w0.cell? ⟨w.heap.size, 0, none⟩ = some (.int .i64 17) := hB0.cellAt 0 _ rfl
  have hlt := hB0.lt
  have HS : Hid (∀ w', Grow w0 w' → (w'.cell? ⟨w.heap.size, 0, none⟩ = some (.int .i64 17) ∧ w'.cell? ⟨w.heap.size, 1, none⟩ = some (.int .u64 (a : Int)) ∧ w'.cell? ⟨w.heap.size, 2, none⟩ = some (.int .u64 (b : Int)) ∧ w'.cell? ⟨w.heap.size, 3, none⟩ = some (.int .u64 (c : Int)) ∧ w'.cell? ⟨w.heap.size, 4, none⟩ = some (.slice p m.length cd))) := Lib.hid fun w' hG => ⟨(hG.blk hB0 (fun e => e)).cellAt 0 _ rfl, (hG.blk hB0 (fun e => e)).cellAt 1 _ rfl, (hG.blk hB0 (fun e => e)).cellAt 2 _ rfl, (hG.blk hB0 (fun e => e)).cellAt 3 _ rfl, (hG.blk hB0 (fun e => e)).cellAt 4 _ rfl⟩
  have HL : Hid ((V 17).length ≤ 8 ∧ (V a).length ≤ 8 ∧ (V b).length ≤ 8 ∧ (V c).length ≤ 8 ∧ (V m.length).length ≤ 8 ∧ m.length ≤ 400) := Lib.hid ⟨by rw [V_length]; exact (vlen_le _).2, by rw [V_length]; exact (vlen_le _).2, by rw [V_length]; exact (vlen_le _).2, by rw [V_length]; exact (vlen_le _).2, by rw [V_length]; exact (vlen_le _).2, hm⟩
  have HD := Lib.hid hd0
  have hns : w.heap.size < w0.heap.size := hlt
  clear hd hd0 hG0 hB0 hs0
  go_wp2_with fail
  refine (pack_start (Fr.refl _ w0) 17 (by omega) _ rfl).mono ?_
  rintro e W1 ⟨b1, rfl, P1⟩
  have x1 := (HS.out _ P1.grow).1
  have hlt1 := Nat.lt_of_lt_of_le hlt P1.grow.size
  have P := P1.drew
  have HP := Lib.hid P1
  clear P1
  go_upto_region 8 with fail
  clear x0 x1
  go_region_held3 (fun w' => w'.cell? ⟨w.heap.size, 0, none⟩ = some (.int .i64 17) ∧ w'.cell? ⟨w.heap.size, 1, none⟩ = some (.int .u64 (a : Int)) ∧ w'.cell? ⟨w.heap.size, 2, none⟩ = some (.int .u64 (b : Int)) ∧ w'.cell? ⟨w.heap.size, 3, none⟩ = some (.int .u64 (c : Int)) ∧ w'.cell? ⟨w.heap.size, 4, none⟩ = some (.slice p m.length cd))
    (first | exact HS.out _ P.grow | exact HS.out _ HP.out.grow | exact HS.out _ HP.out.drew.grow)
    (first
      | (go_at_call 16; with_reducible refine (pack_num P a (by have := HL.out; omega) _ rfl).mono ?_; rintro e Wn0 ⟨bn0, rfl, P'⟩; clear P; have P := P'; clear P')
      | (go_at_call 16; with_reducible refine (pack_num P b (by have := HL.out; omega) _ rfl).mono ?_; rintro e Wn1 ⟨bn1, rfl, P'⟩; clear P; have P := P'; clear P')
      | (refine step_pack (v := .slice (some ⟨b1, 0, none⟩) (vlen 17) (vlen 17)) (x := .slice (some ⟨bn0, 0, none⟩) (vlen (a)) (vlen (a))) (m := V (a)) (l := V 17) P (by go_simp) _ _ (by rfl) (by rfl) (by rfl) (by simp) (by have := HL.out; (try simp only [List.length_append]); omega) ?_; intro va0 Wa0 P'; clear P; have P := P'; clear P')
      | (refine step_pack (v := va0) (x := .slice (some ⟨bn1, 0, none⟩) (vlen (b)) (vlen (b))) (m := V (b)) (l := V 17 ++ V (a)) P (by go_simp) _ _ (by rfl) (by rfl) (by rfl) (by simp) (by have := HL.out; (try simp only [List.length_append]); omega) ?_; intro va1 Wa1 P'; clear P; have P := P'; clear P'))
  all_goals (
    have HPf := Lib.hid P
    clear P
    go_wp2_with fail
    go_ret
    exact ⟨_, rfl, HF.out _ _ _ _ HPf.out⟩)

set_option maxRecDepth 100000 in
set_option maxHeartbeats 40000000 in
theorem other_token (w : World) (a b c : Nat) (d : Value) (m : List UInt8) (hd : Rd w d m) (_ : a ≤ 10000000000) (_ : b ≤ 10000000000) (_ : c ≤ 10000000000) (hm : m.length ≤ 400) :
    Calls Try.prog 7 #[.agg #[.int .i64 7, .int .u64 (a : Int), .int .u64 (b : Int), .int .u64 (c : Int), d]] w fun e w' => ∃ v', e = .returned v' ∧ Buf w w' v' (V 7 ++ V m.length ++ m) := by
  obtain ⟨p, cd, rfl, _⟩ := id hd
  have hG0 : Grow w (w.alloc (.cells #[.int .i64 7, .int .u64 (a : Int), .int .u64 (b : Int), .int .u64 (c : Int), .slice p m.length cd] 33)) := (Fr.refl _ w).alloc _
  have hB0 : Blk (w.alloc (.cells #[.int .i64 7, .int .u64 (a : Int), .int .u64 (b : Int), .int .u64 (c : Int), .slice p m.length cd] 33)) w.heap.size #[.int .i64 7, .int .u64 (a : Int), .int .u64 (b : Int), .int .u64 (c : Int), .slice p m.length cd] 33 := Blk.new w _ _
  have hd0 := hd.keep hG0.bytes
  have hs0 : w.heap.size ≤ (w.alloc (.cells #[.int .i64 7, .int .u64 (a : Int), .int .u64 (b : Int), .int .u64 (c : Int), .slice p m.length cd] 33)).heap.size := hG0.size
  have HF := Lib.hid (fun (W : World) (v : Value) (l : List UInt8) (S : List (Value × List UInt8)) (P : Pack (w.alloc (.cells #[.int .i64 7, .int .u64 (a : Int), .int .u64 (b : Int), .int .u64 (c : Int), .slice p m.length cd] 33)) W v l S) => (show Buf w W v l from ⟨P.own, hG0.trans P.grow, fun k hk => ⟨Nat.le_trans hs0 (P.new k hk).1, (P.new k hk).2⟩⟩))
  go_enter Try.func7, Try.ntmps7
  go_upto_region 1 with fail
  generalize w.alloc (.cells #[.int .i64 7, .int .u64 (a : Int), .int .u64 (b : Int), .int .u64 (c : Int), .slice p m.length cd] 33) = w0 at *
  have x0 : w0.cell? ⟨w.heap.size, 0, none⟩ = some (.int .i64 7) := hB0.cellAt 0 _ rfl
  have hlt := hB0.lt
  have HS : Hid (∀ w', Grow w0 w' → (w'.cell? ⟨w.heap.size, 0, none⟩ = some (.int .i64 7) ∧ w'.cell? ⟨w.heap.size, 1, none⟩ = some (.int .u64 (a : Int)) ∧ w'.cell? ⟨w.heap.size, 2, none⟩ = some (.int .u64 (b : Int)) ∧ w'.cell? ⟨w.heap.size, 3, none⟩ = some (.int .u64 (c : Int)) ∧ w'.cell? ⟨w.heap.size, 4, none⟩ = some (.slice p m.length cd))) := Lib.hid fun w' hG => ⟨(hG.blk hB0 (fun e => e)).cellAt 0 _ rfl, (hG.blk hB0 (fun e => e)).cellAt 1 _ rfl, (hG.blk hB0 (fun e => e)).cellAt 2 _ rfl, (hG.blk hB0 (fun e => e)).cellAt 3 _ rfl, (hG.blk hB0 (fun e => e)).cellAt 4 _ rfl⟩
  have HL : Hid ((V 7).length ≤ 8 ∧ (V a).length ≤ 8 ∧ (V b).length ≤ 8 ∧ (V c).length ≤ 8 ∧ (V m.length).length ≤ 8 ∧ m.length ≤ 400) := Lib.hid ⟨by rw [V_length]; exact (vlen_le _).2, by rw [V_length]; exact (vlen_le _).2, by rw [V_length]; exact (vlen_le _).2, by rw [V_length]; exact (vlen_le _).2, by rw [V_length]; exact (vlen_le _).2, hm⟩
  have HD := Lib.hid hd0
  have hns : w.heap.size < w0.heap.size := hlt
  clear hd hd0 hG0 hB0 hs0
  go_wp2_with fail
  refine (pack_start (Fr.refl _ w0) 7 (by omega) _ rfl).mono ?_
  rintro e W1 ⟨b1, rfl, P1⟩
  have x1 := (HS.out _ P1.grow).1
  have hlt1 := Nat.lt_of_lt_of_le hlt P1.grow.size
  have P := P1.drew.old HD.out
  have HP := Lib.hid P1
  clear P1
  have hwr : IntKind.u64.wrap (m.length : Int) = (m.length : Int) := by rw [IntKind.wrap_u64]; have := HL.out; omega
  go_upto_region 10 with fail
  clear x0 x1
  go_region_held3 (fun w' => w'.cell? ⟨w.heap.size, 0, none⟩ = some (.int .i64 7) ∧ w'.cell? ⟨w.heap.size, 1, none⟩ = some (.int .u64 (a : Int)) ∧ w'.cell? ⟨w.heap.size, 2, none⟩ = some (.int .u64 (b : Int)) ∧ w'.cell? ⟨w.heap.size, 3, none⟩ = some (.int .u64 (c : Int)) ∧ w'.cell? ⟨w.heap.size, 4, none⟩ = some (.slice p m.length cd))
    (first | exact HS.out _ P.grow | exact HS.out _ HP.out.grow | exact HS.out _ HP.out.drew.grow)
    (first
      | (go_at_call 16; with_reducible refine (pack_num P m.length (by have := HL.out; omega) _ rfl).mono ?_; rintro e Wn0 ⟨bn0, rfl, P'⟩; clear P; have P := P'; clear P')
      | (refine step_pack (v := .slice (some ⟨b1, 0, none⟩) (vlen 7) (vlen 7)) (x := .slice (some ⟨bn0, 0, none⟩) (vlen (m.length)) (vlen (m.length))) (m := V (m.length)) (l := V 7) P (by go_simp) _ _ (by rfl) (by rfl) (by rfl) (by simp) (by have := HL.out; (try simp only [List.length_append]); omega) ?_; intro va0 Wa0 P'; clear P; have P := P'; clear P')
      | (refine step_pack (v := va0) (x := .slice p m.length cd) (m := m) (l := V 7 ++ V (m.length)) P (by go_simp) _ _ (by rfl) (by rfl) (by rfl) (by simp) (by have := HL.out; (try simp only [List.length_append]); omega) ?_; intro va1 Wa1 P'; clear P; have P := P'; clear P'))
  all_goals (
    have HPf := Lib.hid P
    clear P
    go_wp2_with fail
    go_ret
    exact ⟨_, rfl, HF.out _ _ _ _ HPf.out⟩)

set_option maxRecDepth 100000 in
set_option maxHeartbeats 40000000 in
theorem other_maxData (w : World) (a b c : Nat) (d : Value) (m : List UInt8) (hd : Rd w d m) (ha : a ≤ 10000000000) (_ : b ≤ 10000000000) (_ : c ≤ 10000000000) (hm : m.length ≤ 400) :
    Calls Try.prog 7 #[.agg #[.int .i64 16, .int .u64 (a : Int), .int .u64 (b : Int), .int .u64 (c : Int), d]] w fun e w' => ∃ v', e = .returned v' ∧ Buf w w' v' (V 16 ++ V a) := by
  obtain ⟨p, cd, rfl, _⟩ := id hd
  have hG0 : Grow w (w.alloc (.cells #[.int .i64 16, .int .u64 (a : Int), .int .u64 (b : Int), .int .u64 (c : Int), .slice p m.length cd] 33)) := (Fr.refl _ w).alloc _
  have hB0 : Blk (w.alloc (.cells #[.int .i64 16, .int .u64 (a : Int), .int .u64 (b : Int), .int .u64 (c : Int), .slice p m.length cd] 33)) w.heap.size #[.int .i64 16, .int .u64 (a : Int), .int .u64 (b : Int), .int .u64 (c : Int), .slice p m.length cd] 33 := Blk.new w _ _
  have hd0 := hd.keep hG0.bytes
  have hs0 : w.heap.size ≤ (w.alloc (.cells #[.int .i64 16, .int .u64 (a : Int), .int .u64 (b : Int), .int .u64 (c : Int), .slice p m.length cd] 33)).heap.size := hG0.size
  have HF := Lib.hid (fun (W : World) (v : Value) (l : List UInt8) (S : List (Value × List UInt8)) (P : Pack (w.alloc (.cells #[.int .i64 16, .int .u64 (a : Int), .int .u64 (b : Int), .int .u64 (c : Int), .slice p m.length cd] 33)) W v l S) => (show Buf w W v l from ⟨P.own, hG0.trans P.grow, fun k hk => ⟨Nat.le_trans hs0 (P.new k hk).1, (P.new k hk).2⟩⟩))
  go_enter Try.func7, Try.ntmps7
  go_upto_region 1 with fail
  generalize w.alloc (.cells #[.int .i64 16, .int .u64 (a : Int), .int .u64 (b : Int), .int .u64 (c : Int), .slice p m.length cd] 33) = w0 at *
  have x0 : w0.cell? ⟨w.heap.size, 0, none⟩ = some (.int .i64 16) := hB0.cellAt 0 _ rfl
  have hlt := hB0.lt
  have HS : Hid (∀ w', Grow w0 w' → (w'.cell? ⟨w.heap.size, 0, none⟩ = some (.int .i64 16) ∧ w'.cell? ⟨w.heap.size, 1, none⟩ = some (.int .u64 (a : Int)) ∧ w'.cell? ⟨w.heap.size, 2, none⟩ = some (.int .u64 (b : Int)) ∧ w'.cell? ⟨w.heap.size, 3, none⟩ = some (.int .u64 (c : Int)) ∧ w'.cell? ⟨w.heap.size, 4, none⟩ = some (.slice p m.length cd))) := Lib.hid fun w' hG => ⟨(hG.blk hB0 (fun e => e)).cellAt 0 _ rfl, (hG.blk hB0 (fun e => e)).cellAt 1 _ rfl, (hG.blk hB0 (fun e => e)).cellAt 2 _ rfl, (hG.blk hB0 (fun e => e)).cellAt 3 _ rfl, (hG.blk hB0 (fun e => e)).cellAt 4 _ rfl⟩
  have HL : Hid ((V 16).length ≤ 8 ∧ (V a).length ≤ 8 ∧ (V b).length ≤ 8 ∧ (V c).length ≤ 8 ∧ (V m.length).length ≤ 8 ∧ m.length ≤ 400) := Lib.hid ⟨by rw [V_length]; exact (vlen_le _).2, by rw [V_length]; exact (vlen_le _).2, by rw [V_length]; exact (vlen_le _).2, by rw [V_length]; exact (vlen_le _).2, by rw [V_length]; exact (vlen_le _).2, hm⟩
  have HD := Lib.hid hd0
  have hns : w.heap.size < w0.heap.size := hlt
  clear hd hd0 hG0 hB0 hs0
  go_wp2_with fail
  refine (pack_start (Fr.refl _ w0) 16 (by omega) _ rfl).mono ?_
  rintro e W1 ⟨b1, rfl, P1⟩
  have x1 := (HS.out _ P1.grow).1
  have hlt1 := Nat.lt_of_lt_of_le hlt P1.grow.size
  have P := P1.drew
  have HP := Lib.hid P1
  clear P1
  have x2 := (HS.out _ HP.out.grow).2.1
  clear P
  go_wp2_with (first | (go_at_call 16; refine (pack_num HP.out a (by omega) _ rfl).mono ?_; rintro e W2 ⟨b2, rfl, P2⟩; have HP2 := Lib.hid P2; clear P2) | (at_builtin; refine wpList_pack HP2.out rfl _ _ rfl rfl rfl List.mem_cons_self (by have := HL.out; omega) ?_; intro v3 W3 P3; have HP3 := Lib.hid P3; clear P3))
  go_ret
  exact ⟨_, rfl, HF.out _ _ _ _ HP3.out⟩

set_option maxRecDepth 100000 in
set_option maxHeartbeats 40000000 in
theorem other_maxStreams (w : World) (a b c : Nat) (d : Value) (m : List UInt8) (hd : Rd w d m) (ha : a ≤ 10000000000) (_ : b ≤ 10000000000) (_ : c ≤ 10000000000) (hm : m.length ≤ 400) :
    Calls Try.prog 7 #[.agg #[.int .i64 18, .int .u64 (a : Int), .int .u64 (b : Int), .int .u64 (c : Int), d]] w fun e w' => ∃ v', e = .returned v' ∧ Buf w w' v' (V 18 ++ V a) := by
  obtain ⟨p, cd, rfl, _⟩ := id hd
  have hG0 : Grow w (w.alloc (.cells #[.int .i64 18, .int .u64 (a : Int), .int .u64 (b : Int), .int .u64 (c : Int), .slice p m.length cd] 33)) := (Fr.refl _ w).alloc _
  have hB0 : Blk (w.alloc (.cells #[.int .i64 18, .int .u64 (a : Int), .int .u64 (b : Int), .int .u64 (c : Int), .slice p m.length cd] 33)) w.heap.size #[.int .i64 18, .int .u64 (a : Int), .int .u64 (b : Int), .int .u64 (c : Int), .slice p m.length cd] 33 := Blk.new w _ _
  have hd0 := hd.keep hG0.bytes
  have hs0 : w.heap.size ≤ (w.alloc (.cells #[.int .i64 18, .int .u64 (a : Int), .int .u64 (b : Int), .int .u64 (c : Int), .slice p m.length cd] 33)).heap.size := hG0.size
  have HF := Lib.hid (fun (W : World) (v : Value) (l : List UInt8) (S : List (Value × List UInt8)) (P : Pack (w.alloc (.cells #[.int .i64 18, .int .u64 (a : Int), .int .u64 (b : Int), .int .u64 (c : Int), .slice p m.length cd] 33)) W v l S) => (show Buf w W v l from ⟨P.own, hG0.trans P.grow, fun k hk => ⟨Nat.le_trans hs0 (P.new k hk).1, (P.new k hk).2⟩⟩))
  go_enter Try.func7, Try.ntmps7
  go_upto_region 1 with fail
  generalize w.alloc (.cells #[.int .i64 18, .int .u64 (a : Int), .int .u64 (b : Int), .int .u64 (c : Int), .slice p m.length cd] 33) = w0 at *
  have x0 : w0.cell? ⟨w.heap.size, 0, none⟩ = some (.int .i64 18) := hB0.cellAt 0 _ rfl
  have hlt := hB0.lt
  have HS : Hid (∀ w', Grow w0 w' → (w'.cell? ⟨w.heap.size, 0, none⟩ = some (.int .i64 18) ∧ w'.cell? ⟨w.heap.size, 1, none⟩ = some (.int .u64 (a : Int)) ∧ w'.cell? ⟨w.heap.size, 2, none⟩ = some (.int .u64 (b : Int)) ∧ w'.cell? ⟨w.heap.size, 3, none⟩ = some (.int .u64 (c : Int)) ∧ w'.cell? ⟨w.heap.size, 4, none⟩ = some (.slice p m.length cd))) := Lib.hid fun w' hG => ⟨(hG.blk hB0 (fun e => e)).cellAt 0 _ rfl, (hG.blk hB0 (fun e => e)).cellAt 1 _ rfl, (hG.blk hB0 (fun e => e)).cellAt 2 _ rfl, (hG.blk hB0 (fun e => e)).cellAt 3 _ rfl, (hG.blk hB0 (fun e => e)).cellAt 4 _ rfl⟩
  have HL : Hid ((V 18).length ≤ 8 ∧ (V a).length ≤ 8 ∧ (V b).length ≤ 8 ∧ (V c).length ≤ 8 ∧ (V m.length).length ≤ 8 ∧ m.length ≤ 400) := Lib.hid ⟨by rw [V_length]; exact (vlen_le _).2, by rw [V_length]; exact (vlen_le _).2, by rw [V_length]; exact (vlen_le _).2, by rw [V_length]; exact (vlen_le _).2, by rw [V_length]; exact (vlen_le _).2, hm⟩
  have HD := Lib.hid hd0
  have hns : w.heap.size < w0.heap.size := hlt
  clear hd hd0 hG0 hB0 hs0
  go_wp2_with fail
  refine (pack_start (Fr.refl _ w0) 18 (by omega) _ rfl).mono ?_
  rintro e W1 ⟨b1, rfl, P1⟩
  have x1 := (HS.out _ P1.grow).1
  have hlt1 := Nat.lt_of_lt_of_le hlt P1.grow.size
  have P := P1.drew
  have HP := Lib.hid P1
  clear P1
  have x2 := (HS.out _ HP.out.grow).2.1
  clear P
  go_wp2_with (first | (go_at_call 16; refine (pack_num HP.out a (by omega) _ rfl).mono ?_; rintro e W2 ⟨b2, rfl, P2⟩; have HP2 := Lib.hid P2; clear P2) | (at_builtin; refine wpList_pack HP2.out rfl _ _ rfl rfl rfl List.mem_cons_self (by have := HL.out; omega) ?_; intro v3 W3 P3; have HP3 := Lib.hid P3; clear P3))
  go_ret
  exact ⟨_, rfl, HF.out _ _ _ _ HP3.out⟩

set_option maxRecDepth 100000 in
set_option maxHeartbeats 40000000 in
theorem other_retire (w : World) (a b c : Nat) (d : Value) (m : List UInt8) (hd : Rd w d m) (ha : a ≤ 10000000000) (_ : b ≤ 10000000000) (_ : c ≤ 10000000000) (hm : m.length ≤ 400) :
    Calls Try.prog 7 #[.agg #[.int .i64 25, .int .u64 (a : Int), .int .u64 (b : Int), .int .u64 (c : Int), d]] w fun e w' => ∃ v', e = .returned v' ∧ Buf w w' v' (V 25 ++ V a) := by
  obtain ⟨p, cd, rfl, _⟩ := id hd
  have hG0 : Grow w (w.alloc (.cells #[.int .i64 25, .int .u64 (a : Int), .int .u64 (b : Int), .int .u64 (c : Int), .slice p m.length cd] 33)) := (Fr.refl _ w).alloc _
  have hB0 : Blk (w.alloc (.cells #[.int .i64 25, .int .u64 (a : Int), .int .u64 (b : Int), .int .u64 (c : Int), .slice p m.length cd] 33)) w.heap.size #[.int .i64 25, .int .u64 (a : Int), .int .u64 (b : Int), .int .u64 (c : Int), .slice p m.length cd] 33 := Blk.new w _ _
  have hd0 := hd.keep hG0.bytes
  have hs0 : w.heap.size ≤ (w.alloc (.cells #[.int .i64 25, .int .u64 (a : Int), .int .u64 (b : Int), .int .u64 (c : Int), .slice p m.length cd] 33)).heap.size := hG0.size
  have HF := Lib.hid (fun (W : World) (v : Value) (l : List UInt8) (S : List (Value × List UInt8)) (P : Pack (w.alloc (.cells #[.int .i64 25, .int .u64 (a : Int), .int .u64 (b : Int), .int .u64 (c : Int), .slice p m.length cd] 33)) W v l S) => (show Buf w W v l from ⟨P.own, hG0.trans P.grow, fun k hk => ⟨Nat.le_trans hs0 (P.new k hk).1, (P.new k hk).2⟩⟩))
  go_enter Try.func7, Try.ntmps7
  go_upto_region 1 with fail
  generalize w.alloc (.cells #[.int .i64 25, .int .u64 (a : Int), .int .u64 (b : Int), .int .u64 (c : Int), .slice p m.length cd] 33) = w0 at *
  have x0 : w0.cell? ⟨w.heap.size, 0, none⟩ = some (.int .i64 25) := hB0.cellAt 0 _ rfl
  have hlt := hB0.lt
  have HS : Hid (∀ w', Grow w0 w' → (w'.cell? ⟨w.heap.size, 0, none⟩ = some (.int .i64 25) ∧ w'.cell? ⟨w.heap.size, 1, none⟩ = some (.int .u64 (a : Int)) ∧ w'.cell? ⟨w.heap.size, 2, none⟩ = some (.int .u64 (b : Int)) ∧ w'.cell? ⟨w.heap.size, 3, none⟩ = some (.int .u64 (c : Int)) ∧ w'.cell? ⟨w.heap.size, 4, none⟩ = some (.slice p m.length cd))) := Lib.hid fun w' hG => ⟨(hG.blk hB0 (fun e => e)).cellAt 0 _ rfl, (hG.blk hB0 (fun e => e)).cellAt 1 _ rfl, (hG.blk hB0 (fun e => e)).cellAt 2 _ rfl, (hG.blk hB0 (fun e => e)).cellAt 3 _ rfl, (hG.blk hB0 (fun e => e)).cellAt 4 _ rfl⟩
  have HL : Hid ((V 25).length ≤ 8 ∧ (V a).length ≤ 8 ∧ (V b).length ≤ 8 ∧ (V c).length ≤ 8 ∧ (V m.length).length ≤ 8 ∧ m.length ≤ 400) := Lib.hid ⟨by rw [V_length]; exact (vlen_le _).2, by rw [V_length]; exact (vlen_le _).2, by rw [V_length]; exact (vlen_le _).2, by rw [V_length]; exact (vlen_le _).2, by rw [V_length]; exact (vlen_le _).2, hm⟩
  have HD := Lib.hid hd0
  have hns : w.heap.size < w0.heap.size := hlt
  clear hd hd0 hG0 hB0 hs0
  go_wp2_with fail
  refine (pack_start (Fr.refl _ w0) 25 (by omega) _ rfl).mono ?_
  rintro e W1 ⟨b1, rfl, P1⟩
  have x1 := (HS.out _ P1.grow).1
  have hlt1 := Nat.lt_of_lt_of_le hlt P1.grow.size
  have P := P1.drew
  have HP := Lib.hid P1
  clear P1
  have x2 := (HS.out _ HP.out.grow).2.1
  clear P
  go_wp2_with (first | (go_at_call 16; refine (pack_num HP.out a (by omega) _ rfl).mono ?_; rintro e W2 ⟨b2, rfl, P2⟩; have HP2 := Lib.hid P2; clear P2) | (at_builtin; refine wpList_pack HP2.out rfl _ _ rfl rfl rfl List.mem_cons_self (by have := HL.out; omega) ?_; intro v3 W3 P3; have HP3 := Lib.hid P3; clear P3))
  go_ret
  exact ⟨_, rfl, HF.out _ _ _ _ HP3.out⟩

set_option maxRecDepth 100000 in
set_option maxHeartbeats 40000000 in
theorem other_ping (w : World) (a b c : Nat) (d : Value) (m : List UInt8) (hd : Rd w d m) (_ : a ≤ 10000000000) (_ : b ≤ 10000000000) (_ : c ≤ 10000000000) (hm : m.length ≤ 400) :
    Calls Try.prog 7 #[.agg #[.int .i64 1, .int .u64 (a : Int), .int .u64 (b : Int), .int .u64 (c : Int), d]] w fun e w' => ∃ v', e = .returned v' ∧ Buf w w' v' (V 1) := by
  obtain ⟨p, cd, rfl, _⟩ := id hd
  have hG0 : Grow w (w.alloc (.cells #[.int .i64 1, .int .u64 (a : Int), .int .u64 (b : Int), .int .u64 (c : Int), .slice p m.length cd] 33)) := (Fr.refl _ w).alloc _
  have hB0 : Blk (w.alloc (.cells #[.int .i64 1, .int .u64 (a : Int), .int .u64 (b : Int), .int .u64 (c : Int), .slice p m.length cd] 33)) w.heap.size #[.int .i64 1, .int .u64 (a : Int), .int .u64 (b : Int), .int .u64 (c : Int), .slice p m.length cd] 33 := Blk.new w _ _
  have hd0 := hd.keep hG0.bytes
  have hs0 : w.heap.size ≤ (w.alloc (.cells #[.int .i64 1, .int .u64 (a : Int), .int .u64 (b : Int), .int .u64 (c : Int), .slice p m.length cd] 33)).heap.size := hG0.size
  have HF := Lib.hid (fun (W : World) (v : Value) (l : List UInt8) (S : List (Value × List UInt8)) (P : Pack (w.alloc (.cells #[.int .i64 1, .int .u64 (a : Int), .int .u64 (b : Int), .int .u64 (c : Int), .slice p m.length cd] 33)) W v l S) => (show Buf w W v l from ⟨P.own, hG0.trans P.grow, fun k hk => ⟨Nat.le_trans hs0 (P.new k hk).1, (P.new k hk).2⟩⟩))
  go_enter Try.func7, Try.ntmps7
  go_upto_region 1 with fail
  generalize w.alloc (.cells #[.int .i64 1, .int .u64 (a : Int), .int .u64 (b : Int), .int .u64 (c : Int), .slice p m.length cd] 33) = w0 at *
  have x0 : w0.cell? ⟨w.heap.size, 0, none⟩ = some (.int .i64 1) := hB0.cellAt 0 _ rfl
  have hlt := hB0.lt
  have HS : Hid (∀ w', Grow w0 w' → (w'.cell? ⟨w.heap.size, 0, none⟩ = some (.int .i64 1) ∧ w'.cell? ⟨w.heap.size, 1, none⟩ = some (.int .u64 (a : Int)) ∧ w'.cell? ⟨w.heap.size, 2, none⟩ = some (.int .u64 (b : Int)) ∧ w'.cell? ⟨w.heap.size, 3, none⟩ = some (.int .u64 (c : Int)) ∧ w'.cell? ⟨w.heap.size, 4, none⟩ = some (.slice p m.length cd))) := Lib.hid fun w' hG => ⟨(hG.blk hB0 (fun e => e)).cellAt 0 _ rfl, (hG.blk hB0 (fun e => e)).cellAt 1 _ rfl, (hG.blk hB0 (fun e => e)).cellAt 2 _ rfl, (hG.blk hB0 (fun e => e)).cellAt 3 _ rfl, (hG.blk hB0 (fun e => e)).cellAt 4 _ rfl⟩
  have HL : Hid ((V 1).length ≤ 8 ∧ (V a).length ≤ 8 ∧ (V b).length ≤ 8 ∧ (V c).length ≤ 8 ∧ (V m.length).length ≤ 8 ∧ m.length ≤ 400) := Lib.hid ⟨by rw [V_length]; exact (vlen_le _).2, by rw [V_length]; exact (vlen_le _).2, by rw [V_length]; exact (vlen_le _).2, by rw [V_length]; exact (vlen_le _).2, by rw [V_length]; exact (vlen_le _).2, hm⟩
  have HD := Lib.hid hd0
  have hns : w.heap.size < w0.heap.size := hlt
  clear hd hd0 hG0 hB0 hs0
  go_wp2_with fail
  refine (pack_start (Fr.refl _ w0) 1 (by omega) _ rfl).mono ?_
  rintro e W1 ⟨b1, rfl, P1⟩
  have x1 := (HS.out _ P1.grow).1
  have hlt1 := Nat.lt_of_lt_of_le hlt P1.grow.size
  have HP := Lib.hid P1
  clear P1
  go_wp2_with fail
  go_ret
  exact ⟨_, rfl, HF.out _ _ _ _ HP.out⟩

set_option maxRecDepth 100000 in
set_option maxHeartbeats 40000000 in
theorem other_done (w : World) (a b c : Nat) (d : Value) (m : List UInt8) (hd : Rd w d m) (_ : a ≤ 10000000000) (_ : b ≤ 10000000000) (_ : c ≤ 10000000000) (hm : m.length ≤ 400) :
    Calls Try.prog 7 #[.agg #[.int .i64 30, .int .u64 (a : Int), .int .u64 (b : Int), .int .u64 (c : Int), d]] w fun e w' => ∃ v', e = .returned v' ∧ Buf w w' v' (V 30) := by
  obtain ⟨p, cd, rfl, _⟩ := id hd
  have hG0 : Grow w (w.alloc (.cells #[.int .i64 30, .int .u64 (a : Int), .int .u64 (b : Int), .int .u64 (c : Int), .slice p m.length cd] 33)) := (Fr.refl _ w).alloc _
  have hB0 : Blk (w.alloc (.cells #[.int .i64 30, .int .u64 (a : Int), .int .u64 (b : Int), .int .u64 (c : Int), .slice p m.length cd] 33)) w.heap.size #[.int .i64 30, .int .u64 (a : Int), .int .u64 (b : Int), .int .u64 (c : Int), .slice p m.length cd] 33 := Blk.new w _ _
  have hd0 := hd.keep hG0.bytes
  have hs0 : w.heap.size ≤ (w.alloc (.cells #[.int .i64 30, .int .u64 (a : Int), .int .u64 (b : Int), .int .u64 (c : Int), .slice p m.length cd] 33)).heap.size := hG0.size
  have HF := Lib.hid (fun (W : World) (v : Value) (l : List UInt8) (S : List (Value × List UInt8)) (P : Pack (w.alloc (.cells #[.int .i64 30, .int .u64 (a : Int), .int .u64 (b : Int), .int .u64 (c : Int), .slice p m.length cd] 33)) W v l S) => (show Buf w W v l from ⟨P.own, hG0.trans P.grow, fun k hk => ⟨Nat.le_trans hs0 (P.new k hk).1, (P.new k hk).2⟩⟩))
  go_enter Try.func7, Try.ntmps7
  go_upto_region 1 with fail
  generalize w.alloc (.cells #[.int .i64 30, .int .u64 (a : Int), .int .u64 (b : Int), .int .u64 (c : Int), .slice p m.length cd] 33) = w0 at *
  have x0 : w0.cell? ⟨w.heap.size, 0, none⟩ = some (.int .i64 30) := hB0.cellAt 0 _ rfl
  have hlt := hB0.lt
  have HS : Hid (∀ w', Grow w0 w' → (w'.cell? ⟨w.heap.size, 0, none⟩ = some (.int .i64 30) ∧ w'.cell? ⟨w.heap.size, 1, none⟩ = some (.int .u64 (a : Int)) ∧ w'.cell? ⟨w.heap.size, 2, none⟩ = some (.int .u64 (b : Int)) ∧ w'.cell? ⟨w.heap.size, 3, none⟩ = some (.int .u64 (c : Int)) ∧ w'.cell? ⟨w.heap.size, 4, none⟩ = some (.slice p m.length cd))) := Lib.hid fun w' hG => ⟨(hG.blk hB0 (fun e => e)).cellAt 0 _ rfl, (hG.blk hB0 (fun e => e)).cellAt 1 _ rfl, (hG.blk hB0 (fun e => e)).cellAt 2 _ rfl, (hG.blk hB0 (fun e => e)).cellAt 3 _ rfl, (hG.blk hB0 (fun e => e)).cellAt 4 _ rfl⟩
  have HL : Hid ((V 30).length ≤ 8 ∧ (V a).length ≤ 8 ∧ (V b).length ≤ 8 ∧ (V c).length ≤ 8 ∧ (V m.length).length ≤ 8 ∧ m.length ≤ 400) := Lib.hid ⟨by rw [V_length]; exact (vlen_le _).2, by rw [V_length]; exact (vlen_le _).2, by rw [V_length]; exact (vlen_le _).2, by rw [V_length]; exact (vlen_le _).2, by rw [V_length]; exact (vlen_le _).2, hm⟩
  have HD := Lib.hid hd0
  have hns : w.heap.size < w0.heap.size := hlt
  clear hd hd0 hG0 hB0 hs0
  go_wp2_with fail
  refine (pack_start (Fr.refl _ w0) 30 (by omega) _ rfl).mono ?_
  rintro e W1 ⟨b1, rfl, P1⟩
  have x1 := (HS.out _ P1.grow).1
  have hlt1 := Nat.lt_of_lt_of_le hlt P1.grow.size
  have HP := Lib.hid P1
  clear P1
  go_wp2_with fail
  go_ret
  exact ⟨_, rfl, HF.out _ _ _ _ HP.out⟩

set_option maxRecDepth 100000 in
set_option maxHeartbeats 40000000 in
theorem other_zero (w : World) (a b c : Nat) (d : Value) (m : List UInt8) (hd : Rd w d m) (_ : a ≤ 10000000000) (_ : b ≤ 10000000000) (_ : c ≤ 10000000000) (hm : m.length ≤ 400) :
    Calls Try.prog 7 #[.agg #[.int .i64 0, .int .u64 (a : Int), .int .u64 (b : Int), .int .u64 (c : Int), d]] w fun e w' => ∃ v', e = .returned v' ∧ Buf w w' v' (V 0) := by
  obtain ⟨p, cd, rfl, _⟩ := id hd
  have hG0 : Grow w (w.alloc (.cells #[.int .i64 0, .int .u64 (a : Int), .int .u64 (b : Int), .int .u64 (c : Int), .slice p m.length cd] 33)) := (Fr.refl _ w).alloc _
  have hB0 : Blk (w.alloc (.cells #[.int .i64 0, .int .u64 (a : Int), .int .u64 (b : Int), .int .u64 (c : Int), .slice p m.length cd] 33)) w.heap.size #[.int .i64 0, .int .u64 (a : Int), .int .u64 (b : Int), .int .u64 (c : Int), .slice p m.length cd] 33 := Blk.new w _ _
  have hd0 := hd.keep hG0.bytes
  have hs0 : w.heap.size ≤ (w.alloc (.cells #[.int .i64 0, .int .u64 (a : Int), .int .u64 (b : Int), .int .u64 (c : Int), .slice p m.length cd] 33)).heap.size := hG0.size
  have HF := Lib.hid (fun (W : World) (v : Value) (l : List UInt8) (S : List (Value × List UInt8)) (P : Pack (w.alloc (.cells #[.int .i64 0, .int .u64 (a : Int), .int .u64 (b : Int), .int .u64 (c : Int), .slice p m.length cd] 33)) W v l S) => (show Buf w W v l from ⟨P.own, hG0.trans P.grow, fun k hk => ⟨Nat.le_trans hs0 (P.new k hk).1, (P.new k hk).2⟩⟩))
  go_enter Try.func7, Try.ntmps7
  go_upto_region 1 with fail
  generalize w.alloc (.cells #[.int .i64 0, .int .u64 (a : Int), .int .u64 (b : Int), .int .u64 (c : Int), .slice p m.length cd] 33) = w0 at *
  have x0 : w0.cell? ⟨w.heap.size, 0, none⟩ = some (.int .i64 0) := hB0.cellAt 0 _ rfl
  have hlt := hB0.lt
  have HS : Hid (∀ w', Grow w0 w' → (w'.cell? ⟨w.heap.size, 0, none⟩ = some (.int .i64 0) ∧ w'.cell? ⟨w.heap.size, 1, none⟩ = some (.int .u64 (a : Int)) ∧ w'.cell? ⟨w.heap.size, 2, none⟩ = some (.int .u64 (b : Int)) ∧ w'.cell? ⟨w.heap.size, 3, none⟩ = some (.int .u64 (c : Int)) ∧ w'.cell? ⟨w.heap.size, 4, none⟩ = some (.slice p m.length cd))) := Lib.hid fun w' hG => ⟨(hG.blk hB0 (fun e => e)).cellAt 0 _ rfl, (hG.blk hB0 (fun e => e)).cellAt 1 _ rfl, (hG.blk hB0 (fun e => e)).cellAt 2 _ rfl, (hG.blk hB0 (fun e => e)).cellAt 3 _ rfl, (hG.blk hB0 (fun e => e)).cellAt 4 _ rfl⟩
  have HL : Hid ((V 0).length ≤ 8 ∧ (V a).length ≤ 8 ∧ (V b).length ≤ 8 ∧ (V c).length ≤ 8 ∧ (V m.length).length ≤ 8 ∧ m.length ≤ 400) := Lib.hid ⟨by rw [V_length]; exact (vlen_le _).2, by rw [V_length]; exact (vlen_le _).2, by rw [V_length]; exact (vlen_le _).2, by rw [V_length]; exact (vlen_le _).2, by rw [V_length]; exact (vlen_le _).2, hm⟩
  have HD := Lib.hid hd0
  have hns : w.heap.size < w0.heap.size := hlt
  clear hd hd0 hG0 hB0 hs0
  go_wp2_with fail
  refine (pack_start (Fr.refl _ w0) 0 (by omega) _ rfl).mono ?_
  rintro e W1 ⟨b1, rfl, P1⟩
  have x1 := (HS.out _ P1.grow).1
  have hlt1 := Nat.lt_of_lt_of_le hlt P1.grow.size
  have HP := Lib.hid P1
  clear P1
  go_wp2_with fail
  go_ret
  exact ⟨_, rfl, HF.out _ _ _ _ HP.out⟩

set_option maxRecDepth 100000 in
set_option maxHeartbeats 40000000 in
theorem other_six (w : World) (a b c : Nat) (d : Value) (m : List UInt8) (hd : Rd w d m) (_ : a ≤ 10000000000) (_ : b ≤ 10000000000) (_ : c ≤ 10000000000) (hm : m.length ≤ 400) :
    Calls Try.prog 7 #[.agg #[.int .i64 6, .int .u64 (a : Int), .int .u64 (b : Int), .int .u64 (c : Int), d]] w fun e w' => ∃ v', e = .returned v' ∧ Buf w w' v' (V 6) := by
  obtain ⟨p, cd, rfl, _⟩ := id hd
  have hG0 : Grow w (w.alloc (.cells #[.int .i64 6, .int .u64 (a : Int), .int .u64 (b : Int), .int .u64 (c : Int), .slice p m.length cd] 33)) := (Fr.refl _ w).alloc _
  have hB0 : Blk (w.alloc (.cells #[.int .i64 6, .int .u64 (a : Int), .int .u64 (b : Int), .int .u64 (c : Int), .slice p m.length cd] 33)) w.heap.size #[.int .i64 6, .int .u64 (a : Int), .int .u64 (b : Int), .int .u64 (c : Int), .slice p m.length cd] 33 := Blk.new w _ _
  have hd0 := hd.keep hG0.bytes
  have hs0 : w.heap.size ≤ (w.alloc (.cells #[.int .i64 6, .int .u64 (a : Int), .int .u64 (b : Int), .int .u64 (c : Int), .slice p m.length cd] 33)).heap.size := hG0.size
  have HF := Lib.hid (fun (W : World) (v : Value) (l : List UInt8) (S : List (Value × List UInt8)) (P : Pack (w.alloc (.cells #[.int .i64 6, .int .u64 (a : Int), .int .u64 (b : Int), .int .u64 (c : Int), .slice p m.length cd] 33)) W v l S) => (show Buf w W v l from ⟨P.own, hG0.trans P.grow, fun k hk => ⟨Nat.le_trans hs0 (P.new k hk).1, (P.new k hk).2⟩⟩))
  go_enter Try.func7, Try.ntmps7
  go_upto_region 1 with fail
  generalize w.alloc (.cells #[.int .i64 6, .int .u64 (a : Int), .int .u64 (b : Int), .int .u64 (c : Int), .slice p m.length cd] 33) = w0 at *
  have x0 : w0.cell? ⟨w.heap.size, 0, none⟩ = some (.int .i64 6) := hB0.cellAt 0 _ rfl
  have hlt := hB0.lt
  have HS : Hid (∀ w', Grow w0 w' → (w'.cell? ⟨w.heap.size, 0, none⟩ = some (.int .i64 6) ∧ w'.cell? ⟨w.heap.size, 1, none⟩ = some (.int .u64 (a : Int)) ∧ w'.cell? ⟨w.heap.size, 2, none⟩ = some (.int .u64 (b : Int)) ∧ w'.cell? ⟨w.heap.size, 3, none⟩ = some (.int .u64 (c : Int)) ∧ w'.cell? ⟨w.heap.size, 4, none⟩ = some (.slice p m.length cd))) := Lib.hid fun w' hG => ⟨(hG.blk hB0 (fun e => e)).cellAt 0 _ rfl, (hG.blk hB0 (fun e => e)).cellAt 1 _ rfl, (hG.blk hB0 (fun e => e)).cellAt 2 _ rfl, (hG.blk hB0 (fun e => e)).cellAt 3 _ rfl, (hG.blk hB0 (fun e => e)).cellAt 4 _ rfl⟩
  have HL : Hid ((V 6).length ≤ 8 ∧ (V a).length ≤ 8 ∧ (V b).length ≤ 8 ∧ (V c).length ≤ 8 ∧ (V m.length).length ≤ 8 ∧ m.length ≤ 400) := Lib.hid ⟨by rw [V_length]; exact (vlen_le _).2, by rw [V_length]; exact (vlen_le _).2, by rw [V_length]; exact (vlen_le _).2, by rw [V_length]; exact (vlen_le _).2, by rw [V_length]; exact (vlen_le _).2, hm⟩
  have HD := Lib.hid hd0
  have hns : w.heap.size < w0.heap.size := hlt
  clear hd hd0 hG0 hB0 hs0
  go_wp2_with fail
  refine (pack_start (Fr.refl _ w0) 6 (by omega) _ rfl).mono ?_
  rintro e W1 ⟨b1, rfl, P1⟩
  have x1 := (HS.out _ P1.grow).1
  have hlt1 := Nat.lt_of_lt_of_le hlt P1.grow.size
  have HP := Lib.hid P1
  clear P1
  go_wp2_with fail
  go_ret
  exact ⟨_, rfl, HF.out _ _ _ _ HP.out⟩
end Go.Proofs.Ytgdkbflhgcchfaa
