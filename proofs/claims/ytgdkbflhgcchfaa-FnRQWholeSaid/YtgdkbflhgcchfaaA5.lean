/- Frames as interface values; PKControl.frame. -/
import Derived.Test.YtgdkbflhgcchfaaA4
namespace Go.Proofs.Ytgdkbflhgcchfaa
open Go.RowKit

set_option maxRecDepth 100000 in
set_option maxHeartbeats 2000000 in
theorem frame_ping (w : World) (d : Value) (m : List UInt8) (hd : Rd w d m) (hm : m.length ≤ 400) :
    Calls Try.prog 25 #[.agg #[.int .i64 1, .int .u64 0, .int .u64 0, .int .u64 0, d]] w fun e w' => ∃ p, e = .returned (.iface 165 (.pointer (some ⟨p, 0, none⟩))) ∧ w.heap.size ≤ p ∧ Grow w w' ∧ Blk w' p #[] 166 := by
  obtain ⟨q, cap, rfl, hdd⟩ : ∃ q cap, d = .slice q m.length cap ∧ Rd w d m := by obtain ⟨q, cap, e, _⟩ := id hd; exact ⟨q, cap, e, hd⟩
  have HD := Lib.hid hdd
  clear hd hdd
  have wz : IntKind.i64.wrap 0 = 0 := by decide
  skip
  go_enter Try.func25, Try.ntmps25
  go_upto_region 1 with fail
  have HK := Lib.hid (Blk.new w #[.int .i64 1, .int .u64 0, .int .u64 0, .int .u64 0, .slice q m.length cap] 33)
  have HG : Grow w (w.alloc (.cells #[.int .i64 1, .int .u64 0, .int .u64 0, .int .u64 0, .slice q m.length cap] 33)) := (Fr.refl _ _).alloc _
  generalize w.alloc (.cells #[.int .i64 1, .int .u64 0, .int .u64 0, .int .u64 0, .slice q m.length cap] 33) = w1 at *
  have HS : Hid (∀ w', Grow w1 w' → w'.cell? ⟨w.heap.size, 1, none⟩ = some (.int .u64 0) ∧ w'.cell? ⟨w.heap.size, 4, none⟩ = some (.slice q m.length cap)) := Lib.hid (fun w' hg => ⟨(hg.cell HK.out.lt).trans (HK.out.cellAt 1 _ rfl), (hg.cell HK.out.lt).trans (HK.out.cellAt 4 _ rfl)⟩)
  go_region_held3 (fun w' => w'.cell? ⟨w.heap.size, 1, none⟩ = some (.int .u64 0) ∧ w'.cell? ⟨w.heap.size, 4, none⟩ = some (.slice q m.length cap))
    (first | exact HS.out _ (by repeat (first | exact Fr.refl _ _ | assumption | apply Fr.drew | apply Fr.alloc | refine Fr.trans ?_ (by assumption))))
    (first | (refine step_appendB2 (by go_simp) _ _ (by rfl) (.slice none 0 0) _ [] m (Own.nil _ 5 1) (HD.out.keep (Grow.bytes (HG.trans (by repeat (first | exact Fr.refl _ _ | assumption | apply Fr.drew | apply Fr.alloc | refine Fr.trans ?_ (by assumption)))))) (by simp only [List.length_nil]; omega) (by rfl) (by rfl) ?_; intro v3 w3 hO3 hF3 hf3; have hG3 : Grow w1 w3 := Grow.trans' (by repeat (first | exact Fr.refl _ _ | assumption | apply Fr.drew | apply Fr.alloc | refine Fr.trans ?_ (by assumption))) hF3 (fun k hk => nomatch hk)))
  have hB3 := hG3.blk HK.out (fun e => e)
  have k0 : w3.cell? ⟨w.heap.size, 0, none⟩ = some (.int .i64 1) := hB3.cellAt 0 _ rfl
  have k1 : w3.cell? ⟨w.heap.size, 1, none⟩ = some (.int .u64 0) := hB3.cellAt 1 _ rfl
  have k2 : w3.cell? ⟨w.heap.size, 2, none⟩ = some (.int .u64 0) := hB3.cellAt 2 _ rfl
  have k3 : w3.cell? ⟨w.heap.size, 3, none⟩ = some (.int .u64 0) := hB3.cellAt 3 _ rfl
  have HG3 := Lib.hid (HG.trans hG3)
  obtain ⟨p3, c3, rfl, hO3⟩ := hO3.int (n := m.length) rfl
  have HO3 : Hid (OwnB w3 (.slice p3 m.length c3) m) := Lib.hid hO3
  clear hB3 HS HK hG3 hO3 hF3 hf3 HG HD
  go_wp2_with fail
  have hsz := HG3.out.size
  refine bodyPost_ret (by simp [results, Try.results25, go_sem]; rfl) rfl ?_
  refine ⟨w3.heap.size, rfl, hsz, HG3.out.alloc _, ?_⟩
  first | exact Blk.new w3 _ _ | exact ⟨_, HO3.out.rd.keep (Grow.bytes ((Fr.refl _ _).alloc _)), Blk.new w3 _ _⟩

set_option maxRecDepth 100000 in
set_option maxHeartbeats 2000000 in
theorem frame_done (w : World) (d : Value) (m : List UInt8) (hd : Rd w d m) (hm : m.length ≤ 400) :
    Calls Try.prog 25 #[.agg #[.int .i64 30, .int .u64 0, .int .u64 0, .int .u64 0, d]] w fun e w' => ∃ p, e = .returned (.iface 162 (.pointer (some ⟨p, 0, none⟩))) ∧ w.heap.size ≤ p ∧ Grow w w' ∧ Blk w' p #[] 164 := by
  obtain ⟨q, cap, rfl, hdd⟩ : ∃ q cap, d = .slice q m.length cap ∧ Rd w d m := by obtain ⟨q, cap, e, _⟩ := id hd; exact ⟨q, cap, e, hd⟩
  have HD := Lib.hid hdd
  clear hd hdd
  have wz : IntKind.i64.wrap 0 = 0 := by decide
  skip
  go_enter Try.func25, Try.ntmps25
  go_upto_region 1 with fail
  have HK := Lib.hid (Blk.new w #[.int .i64 30, .int .u64 0, .int .u64 0, .int .u64 0, .slice q m.length cap] 33)
  have HG : Grow w (w.alloc (.cells #[.int .i64 30, .int .u64 0, .int .u64 0, .int .u64 0, .slice q m.length cap] 33)) := (Fr.refl _ _).alloc _
  generalize w.alloc (.cells #[.int .i64 30, .int .u64 0, .int .u64 0, .int .u64 0, .slice q m.length cap] 33) = w1 at *
  have HS : Hid (∀ w', Grow w1 w' → w'.cell? ⟨w.heap.size, 1, none⟩ = some (.int .u64 0) ∧ w'.cell? ⟨w.heap.size, 4, none⟩ = some (.slice q m.length cap)) := Lib.hid (fun w' hg => ⟨(hg.cell HK.out.lt).trans (HK.out.cellAt 1 _ rfl), (hg.cell HK.out.lt).trans (HK.out.cellAt 4 _ rfl)⟩)
  go_region_held3 (fun w' => w'.cell? ⟨w.heap.size, 1, none⟩ = some (.int .u64 0) ∧ w'.cell? ⟨w.heap.size, 4, none⟩ = some (.slice q m.length cap))
    (first | exact HS.out _ (by repeat (first | exact Fr.refl _ _ | assumption | apply Fr.drew | apply Fr.alloc | refine Fr.trans ?_ (by assumption))))
    (first | (refine step_appendB2 (by go_simp) _ _ (by rfl) (.slice none 0 0) _ [] m (Own.nil _ 5 1) (HD.out.keep (Grow.bytes (HG.trans (by repeat (first | exact Fr.refl _ _ | assumption | apply Fr.drew | apply Fr.alloc | refine Fr.trans ?_ (by assumption)))))) (by simp only [List.length_nil]; omega) (by rfl) (by rfl) ?_; intro v3 w3 hO3 hF3 hf3; have hG3 : Grow w1 w3 := Grow.trans' (by repeat (first | exact Fr.refl _ _ | assumption | apply Fr.drew | apply Fr.alloc | refine Fr.trans ?_ (by assumption))) hF3 (fun k hk => nomatch hk)))
  have hB3 := hG3.blk HK.out (fun e => e)
  have k0 : w3.cell? ⟨w.heap.size, 0, none⟩ = some (.int .i64 30) := hB3.cellAt 0 _ rfl
  have k1 : w3.cell? ⟨w.heap.size, 1, none⟩ = some (.int .u64 0) := hB3.cellAt 1 _ rfl
  have k2 : w3.cell? ⟨w.heap.size, 2, none⟩ = some (.int .u64 0) := hB3.cellAt 2 _ rfl
  have k3 : w3.cell? ⟨w.heap.size, 3, none⟩ = some (.int .u64 0) := hB3.cellAt 3 _ rfl
  have HG3 := Lib.hid (HG.trans hG3)
  obtain ⟨p3, c3, rfl, hO3⟩ := hO3.int (n := m.length) rfl
  have HO3 : Hid (OwnB w3 (.slice p3 m.length c3) m) := Lib.hid hO3
  clear hB3 HS HK hG3 hO3 hF3 hf3 HG HD
  go_wp2_with fail
  have hsz := HG3.out.size
  refine bodyPost_ret (by simp [results, Try.results25, go_sem]; rfl) rfl ?_
  refine ⟨w3.heap.size, rfl, hsz, HG3.out.alloc _, ?_⟩
  first | exact Blk.new w3 _ _ | exact ⟨_, HO3.out.rd.keep (Grow.bytes ((Fr.refl _ _).alloc _)), Blk.new w3 _ _⟩

set_option maxRecDepth 100000 in
set_option maxHeartbeats 2000000 in
theorem frame_reset (w : World) (a b : Nat) (d : Value) (m : List UInt8) (hd : Rd w d m) (hm : m.length ≤ 400) (ha : a ≤ 10000000000) :
    Calls Try.prog 25 #[.agg #[.int .i64 4, .int .u64 (a : Int), .int .u64 (b : Int), .int .u64 (a : Int), d]] w fun e w' => ∃ p, e = .returned (.iface 112 (.pointer (some ⟨p, 0, none⟩))) ∧ w.heap.size ≤ p ∧ Grow w w' ∧ Blk w' p #[.int .i64 (a : Int), .int .u64 (b : Int), .int .i64 (a : Int), .int .i64 0] 116 := by
  obtain ⟨q, cap, rfl, hdd⟩ : ∃ q cap, d = .slice q m.length cap ∧ Rd w d m := by obtain ⟨q, cap, e, _⟩ := id hd; exact ⟨q, cap, e, hd⟩
  have HD := Lib.hid hdd
  clear hd hdd
  have wz : IntKind.i64.wrap (a : Int) = (a : Int) := IntWalk.i64_in _ (by omega)
  skip
  go_enter Try.func25, Try.ntmps25
  go_upto_region 1 with fail
  have HK := Lib.hid (Blk.new w #[.int .i64 4, .int .u64 (a : Int), .int .u64 (b : Int), .int .u64 (a : Int), .slice q m.length cap] 33)
  have HG : Grow w (w.alloc (.cells #[.int .i64 4, .int .u64 (a : Int), .int .u64 (b : Int), .int .u64 (a : Int), .slice q m.length cap] 33)) := (Fr.refl _ _).alloc _
  generalize w.alloc (.cells #[.int .i64 4, .int .u64 (a : Int), .int .u64 (b : Int), .int .u64 (a : Int), .slice q m.length cap] 33) = w1 at *
  have HS : Hid (∀ w', Grow w1 w' → w'.cell? ⟨w.heap.size, 1, none⟩ = some (.int .u64 (a : Int)) ∧ w'.cell? ⟨w.heap.size, 4, none⟩ = some (.slice q m.length cap)) := Lib.hid (fun w' hg => ⟨(hg.cell HK.out.lt).trans (HK.out.cellAt 1 _ rfl), (hg.cell HK.out.lt).trans (HK.out.cellAt 4 _ rfl)⟩)
  go_region_held3 (fun w' => w'.cell? ⟨w.heap.size, 1, none⟩ = some (.int .u64 (a : Int)) ∧ w'.cell? ⟨w.heap.size, 4, none⟩ = some (.slice q m.length cap))
    (first | exact HS.out _ (by repeat (first | exact Fr.refl _ _ | assumption | apply Fr.drew | apply Fr.alloc | refine Fr.trans ?_ (by assumption))))
    (first | (refine step_appendB2 (by go_simp) _ _ (by rfl) (.slice none 0 0) _ [] m (Own.nil _ 5 1) (HD.out.keep (Grow.bytes (HG.trans (by repeat (first | exact Fr.refl _ _ | assumption | apply Fr.drew | apply Fr.alloc | refine Fr.trans ?_ (by assumption)))))) (by simp only [List.length_nil]; omega) (by rfl) (by rfl) ?_; intro v3 w3 hO3 hF3 hf3; have hG3 : Grow w1 w3 := Grow.trans' (by repeat (first | exact Fr.refl _ _ | assumption | apply Fr.drew | apply Fr.alloc | refine Fr.trans ?_ (by assumption))) hF3 (fun k hk => nomatch hk)))
  have hB3 := hG3.blk HK.out (fun e => e)
  have k0 : w3.cell? ⟨w.heap.size, 0, none⟩ = some (.int .i64 4) := hB3.cellAt 0 _ rfl
  have k1 : w3.cell? ⟨w.heap.size, 1, none⟩ = some (.int .u64 (a : Int)) := hB3.cellAt 1 _ rfl
  have k2 : w3.cell? ⟨w.heap.size, 2, none⟩ = some (.int .u64 (b : Int)) := hB3.cellAt 2 _ rfl
  have k3 : w3.cell? ⟨w.heap.size, 3, none⟩ = some (.int .u64 (a : Int)) := hB3.cellAt 3 _ rfl
  have HG3 := Lib.hid (HG.trans hG3)
  obtain ⟨p3, c3, rfl, hO3⟩ := hO3.int (n := m.length) rfl
  have HO3 : Hid (OwnB w3 (.slice p3 m.length c3) m) := Lib.hid hO3
  clear hB3 HS HK hG3 hO3 hF3 hf3 HG HD
  go_wp2_with fail
  have hsz := HG3.out.size
  refine bodyPost_ret (by simp [results, Try.results25, go_sem]; rfl) rfl ?_
  refine ⟨w3.heap.size, rfl, hsz, HG3.out.alloc _, ?_⟩
  first | exact Blk.new w3 _ _ | exact ⟨_, HO3.out.rd.keep (Grow.bytes ((Fr.refl _ _).alloc _)), Blk.new w3 _ _⟩

set_option maxRecDepth 100000 in
set_option maxHeartbeats 2000000 in
theorem frame_stop (w : World) (a b : Nat) (d : Value) (m : List UInt8) (hd : Rd w d m) (hm : m.length ≤ 400) (ha : a ≤ 10000000000) :
    Calls Try.prog 25 #[.agg #[.int .i64 5, .int .u64 (a : Int), .int .u64 (b : Int), .int .u64 0, d]] w fun e w' => ∃ p, e = .returned (.iface 117 (.pointer (some ⟨p, 0, none⟩))) ∧ w.heap.size ≤ p ∧ Grow w w' ∧ Blk w' p #[.int .i64 (a : Int), .int .u64 (b : Int)] 119 := by
  obtain ⟨q, cap, rfl, hdd⟩ : ∃ q cap, d = .slice q m.length cap ∧ Rd w d m := by obtain ⟨q, cap, e, _⟩ := id hd; exact ⟨q, cap, e, hd⟩
  have HD := Lib.hid hdd
  clear hd hdd
  have wz : IntKind.i64.wrap (a : Int) = (a : Int) := IntWalk.i64_in _ (by omega)
  skip
  go_enter Try.func25, Try.ntmps25
  go_upto_region 1 with fail
  have HK := Lib.hid (Blk.new w #[.int .i64 5, .int .u64 (a : Int), .int .u64 (b : Int), .int .u64 0, .slice q m.length cap] 33)
  have HG : Grow w (w.alloc (.cells #[.int .i64 5, .int .u64 (a : Int), .int .u64 (b : Int), .int .u64 0, .slice q m.length cap] 33)) := (Fr.refl _ _).alloc _
  generalize w.alloc (.cells #[.int .i64 5, .int .u64 (a : Int), .int .u64 (b : Int), .int .u64 0, .slice q m.length cap] 33) = w1 at *
  have HS : Hid (∀ w', Grow w1 w' → w'.cell? ⟨w.heap.size, 1, none⟩ = some (.int .u64 (a : Int)) ∧ w'.cell? ⟨w.heap.size, 4, none⟩ = some (.slice q m.length cap)) := Lib.hid (fun w' hg => ⟨(hg.cell HK.out.lt).trans (HK.out.cellAt 1 _ rfl), (hg.cell HK.out.lt).trans (HK.out.cellAt 4 _ rfl)⟩)
  go_region_held3 (fun w' => w'.cell? ⟨w.heap.size, 1, none⟩ = some (.int .u64 (a : Int)) ∧ w'.cell? ⟨w.heap.size, 4, none⟩ = some (.slice q m.length cap))
    (first | exact HS.out _ (by repeat (first | exact Fr.refl _ _ | assumption | apply Fr.drew | apply Fr.alloc | refine Fr.trans ?_ (by assumption))))
    (first | (refine step_appendB2 (by go_simp) _ _ (by rfl) (.slice none 0 0) _ [] m (Own.nil _ 5 1) (HD.out.keep (Grow.bytes (HG.trans (by repeat (first | exact Fr.refl _ _ | assumption | apply Fr.drew | apply Fr.alloc | refine Fr.trans ?_ (by assumption)))))) (by simp only [List.length_nil]; omega) (by rfl) (by rfl) ?_; intro v3 w3 hO3 hF3 hf3; have hG3 : Grow w1 w3 := Grow.trans' (by repeat (first | exact Fr.refl _ _ | assumption | apply Fr.drew | apply Fr.alloc | refine Fr.trans ?_ (by assumption))) hF3 (fun k hk => nomatch hk)))
  have hB3 := hG3.blk HK.out (fun e => e)
  have k0 : w3.cell? ⟨w.heap.size, 0, none⟩ = some (.int .i64 5) := hB3.cellAt 0 _ rfl
  have k1 : w3.cell? ⟨w.heap.size, 1, none⟩ = some (.int .u64 (a : Int)) := hB3.cellAt 1 _ rfl
  have k2 : w3.cell? ⟨w.heap.size, 2, none⟩ = some (.int .u64 (b : Int)) := hB3.cellAt 2 _ rfl
  have k3 : w3.cell? ⟨w.heap.size, 3, none⟩ = some (.int .u64 0) := hB3.cellAt 3 _ rfl
  have HG3 := Lib.hid (HG.trans hG3)
  obtain ⟨p3, c3, rfl, hO3⟩ := hO3.int (n := m.length) rfl
  have HO3 : Hid (OwnB w3 (.slice p3 m.length c3) m) := Lib.hid hO3
  clear hB3 HS HK hG3 hO3 hF3 hf3 HG HD
  go_wp2_with fail
  have hsz := HG3.out.size
  refine bodyPost_ret (by simp [results, Try.results25, go_sem]; rfl) rfl ?_
  refine ⟨w3.heap.size, rfl, hsz, HG3.out.alloc _, ?_⟩
  first | exact Blk.new w3 _ _ | exact ⟨_, HO3.out.rd.keep (Grow.bytes ((Fr.refl _ _).alloc _)), Blk.new w3 _ _⟩

set_option maxRecDepth 100000 in
set_option maxHeartbeats 2000000 in
theorem frame_maxStream (w : World) (a b : Nat) (d : Value) (m : List UInt8) (hd : Rd w d m) (hm : m.length ≤ 400) (ha : a ≤ 10000000000) (hb : b ≤ 10000000000) :
    Calls Try.prog 25 #[.agg #[.int .i64 17, .int .u64 (a : Int), .int .u64 (b : Int), .int .u64 0, d]] w fun e w' => ∃ p, e = .returned (.iface 129 (.pointer (some ⟨p, 0, none⟩))) ∧ w.heap.size ≤ p ∧ Grow w w' ∧ Blk w' p #[.int .i64 (a : Int), .int .i64 (b : Int)] 131 := by
  obtain ⟨q, cap, rfl, hdd⟩ : ∃ q cap, d = .slice q m.length cap ∧ Rd w d m := by obtain ⟨q, cap, e, _⟩ := id hd; exact ⟨q, cap, e, hd⟩
  have HD := Lib.hid hdd
  clear hd hdd
  have wz : IntKind.i64.wrap (a : Int) = (a : Int) := IntWalk.i64_in _ (by omega)
  have wy : IntKind.i64.wrap (b : Int) = (b : Int) := IntWalk.i64_in _ (by omega)
  go_enter Try.func25, Try.ntmps25
  go_upto_region 1 with fail
  have HK := Lib.hid (Blk.new w #[.int .i64 17, .int .u64 (a : Int), .int .u64 (b : Int), .int .u64 0, .slice q m.length cap] 33)
  have HG : Grow w (w.alloc (.cells #[.int .i64 17, .int .u64 (a : Int), .int .u64 (b : Int), .int .u64 0, .slice q m.length cap] 33)) := (Fr.refl _ _).alloc _
  generalize w.alloc (.cells #[.int .i64 17, .int .u64 (a : Int), .int .u64 (b : Int), .int .u64 0, .slice q m.length cap] 33) = w1 at *
  have HS : Hid (∀ w', Grow w1 w' → w'.cell? ⟨w.heap.size, 1, none⟩ = some (.int .u64 (a : Int)) ∧ w'.cell? ⟨w.heap.size, 4, none⟩ = some (.slice q m.length cap)) := Lib.hid (fun w' hg => ⟨(hg.cell HK.out.lt).trans (HK.out.cellAt 1 _ rfl), (hg.cell HK.out.lt).trans (HK.out.cellAt 4 _ rfl)⟩)
  go_region_held3 (fun w' => w'.cell? ⟨w.heap.size, 1, none⟩ = some (.int .u64 (a : Int)) ∧ w'.cell? ⟨w.heap.size, 4, none⟩ = some (.slice q m.length cap))
    (first | exact HS.out _ (by repeat (first | exact Fr.refl _ _ | assumption | apply Fr.drew | apply Fr.alloc | refine Fr.trans ?_ (by assumption))))
    (first | (refine step_appendB2 (by go_simp) _ _ (by rfl) (.slice none 0 0) _ [] m (Own.nil _ 5 1) (HD.out.keep (Grow.bytes (HG.trans (by repeat (first | exact Fr.refl _ _ | assumption | apply Fr.drew | apply Fr.alloc | refine Fr.trans ?_ (by assumption)))))) (by simp only [List.length_nil]; omega) (by rfl) (by rfl) ?_; intro v3 w3 hO3 hF3 hf3; have hG3 : Grow w1 w3 := Grow.trans' (by repeat (first | exact Fr.refl _ _ | assumption | apply Fr.drew | apply Fr.alloc | refine Fr.trans ?_ (by assumption))) hF3 (fun k hk => nomatch hk)))
  have hB3 := hG3.blk HK.out (fun e => e)
  have k0 : w3.cell? ⟨w.heap.size, 0, none⟩ = some (.int .i64 17) := hB3.cellAt 0 _ rfl
  have k1 : w3.cell? ⟨w.heap.size, 1, none⟩ = some (.int .u64 (a : Int)) := hB3.cellAt 1 _ rfl
  have k2 : w3.cell? ⟨w.heap.size, 2, none⟩ = some (.int .u64 (b : Int)) := hB3.cellAt 2 _ rfl
  have k3 : w3.cell? ⟨w.heap.size, 3, none⟩ = some (.int .u64 0) := hB3.cellAt 3 _ rfl
  have HG3 := Lib.hid (HG.trans hG3)
  obtain ⟨p3, c3, rfl, hO3⟩ := hO3.int (n := m.length) rfl
  have HO3 : Hid (OwnB w3 (.slice p3 m.length c3) m) := Lib.hid hO3
  clear hB3 HS HK hG3 hO3 hF3 hf3 HG HD
  go_wp2_with fail
  have hsz := HG3.out.size
  refine bodyPost_ret (by simp [results, Try.results25, go_sem]; rfl) rfl ?_
  refine ⟨w3.heap.size, rfl, hsz, HG3.out.alloc _, ?_⟩
  first | exact Blk.new w3 _ _ | exact ⟨_, HO3.out.rd.keep (Grow.bytes ((Fr.refl _ _).alloc _)), Blk.new w3 _ _⟩

set_option maxRecDepth 100000 in
set_option maxHeartbeats 2000000 in
theorem frame_maxData (w : World) (a : Nat) (d : Value) (m : List UInt8) (hd : Rd w d m) (hm : m.length ≤ 400) (ha : a ≤ 10000000000) :
    Calls Try.prog 25 #[.agg #[.int .i64 16, .int .u64 (a : Int), .int .u64 0, .int .u64 0, d]] w fun e w' => ∃ p, e = .returned (.iface 126 (.pointer (some ⟨p, 0, none⟩))) ∧ w.heap.size ≤ p ∧ Grow w w' ∧ Blk w' p #[.int .i64 (a : Int)] 128 := by
  obtain ⟨q, cap, rfl, hdd⟩ : ∃ q cap, d = .slice q m.length cap ∧ Rd w d m := by obtain ⟨q, cap, e, _⟩ := id hd; exact ⟨q, cap, e, hd⟩
  have HD := Lib.hid hdd
  clear hd hdd
  have wz : IntKind.i64.wrap (a : Int) = (a : Int) := IntWalk.i64_in _ (by omega)
  skip
  go_enter Try.func25, Try.ntmps25
  go_upto_region 1 with fail
  have HK := Lib.hid (Blk.new w #[.int .i64 16, .int .u64 (a : Int), .int .u64 0, .int .u64 0, .slice q m.length cap] 33)
  have HG : Grow w (w.alloc (.cells #[.int .i64 16, .int .u64 (a : Int), .int .u64 0, .int .u64 0, .slice q m.length cap] 33)) := (Fr.refl _ _).alloc _
  generalize w.alloc (.cells #[.int .i64 16, .int .u64 (a : Int), .int .u64 0, .int .u64 0, .slice q m.length cap] 33) = w1 at *
  have HS : Hid (∀ w', Grow w1 w' → w'.cell? ⟨w.heap.size, 1, none⟩ = some (.int .u64 (a : Int)) ∧ w'.cell? ⟨w.heap.size, 4, none⟩ = some (.slice q m.length cap)) := Lib.hid (fun w' hg => ⟨(hg.cell HK.out.lt).trans (HK.out.cellAt 1 _ rfl), (hg.cell HK.out.lt).trans (HK.out.cellAt 4 _ rfl)⟩)
  go_region_held3 (fun w' => w'.cell? ⟨w.heap.size, 1, none⟩ = some (.int .u64 (a : Int)) ∧ w'.cell? ⟨w.heap.size, 4, none⟩ = some (.slice q m.length cap))
    (first | exact HS.out _ (by repeat (first | exact Fr.refl _ _ | assumption | apply Fr.drew | apply Fr.alloc | refine Fr.trans ?_ (by assumption))))
    (first | (refine step_appendB2 (by go_simp) _ _ (by rfl) (.slice none 0 0) _ [] m (Own.nil _ 5 1) (HD.out.keep (Grow.bytes (HG.trans (by repeat (first | exact Fr.refl _ _ | assumption | apply Fr.drew | apply Fr.alloc | refine Fr.trans ?_ (by assumption)))))) (by simp only [List.length_nil]; omega) (by rfl) (by rfl) ?_; intro v3 w3 hO3 hF3 hf3; have hG3 : Grow w1 w3 := Grow.trans' (by repeat (first | exact Fr.refl _ _ | assumption | apply Fr.drew | apply Fr.alloc | refine Fr.trans ?_ (by assumption))) hF3 (fun k hk => nomatch hk)))
  have hB3 := hG3.blk HK.out (fun e => e)
  have k0 : w3.cell? ⟨w.heap.size, 0, none⟩ = some (.int .i64 16) := hB3.cellAt 0 _ rfl
  have k1 : w3.cell? ⟨w.heap.size, 1, none⟩ = some (.int .u64 (a : Int)) := hB3.cellAt 1 _ rfl
  have k2 : w3.cell? ⟨w.heap.size, 2, none⟩ = some (.int .u64 0) := hB3.cellAt 2 _ rfl
  have k3 : w3.cell? ⟨w.heap.size, 3, none⟩ = some (.int .u64 0) := hB3.cellAt 3 _ rfl
  have HG3 := Lib.hid (HG.trans hG3)
  obtain ⟨p3, c3, rfl, hO3⟩ := hO3.int (n := m.length) rfl
  have HO3 : Hid (OwnB w3 (.slice p3 m.length c3) m) := Lib.hid hO3
  clear hB3 HS HK hG3 hO3 hF3 hf3 HG HD
  go_wp2_with fail
  have hsz := HG3.out.size
  refine bodyPost_ret (by simp [results, Try.results25, go_sem]; rfl) rfl ?_
  refine ⟨w3.heap.size, rfl, hsz, HG3.out.alloc _, ?_⟩
  first | exact Blk.new w3 _ _ | exact ⟨_, HO3.out.rd.keep (Grow.bytes ((Fr.refl _ _).alloc _)), Blk.new w3 _ _⟩

set_option maxRecDepth 100000 in
set_option maxHeartbeats 2000000 in
theorem frame_maxStreams (w : World) (a : Nat) (d : Value) (m : List UInt8) (hd : Rd w d m) (hm : m.length ≤ 400) (ha : a ≤ 10000000000) :
    Calls Try.prog 25 #[.agg #[.int .i64 18, .int .u64 (a : Int), .int .u64 0, .int .u64 0, d]] w fun e w' => ∃ p, e = .returned (.iface 132 (.pointer (some ⟨p, 0, none⟩))) ∧ w.heap.size ≤ p ∧ Grow w w' ∧ Blk w' p #[.int .u8 1, .int .i64 (a : Int)] 135 := by
  obtain ⟨q, cap, rfl, hdd⟩ : ∃ q cap, d = .slice q m.length cap ∧ Rd w d m := by obtain ⟨q, cap, e, _⟩ := id hd; exact ⟨q, cap, e, hd⟩
  have HD := Lib.hid hdd
  clear hd hdd
  have wz : IntKind.i64.wrap (a : Int) = (a : Int) := IntWalk.i64_in _ (by omega)
  skip
  go_enter Try.func25, Try.ntmps25
  go_upto_region 1 with fail
  have HK := Lib.hid (Blk.new w #[.int .i64 18, .int .u64 (a : Int), .int .u64 0, .int .u64 0, .slice q m.length cap] 33)
  have HG : Grow w (w.alloc (.cells #[.int .i64 18, .int .u64 (a : Int), .int .u64 0, .int .u64 0, .slice q m.length cap] 33)) := (Fr.refl _ _).alloc _
  generalize w.alloc (.cells #[.int .i64 18, .int .u64 (a : Int), .int .u64 0, .int .u64 0, .slice q m.length cap] 33) = w1 at *
  have HS : Hid (∀ w', Grow w1 w' → w'.cell? ⟨w.heap.size, 1, none⟩ = some (.int .u64 (a : Int)) ∧ w'.cell? ⟨w.heap.size, 4, none⟩ = some (.slice q m.length cap)) := Lib.hid (fun w' hg => ⟨(hg.cell HK.out.lt).trans (HK.out.cellAt 1 _ rfl), (hg.cell HK.out.lt).trans (HK.out.cellAt 4 _ rfl)⟩)
  go_region_held3 (fun w' => w'.cell? ⟨w.heap.size, 1, none⟩ = some (.int .u64 (a : Int)) ∧ w'.cell? ⟨w.heap.size, 4, none⟩ = some (.slice q m.length cap))
    (first | exact HS.out _ (by repeat (first | exact Fr.refl _ _ | assumption | apply Fr.drew | apply Fr.alloc | refine Fr.trans ?_ (by assumption))))
    (first | (refine step_appendB2 (by go_simp) _ _ (by rfl) (.slice none 0 0) _ [] m (Own.nil _ 5 1) (HD.out.keep (Grow.bytes (HG.trans (by repeat (first | exact Fr.refl _ _ | assumption | apply Fr.drew | apply Fr.alloc | refine Fr.trans ?_ (by assumption)))))) (by simp only [List.length_nil]; omega) (by rfl) (by rfl) ?_; intro v3 w3 hO3 hF3 hf3; have hG3 : Grow w1 w3 := Grow.trans' (by repeat (first | exact Fr.refl _ _ | assumption | apply Fr.drew | apply Fr.alloc | refine Fr.trans ?_ (by assumption))) hF3 (fun k hk => nomatch hk)))
  have hB3 := hG3.blk HK.out (fun e => e)
  have k0 : w3.cell? ⟨w.heap.size, 0, none⟩ = some (.int .i64 18) := hB3.cellAt 0 _ rfl
  have k1 : w3.cell? ⟨w.heap.size, 1, none⟩ = some (.int .u64 (a : Int)) := hB3.cellAt 1 _ rfl
  have k2 : w3.cell? ⟨w.heap.size, 2, none⟩ = some (.int .u64 0) := hB3.cellAt 2 _ rfl
  have k3 : w3.cell? ⟨w.heap.size, 3, none⟩ = some (.int .u64 0) := hB3.cellAt 3 _ rfl
  have HG3 := Lib.hid (HG.trans hG3)
  obtain ⟨p3, c3, rfl, hO3⟩ := hO3.int (n := m.length) rfl
  have HO3 : Hid (OwnB w3 (.slice p3 m.length c3) m) := Lib.hid hO3
  clear hB3 HS HK hG3 hO3 hF3 hf3 HG HD
  go_wp2_with fail
  have hsz := HG3.out.size
  refine bodyPost_ret (by simp [results, Try.results25, go_sem]; rfl) rfl ?_
  refine ⟨w3.heap.size, rfl, hsz, HG3.out.alloc _, ?_⟩
  first | exact Blk.new w3 _ _ | exact ⟨_, HO3.out.rd.keep (Grow.bytes ((Fr.refl _ _).alloc _)), Blk.new w3 _ _⟩

set_option maxRecDepth 100000 in
set_option maxHeartbeats 2000000 in
theorem frame_retire (w : World) (a : Nat) (d : Value) (m : List UInt8) (hd : Rd w d m) (hm : m.length ≤ 400) (ha : a ≤ 10000000000) :
    Calls Try.prog 25 #[.agg #[.int .i64 25, .int .u64 (a : Int), .int .u64 0, .int .u64 0, d]] w fun e w' => ∃ p, e = .returned (.iface 152 (.pointer (some ⟨p, 0, none⟩))) ∧ w.heap.size ≤ p ∧ Grow w w' ∧ Blk w' p #[.int .u64 (a : Int)] 154 := by
  obtain ⟨q, cap, rfl, hdd⟩ : ∃ q cap, d = .slice q m.length cap ∧ Rd w d m := by obtain ⟨q, cap, e, _⟩ := id hd; exact ⟨q, cap, e, hd⟩
  have HD := Lib.hid hdd
  clear hd hdd
  have wz : IntKind.i64.wrap (a : Int) = (a : Int) := IntWalk.i64_in _ (by omega)
  skip
  go_enter Try.func25, Try.ntmps25
  go_upto_region 1 with fail
  have HK := Lib.hid (Blk.new w #[.int .i64 25, .int .u64 (a : Int), .int .u64 0, .int .u64 0, .slice q m.length cap] 33)
  have HG : Grow w (w.alloc (.cells #[.int .i64 25, .int .u64 (a : Int), .int .u64 0, .int .u64 0, .slice q m.length cap] 33)) := (Fr.refl _ _).alloc _
  generalize w.alloc (.cells #[.int .i64 25, .int .u64 (a : Int), .int .u64 0, .int .u64 0, .slice q m.length cap] 33) = w1 at *
  have HS : Hid (∀ w', Grow w1 w' → w'.cell? ⟨w.heap.size, 1, none⟩ = some (.int .u64 (a : Int)) ∧ w'.cell? ⟨w.heap.size, 4, none⟩ = some (.slice q m.length cap)) := Lib.hid (fun w' hg => ⟨(hg.cell HK.out.lt).trans (HK.out.cellAt 1 _ rfl), (hg.cell HK.out.lt).trans (HK.out.cellAt 4 _ rfl)⟩)
  go_region_held3 (fun w' => w'.cell? ⟨w.heap.size, 1, none⟩ = some (.int .u64 (a : Int)) ∧ w'.cell? ⟨w.heap.size, 4, none⟩ = some (.slice q m.length cap))
    (first | exact HS.out _ (by repeat (first | exact Fr.refl _ _ | assumption | apply Fr.drew | apply Fr.alloc | refine Fr.trans ?_ (by assumption))))
    (first | (refine step_appendB2 (by go_simp) _ _ (by rfl) (.slice none 0 0) _ [] m (Own.nil _ 5 1) (HD.out.keep (Grow.bytes (HG.trans (by repeat (first | exact Fr.refl _ _ | assumption | apply Fr.drew | apply Fr.alloc | refine Fr.trans ?_ (by assumption)))))) (by simp only [List.length_nil]; omega) (by rfl) (by rfl) ?_; intro v3 w3 hO3 hF3 hf3; have hG3 : Grow w1 w3 := Grow.trans' (by repeat (first | exact Fr.refl _ _ | assumption | apply Fr.drew | apply Fr.alloc | refine Fr.trans ?_ (by assumption))) hF3 (fun k hk => nomatch hk)))
  have hB3 := hG3.blk HK.out (fun e => e)
  have k0 : w3.cell? ⟨w.heap.size, 0, none⟩ = some (.int .i64 25) := hB3.cellAt 0 _ rfl
  have k1 : w3.cell? ⟨w.heap.size, 1, none⟩ = some (.int .u64 (a : Int)) := hB3.cellAt 1 _ rfl
  have k2 : w3.cell? ⟨w.heap.size, 2, none⟩ = some (.int .u64 0) := hB3.cellAt 2 _ rfl
  have k3 : w3.cell? ⟨w.heap.size, 3, none⟩ = some (.int .u64 0) := hB3.cellAt 3 _ rfl
  have HG3 := Lib.hid (HG.trans hG3)
  obtain ⟨p3, c3, rfl, hO3⟩ := hO3.int (n := m.length) rfl
  have HO3 : Hid (OwnB w3 (.slice p3 m.length c3) m) := Lib.hid hO3
  clear hB3 HS HK hG3 hO3 hF3 hf3 HG HD
  go_wp2_with fail
  have hsz := HG3.out.size
  refine bodyPost_ret (by simp [results, Try.results25, go_sem]; rfl) rfl ?_
  refine ⟨w3.heap.size, rfl, hsz, HG3.out.alloc _, ?_⟩
  first | exact Blk.new w3 _ _ | exact ⟨_, HO3.out.rd.keep (Grow.bytes ((Fr.refl _ _).alloc _)), Blk.new w3 _ _⟩

set_option maxRecDepth 100000 in
set_option maxHeartbeats 2000000 in
theorem frame_token (w : World) (d : Value) (m : List UInt8) (hd : Rd w d m) (hm : m.length ≤ 400) :
    Calls Try.prog 25 #[.agg #[.int .i64 7, .int .u64 0, .int .u64 0, .int .u64 0, d]] w fun e w' => ∃ p, e = .returned (.iface 123 (.pointer (some ⟨p, 0, none⟩))) ∧ w.heap.size ≤ p ∧ Grow w w' ∧ ∃ dv, Rd w' dv m ∧ Blk w' p #[dv] 125 := by
  obtain ⟨q, cap, rfl, hdd⟩ : ∃ q cap, d = .slice q m.length cap ∧ Rd w d m := by obtain ⟨q, cap, e, _⟩ := id hd; exact ⟨q, cap, e, hd⟩
  have HD := Lib.hid hdd
  clear hd hdd
  have wz : IntKind.i64.wrap 0 = 0 := by decide
  skip
  go_enter Try.func25, Try.ntmps25
  go_upto_region 1 with fail
  have HK := Lib.hid (Blk.new w #[.int .i64 7, .int .u64 0, .int .u64 0, .int .u64 0, .slice q m.length cap] 33)
  have HG : Grow w (w.alloc (.cells #[.int .i64 7, .int .u64 0, .int .u64 0, .int .u64 0, .slice q m.length cap] 33)) := (Fr.refl _ _).alloc _
  generalize w.alloc (.cells #[.int .i64 7, .int .u64 0, .int .u64 0, .int .u64 0, .slice q m.length cap] 33) = w1 at *
  have HS : Hid (∀ w', Grow w1 w' → w'.cell? ⟨w.heap.size, 1, none⟩ = some (.int .u64 0) ∧ w'.cell? ⟨w.heap.size, 4, none⟩ = some (.slice q m.length cap)) := Lib.hid (fun w' hg => ⟨(hg.cell HK.out.lt).trans (HK.out.cellAt 1 _ rfl), (hg.cell HK.out.lt).trans (HK.out.cellAt 4 _ rfl)⟩)
  go_region_held3 (fun w' => w'.cell? ⟨w.heap.size, 1, none⟩ = some (.int .u64 0) ∧ w'.cell? ⟨w.heap.size, 4, none⟩ = some (.slice q m.length cap))
    (first | exact HS.out _ (by repeat (first | exact Fr.refl _ _ | assumption | apply Fr.drew | apply Fr.alloc | refine Fr.trans ?_ (by assumption))))
    (first | (refine step_appendB2 (by go_simp) _ _ (by rfl) (.slice none 0 0) _ [] m (Own.nil _ 5 1) (HD.out.keep (Grow.bytes (HG.trans (by repeat (first | exact Fr.refl _ _ | assumption | apply Fr.drew | apply Fr.alloc | refine Fr.trans ?_ (by assumption)))))) (by simp only [List.length_nil]; omega) (by rfl) (by rfl) ?_; intro v3 w3 hO3 hF3 hf3; have hG3 : Grow w1 w3 := Grow.trans' (by repeat (first | exact Fr.refl _ _ | assumption | apply Fr.drew | apply Fr.alloc | refine Fr.trans ?_ (by assumption))) hF3 (fun k hk => nomatch hk)))
  have hB3 := hG3.blk HK.out (fun e => e)
  have k0 : w3.cell? ⟨w.heap.size, 0, none⟩ = some (.int .i64 7) := hB3.cellAt 0 _ rfl
  have k1 : w3.cell? ⟨w.heap.size, 1, none⟩ = some (.int .u64 0) := hB3.cellAt 1 _ rfl
  have k2 : w3.cell? ⟨w.heap.size, 2, none⟩ = some (.int .u64 0) := hB3.cellAt 2 _ rfl
  have k3 : w3.cell? ⟨w.heap.size, 3, none⟩ = some (.int .u64 0) := hB3.cellAt 3 _ rfl
  have HG3 := Lib.hid (HG.trans hG3)
  obtain ⟨p3, c3, rfl, hO3⟩ := hO3.int (n := m.length) rfl
  have HO3 : Hid (OwnB w3 (.slice p3 m.length c3) m) := Lib.hid hO3
  clear hB3 HS HK hG3 hO3 hF3 hf3 HG HD
  go_wp2_with fail
  have hsz := HG3.out.size
  refine bodyPost_ret (by simp [results, Try.results25, go_sem]; rfl) rfl ?_
  refine ⟨w3.heap.size, rfl, hsz, HG3.out.alloc _, ?_⟩
  first | exact Blk.new w3 _ _ | exact ⟨_, HO3.out.rd.keep (Grow.bytes ((Fr.refl _ _).alloc _)), Blk.new w3 _ _⟩

set_option maxRecDepth 100000 in
set_option maxHeartbeats 2000000 in
theorem frame_crypto (w : World) (a : Nat) (d : Value) (m : List UInt8) (hd : Rd w d m) (hm : m.length ≤ 400) (ha : a ≤ 10000000000) :
    Calls Try.prog 25 #[.agg #[.int .i64 6, .int .u64 (a : Int), .int .u64 0, .int .u64 0, d]] w fun e w' => ∃ p, e = .returned (.iface 120 (.pointer (some ⟨p, 0, none⟩))) ∧ w.heap.size ≤ p ∧ Grow w w' ∧ ∃ dv, Rd w' dv m ∧ Blk w' p #[.int .i64 (a : Int), dv] 122 := by
  obtain ⟨q, cap, rfl, hdd⟩ : ∃ q cap, d = .slice q m.length cap ∧ Rd w d m := by obtain ⟨q, cap, e, _⟩ := id hd; exact ⟨q, cap, e, hd⟩
  have HD := Lib.hid hdd
  clear hd hdd
  have wz : IntKind.i64.wrap (a : Int) = (a : Int) := IntWalk.i64_in _ (by omega)
  skip
  go_enter Try.func25, Try.ntmps25
  go_upto_region 1 with fail
  have HK := Lib.hid (Blk.new w #[.int .i64 6, .int .u64 (a : Int), .int .u64 0, .int .u64 0, .slice q m.length cap] 33)
  have HG : Grow w (w.alloc (.cells #[.int .i64 6, .int .u64 (a : Int), .int .u64 0, .int .u64 0, .slice q m.length cap] 33)) := (Fr.refl _ _).alloc _
  generalize w.alloc (.cells #[.int .i64 6, .int .u64 (a : Int), .int .u64 0, .int .u64 0, .slice q m.length cap] 33) = w1 at *
  have HS : Hid (∀ w', Grow w1 w' → w'.cell? ⟨w.heap.size, 1, none⟩ = some (.int .u64 (a : Int)) ∧ w'.cell? ⟨w.heap.size, 4, none⟩ = some (.slice q m.length cap)) := Lib.hid (fun w' hg => ⟨(hg.cell HK.out.lt).trans (HK.out.cellAt 1 _ rfl), (hg.cell HK.out.lt).trans (HK.out.cellAt 4 _ rfl)⟩)
  go_region_held3 (fun w' => w'.cell? ⟨w.heap.size, 1, none⟩ = some (.int .u64 (a : Int)) ∧ w'.cell? ⟨w.heap.size, 4, none⟩ = some (.slice q m.length cap))
    (first | exact HS.out _ (by repeat (first | exact Fr.refl _ _ | assumption | apply Fr.drew | apply Fr.alloc | refine Fr.trans ?_ (by assumption))))
    (first | (refine step_appendB2 (by go_simp) _ _ (by rfl) (.slice none 0 0) _ [] m (Own.nil _ 5 1) (HD.out.keep (Grow.bytes (HG.trans (by repeat (first | exact Fr.refl _ _ | assumption | apply Fr.drew | apply Fr.alloc | refine Fr.trans ?_ (by assumption)))))) (by simp only [List.length_nil]; omega) (by rfl) (by rfl) ?_; intro v3 w3 hO3 hF3 hf3; have hG3 : Grow w1 w3 := Grow.trans' (by repeat (first | exact Fr.refl _ _ | assumption | apply Fr.drew | apply Fr.alloc | refine Fr.trans ?_ (by assumption))) hF3 (fun k hk => nomatch hk)))
  have hB3 := hG3.blk HK.out (fun e => e)
  have k0 : w3.cell? ⟨w.heap.size, 0, none⟩ = some (.int .i64 6) := hB3.cellAt 0 _ rfl
  have k1 : w3.cell? ⟨w.heap.size, 1, none⟩ = some (.int .u64 (a : Int)) := hB3.cellAt 1 _ rfl
  have k2 : w3.cell? ⟨w.heap.size, 2, none⟩ = some (.int .u64 0) := hB3.cellAt 2 _ rfl
  have k3 : w3.cell? ⟨w.heap.size, 3, none⟩ = some (.int .u64 0) := hB3.cellAt 3 _ rfl
  have HG3 := Lib.hid (HG.trans hG3)
  obtain ⟨p3, c3, rfl, hO3⟩ := hO3.int (n := m.length) rfl
  have HO3 : Hid (OwnB w3 (.slice p3 m.length c3) m) := Lib.hid hO3
  clear hB3 HS HK hG3 hO3 hF3 hf3 HG HD
  go_wp2_with fail
  have hsz := HG3.out.size
  refine bodyPost_ret (by simp [results, Try.results25, go_sem]; rfl) rfl ?_
  refine ⟨w3.heap.size, rfl, hsz, HG3.out.alloc _, ?_⟩
  first | exact Blk.new w3 _ _ | exact ⟨_, HO3.out.rd.keep (Grow.bytes ((Fr.refl _ _).alloc _)), Blk.new w3 _ _⟩
end Go.Proofs.Ytgdkbflhgcchfaa
