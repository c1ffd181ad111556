/- Lost: the door. -/
import Derived.Test.YtgdkbflhgcchfaaA12
import Derived.Test.YtgdkbflhgcchfaaA13
import Derived.Test.YtgdkbflhgcchfaaA14
namespace Go.Proofs.Ytgdkbflhgcchfaa
open Go.RowKit

set_option maxRecDepth 100000 in
theorem addI_nil (w : World) (Q : Nat) (fv : Value) (_ : Q < w.heap.size) (hq : w.cell? ⟨Q, 0, none⟩ = some (.pointer none)) : Calls Try.prog 103 #[pt Q, fv] w fun e w' => e = .returned (.tuple #[]) ∧ w' = w := by
  go_enter Try.func103, Try.ntmps103
  go_wp2_with fail
  refine bodyPost_ret (v := .tuple #[]) (by simp [results, Try.results103, go_sem]) rfl ?_
  exact ⟨rfl, rfl⟩
set_option maxRecDepth 100000 in
theorem addH_nil (w : World) (Q : Nat) (fv : Value) (_ : Q < w.heap.size) (hq : w.cell? ⟨Q, 1, none⟩ = some (.pointer none)) : Calls Try.prog 106 #[pt Q, fv] w fun e w' => e = .returned (.tuple #[]) ∧ w' = w := by
  go_enter Try.func106, Try.ntmps106
  go_wp2_with fail
  refine bodyPost_ret (v := .tuple #[]) (by simp [results, Try.results106, go_sem]) rfl ?_
  exact ⟨rfl, rfl⟩
theorem FrC.iface {w : World} {p : Nat} {c : Ct} {fv : Value} (h : FrC w p c fv) (hc : c.ty = 6) : ∃ a d, c = .crypto a d ∧ fv = .iface 120 (pt p) ∧ CrAt w p a d := by
  cases c
  case crypto a d => exact ⟨a, d, rfl, h.1, h.2⟩
  all_goals cases hc
/-- Adding a frame, by level. -/
abbrev addF (n : Nat) : FuncId := if n = 0 then 103 else if n = 1 then 106 else 109
theorem Qat.add {w : World} {X : Nat} {F : Nat → Prop} {st : St} (h : Qat w X F st) {N : Nat} (hO : SOk N st) (hN : N ≤ 100000) (n : Nat) (hn : n ≤ 2) {p : Nat} {c : Ct} {fv : Value} (hf : FrC w p c fv) (hp : ¬ F p) :
    ∃ Q, w.cell? ⟨X, 0, none⟩ = some (pt Q) ∧ X < w.heap.size ∧ Calls Try.prog (addF n) #[pt Q, fv] w fun e w' => e = .returned (.tuple #[]) ∧ QOutG (fun k => k = p ∨ w.heap.size ≤ k) w w' X F (st.lost n c) := by
  have hG : ∀ k, (k = p ∨ w.heap.size ≤ k) → ¬ F k := fun k hk => hk.elim (fun e => e ▸ hp) (h.new k)
  obtain ⟨Q, v0, v1, c2, o2, cl, ol, F0, F1, F2, hX, hQ, h0, h1, h2, hA, hF2, d01, d12, hFF⟩ := id h
  refine ⟨Q, hX.cellAt 0 _ rfl, hX.lt, ?_⟩
  have same : QOutG (fun k => k = p ∨ w.heap.size ≤ k) w w X F st := ⟨F, h, Fr.refl _ _, fun _ e => .inl e⟩
  have hQ0 : ¬ F0 Q := fun e => by
    obtain ⟨cur, T, f, a, _, b'⟩ := h0.typed Q e
    have := Option.some.inj (a.symm.trans hQ)
    injection this with _ x _
    exact b' x
  have hQ1 : ¬ F1 Q := fun e => by
    obtain ⟨cur, T, f, a, _, b'⟩ := h1.typed Q e
    have := Option.some.inj (a.symm.trans hQ)
    injection this with _ x _
    exact b' x
  have hc : n = 0 ∨ n = 1 ∨ n = 2 := by omega
  rcases hc with rfl | rfl | rfl
  · cases e : st.ini with
    | none =>
      have eg : st.lost 0 c = st := by simp [St.lost, St.lv, e]
      rw [e] at h0
      refine (addI_nil w Q fv hQ.lt (by rw [hQ.cellAt 0 v0 rfl, h0.1])).mono ?_
      rintro _ w' ⟨rfl, rfl⟩
      rw [eg]
      exact ⟨rfl, same⟩
    | some L =>
      have h0' := h0
      rw [e] at h0
      obtain ⟨b, cv, ov, cl0, ol0, rfl, hB, hL, rfl, hF0⟩ := h0
      have hok := hO 0 _ (by simp only [St.lv, if_true]; exact e)
      have hl1 : cl0.length ≤ 100000 := by have := hok.2.2.1; rw [List.length_map] at this; omega
      have hl2 : ol0.length ≤ 100000 := by have := hok.2.2.2; rw [List.length_map] at this; omega
      have fin : ∀ w', AddOut w w' b 0 #[cv, ov] 179 (fp cv ov cl0 ol0) cl0 ol0 p c → QOutG (fun k => k = p ∨ w.heap.size ≤ k) w w' X F (st.lost 0 c) := by
        rintro w' ⟨cv', ov', cl', ol', hB', hL', hF', hr⟩
        have eg : st.lost 0 c = { st with ini := some (cl'.map CE.pr, ol'.map OE.c) } := by simp [St.lost, St.lv, e, hr, St.set]
        rw [eg]
        exact upd0 (v0' := pt b) (F0' := fun k => k = b ∨ fp cv' ov' cl' ol' k) hG hX hQ h0' h1 h2 hA hF2 d01 d12 hFF (hF'.blk hQ (fun e => hQ0 ((hF0 Q).2 e))) ⟨b, cv', ov', cl', ol', rfl, hB', hL'.fp, rfl, fun k => Iff.rfl⟩ (hF'.mono (fun k _ e => .inr ((hF0 k).2 e)))
          (fun k e => by
            rcases e with e | e
            · exact .inl ((hF0 k).2 (.inl e))
            · exact (hL'.fpF k e).imp (fun e => (hF0 k).2 (.inr e)) id)
      by_cases ht : c.ty = 6
      · obtain ⟨a, d, rfl, rfl, hca⟩ := hf.iface ht
        refine (addI_c w Q b _ cv ov cl0 ol0 p a d v1 c2 o2 hQ hB hL (fun e => hp ((hFF p).2 (.inr (.inl ((hF0 p).2 (.inr e)))))) hca hl1).mono ?_
        rintro _ w' ⟨rfl, ha⟩
        exact ⟨rfl, fin w' ha⟩
      · obtain ⟨Ty, rfl⟩ := hf.ne
        refine (addI_o w Q b _ cv ov cl0 ol0 p Ty c v1 c2 o2 hQ hB hL hf ht hl2).mono ?_
        rintro _ w' ⟨rfl, ha⟩
        exact ⟨rfl, fin w' ha⟩
  · cases e : st.hs with
    | none =>
      have eg : st.lost 1 c = st := by simp [St.lost, St.lv, e]
      rw [e] at h1
      refine (addH_nil w Q fv hQ.lt (by rw [hQ.cellAt 1 v1 rfl, h1.1])).mono ?_
      rintro _ w' ⟨rfl, rfl⟩
      rw [eg]
      exact ⟨rfl, same⟩
    | some L =>
      have h1' := h1
      rw [e] at h1
      obtain ⟨b, cv, ov, cl0, ol0, rfl, hB, hL, rfl, hF1⟩ := h1
      have hok := hO 1 _ (by simp only [St.lv, if_true, Nat.one_ne_zero, if_false]; exact e)
      have hl1 : cl0.length ≤ 100000 := by have := hok.2.2.1; rw [List.length_map] at this; omega
      have hl2 : ol0.length ≤ 100000 := by have := hok.2.2.2; rw [List.length_map] at this; omega
      have fin : ∀ w', AddOut w w' b 0 #[cv, ov] 179 (fp cv ov cl0 ol0) cl0 ol0 p c → QOutG (fun k => k = p ∨ w.heap.size ≤ k) w w' X F (st.lost 1 c) := by
        rintro w' ⟨cv', ov', cl', ol', hB', hL', hF', hr⟩
        have eg : st.lost 1 c = { st with hs := some (cl'.map CE.pr, ol'.map OE.c) } := by simp [St.lost, St.lv, e, hr, St.set]
        rw [eg]
        exact upd1 (v1' := pt b) (F1' := fun k => k = b ∨ fp cv' ov' cl' ol' k) hG hX hQ h0 h1' h2 hA hF2 d01 d12 hFF (hF'.blk hQ (fun e => hQ1 ((hF1 Q).2 e))) ⟨b, cv', ov', cl', ol', rfl, hB', hL'.fp, rfl, fun k => Iff.rfl⟩ (hF'.mono (fun k _ e => .inr ((hF1 k).2 e)))
          (fun k e => by
            rcases e with e | e
            · exact .inl ((hF1 k).2 (.inl e))
            · exact (hL'.fpF k e).imp (fun e => (hF1 k).2 (.inr e)) id)
      by_cases ht : c.ty = 6
      · obtain ⟨a, d, rfl, rfl, hca⟩ := hf.iface ht
        refine (addH_c w Q b _ cv ov cl0 ol0 p a d v0 c2 o2 hQ hB hL (fun e => hp ((hFF p).2 (.inr (.inr (.inl ((hF1 p).2 (.inr e))))))) hca hl1).mono ?_
        rintro _ w' ⟨rfl, ha⟩
        exact ⟨rfl, fin w' ha⟩
      · obtain ⟨Ty, rfl⟩ := hf.ne
        refine (addH_o w Q b _ cv ov cl0 ol0 p Ty c v0 c2 o2 hQ hB hL hf ht hl2).mono ?_
        rintro _ w' ⟨rfl, ha⟩
        exact ⟨rfl, fin w' ha⟩
  · have hok := hO 2 st.app rfl
    rw [← hA] at hok
    have hl1 : cl.length ≤ 100000 := by have := hok.2.2.1; rw [List.length_map] at this; omega
    have hl2 : ol.length ≤ 100000 := by have := hok.2.2.2; rw [List.length_map] at this; omega
    have fin : ∀ w', AddOut w w' Q 2 #[v0, v1, c2, o2] 181 (fp c2 o2 cl ol) cl ol p c → QOutG (fun k => k = p ∨ w.heap.size ≤ k) w w' X F (st.lost 2 c) := by
      rintro w' ⟨cv', ov', cl', ol', hB', hL', hF', hr⟩
      have eg : st.lost 2 c = { st with app := (cl'.map CE.pr, ol'.map OE.c) } := by simp [St.lost, St.lv, ← hA, hr, St.set]
      rw [eg]
      exact upd2 (F2' := fun k => fp c2 o2 cl ol k ∨ k = p ∨ w.heap.size ≤ k) hG hX hQ h0 h1 h2 hF2 d01 d12 hFF hB' hL' rfl (hF'.mono (fun k _ e => e.imp id (hF2 k).2)) (fun k e => e.imp (hF2 k).2 id)
    by_cases ht : c.ty = 6
    · obtain ⟨a, d, rfl, rfl, hca⟩ := hf.iface ht
      refine (addA_c w Q _ c2 o2 cl ol p a d v0 v1 hQ h2 (fun e => hp ((hFF p).2 (.inr (.inr (.inr ((hF2 p).2 e)))))) hca hl1).mono ?_
      rintro _ w' ⟨rfl, ha⟩
      exact ⟨rfl, fin w' ha⟩
    · obtain ⟨Ty, rfl⟩ := hf.ne
      refine (addA_o w Q _ c2 o2 cl ol p Ty c v0 v1 hQ h2 hf ht hl2).mono ?_
      rintro _ w' ⟨rfl, ha⟩
      exact ⟨rfl, fin w' ha⟩

theorem ack_0 (w : World) (Q : Nat) : Calls Try.prog 32 #[pt Q, .int .u8 1] w fun e w' => e = .returned (.iface 182 (pt Q)) ∧ w = w' := by
  go_enter Try.func32, Try.ntmps32
  go_wp2_with fail
  go_ret
  exact ⟨rfl, rfl⟩
theorem ack_1 (w : World) (Q : Nat) : Calls Try.prog 32 #[pt Q, .int .u8 2] w fun e w' => e = .returned (.iface 183 (pt Q)) ∧ w = w' := by
  go_enter Try.func32, Try.ntmps32
  go_wp2_with fail
  go_ret
  exact ⟨rfl, rfl⟩
theorem ack_2 (w : World) (Q : Nat) : Calls Try.prog 32 #[pt Q, .int .u8 4] w fun e w' => e = .returned (.iface 184 (pt Q)) ∧ w = w' := by
  go_enter Try.func32, Try.ntmps32
  go_wp2_with fail
  go_ret
  exact ⟨rfl, rfl⟩
theorem QOutG.ofDrew {w w' : World} {X p : Nat} {F : Nat → Prop} {st : St} (h : QOutG (fun k => k = p ∨ w.drew.heap.size ≤ k) w.drew w' X F st) : QOutG (fun k => k = p ∨ w.heap.size ≤ k) w w' X F st := by
  obtain ⟨F', h1, h2, h3⟩ := h
  exact ⟨F', h1, (Fr.refl F w).drew.trans h2, h3⟩

theorem hnd_0 {w : World} {Q : Nat} {fv : Value} {R : World → Prop} (h : Calls Try.prog 103 #[pt Q, fv] w fun e w' => e = .returned (.tuple #[]) ∧ R w') : Calls Try.prog 102 #[pt Q, fv] w fun e w' => e = .returned (.tuple #[]) ∧ R w' := by
  have HC := Lib.hid h
  clear h
  go_enter Try.func102, Try.ntmps102
  go_wp2_with fail
  refine HC.out.mono ?_
  rintro e w2 ⟨rfl, h1⟩
  go_wp2_with fail
  go_end0
  exact ⟨rfl, h1⟩
theorem hnd_1 {w : World} {Q : Nat} {fv : Value} {R : World → Prop} (h : Calls Try.prog 106 #[pt Q, fv] w fun e w' => e = .returned (.tuple #[]) ∧ R w') : Calls Try.prog 105 #[pt Q, fv] w fun e w' => e = .returned (.tuple #[]) ∧ R w' := by
  have HC := Lib.hid h
  clear h
  go_enter Try.func105, Try.ntmps105
  go_wp2_with fail
  refine HC.out.mono ?_
  rintro e w2 ⟨rfl, h1⟩
  go_wp2_with fail
  go_end0
  exact ⟨rfl, h1⟩
theorem hnd_2 {w : World} {Q : Nat} {fv : Value} {R : World → Prop} (h : Calls Try.prog 109 #[pt Q, fv] w fun e w' => e = .returned (.tuple #[]) ∧ R w') : Calls Try.prog 108 #[pt Q, fv] w fun e w' => e = .returned (.tuple #[]) ∧ R w' := by
  have HC := Lib.hid h
  clear h
  go_enter Try.func108, Try.ntmps108
  go_wp2_with fail
  refine HC.out.mono ?_
  rintro e w2 ⟨rfl, h1⟩
  go_wp2_with fail
  go_end0
  exact ⟨rfl, h1⟩
theorem mth_0 (v : Value) (w : World) : (method 327 182 v "OnLost").run Try.prog w = .ok (102, v) w := by kernel_rfl
theorem mth_1 (v : Value) (w : World) : (method 327 183 v "OnLost").run Try.prog w = .ok (105, v) w := by kernel_rfl
theorem mth_2 (v : Value) (w : World) : (method 327 184 v "OnLost").run Try.prog w = .ok (108, v) w := by kernel_rfl

set_option maxRecDepth 100000 in
set_option maxHeartbeats 1000000 in
theorem door_lost0 {w : World} {X : Nat} {F : Nat → Prop} {st : St} (h : Qat w X F st) {N : Nat} (hO : SOk N st) (hN : N ≤ 100000) {p : Nat} {c : Ct} {fv : Value} (hf : FrC w p c fv) (hp : ¬ F p) :
    Calls Try.prog 24 #[pt X, .int .i64 0, fv] w fun e w' => e = .returned (.tuple #[]) ∧ QOutG (fun k => k = p ∨ w.heap.size ≤ k) w w' X F (st.lost 0 c) := by
  obtain ⟨Q, hx, hlt, hc⟩ := h.drew.add hO hN 0 (by omega) (hf.keep (w' := w.drew) rfl (fun _ _ => rfl)) hp
  have hx0 : w.cell? ⟨X, 0, none⟩ = some (pt Q) := hx
  have hlt0 : X < w.heap.size := hlt
  have hm := mth_0 (pt Q) w.drew
  have HC := Lib.hid hc
  clear hc h hf
  go_enter Try.func24, Try.ntmps24
  go_region_with (first | (go_at_call 33; refine (level_any _ 0 (by omega)).mono ?_; rintro e w1 ⟨rfl, rfl⟩) | (go_at_call 32; refine (ack_0 _ Q).mono ?_; rintro e w1 ⟨rfl, rfl⟩) | (go_at_call 102; refine (hnd_0 HC.out).mono ?_; rintro e w2 ⟨rfl, h1⟩))
  all_goals (
    go_wp2_with fail
    go_end0
    exact ⟨rfl, h1.ofDrew⟩)

set_option maxRecDepth 100000 in
set_option maxHeartbeats 1000000 in
theorem door_lost1 {w : World} {X : Nat} {F : Nat → Prop} {st : St} (h : Qat w X F st) {N : Nat} (hO : SOk N st) (hN : N ≤ 100000) {p : Nat} {c : Ct} {fv : Value} (hf : FrC w p c fv) (hp : ¬ F p) :
    Calls Try.prog 24 #[pt X, .int .i64 1, fv] w fun e w' => e = .returned (.tuple #[]) ∧ QOutG (fun k => k = p ∨ w.heap.size ≤ k) w w' X F (st.lost 1 c) := by
  obtain ⟨Q, hx, hlt, hc⟩ := h.drew.add hO hN 1 (by omega) (hf.keep (w' := w.drew) rfl (fun _ _ => rfl)) hp
  have hx0 : w.cell? ⟨X, 0, none⟩ = some (pt Q) := hx
  have hlt0 : X < w.heap.size := hlt
  have hm := mth_1 (pt Q) w.drew
  have HC := Lib.hid hc
  clear hc h hf
  go_enter Try.func24, Try.ntmps24
  go_region_with (first | (go_at_call 33; refine (level_any _ 1 (by omega)).mono ?_; rintro e w1 ⟨rfl, rfl⟩) | (go_at_call 32; refine (ack_1 _ Q).mono ?_; rintro e w1 ⟨rfl, rfl⟩) | (go_at_call 105; refine (hnd_1 HC.out).mono ?_; rintro e w2 ⟨rfl, h1⟩))
  all_goals (
    go_wp2_with fail
    go_end0
    exact ⟨rfl, h1.ofDrew⟩)

set_option maxRecDepth 100000 in
set_option maxHeartbeats 1000000 in
theorem door_lost2 {w : World} {X : Nat} {F : Nat → Prop} {st : St} (h : Qat w X F st) {N : Nat} (hO : SOk N st) (hN : N ≤ 100000) {p : Nat} {c : Ct} {fv : Value} (hf : FrC w p c fv) (hp : ¬ F p) :
    Calls Try.prog 24 #[pt X, .int .i64 2, fv] w fun e w' => e = .returned (.tuple #[]) ∧ QOutG (fun k => k = p ∨ w.heap.size ≤ k) w w' X F (st.lost 2 c) := by
  obtain ⟨Q, hx, hlt, hc⟩ := h.drew.add hO hN 2 (by omega) (hf.keep (w' := w.drew) rfl (fun _ _ => rfl)) hp
  have hx0 : w.cell? ⟨X, 0, none⟩ = some (pt Q) := hx
  have hlt0 : X < w.heap.size := hlt
  have hm := mth_2 (pt Q) w.drew
  have HC := Lib.hid hc
  clear hc h hf
  go_enter Try.func24, Try.ntmps24
  go_region_with (first | (go_at_call 33; refine (level_any _ 2 (by omega)).mono ?_; rintro e w1 ⟨rfl, rfl⟩) | (go_at_call 32; refine (ack_2 _ Q).mono ?_; rintro e w1 ⟨rfl, rfl⟩) | (go_at_call 108; refine (hnd_2 HC.out).mono ?_; rintro e w2 ⟨rfl, h1⟩))
  all_goals (
    go_wp2_with fail
    go_end0
    exact ⟨rfl, h1.ofDrew⟩)

theorem door_lost {w : World} {X : Nat} {F : Nat → Prop} {st : St} (h : Qat w X F st) {N : Nat} (hO : SOk N st) (hN : N ≤ 100000) (n : Nat) (hn : n ≤ 2) {p : Nat} {c : Ct} {fv : Value} (hf : FrC w p c fv) (hp : ¬ F p) :
    Calls Try.prog 24 #[pt X, .int .i64 (n : Int), fv] w fun e w' => e = .returned (.tuple #[]) ∧ QOutG (fun k => k = p ∨ w.heap.size ≤ k) w w' X F (st.lost n c) := by
  have hc : n = 0 ∨ n = 1 ∨ n = 2 := by omega
  rcases hc with rfl | rfl | rfl
  · exact door_lost0 h hO hN hf hp
  · exact door_lost1 h hO hN hf hp
  · exact door_lost2 h hO hN hf hp
end Go.Proofs.Ytgdkbflhgcchfaa
