/- Acts on the queue: Get, Has, Drop. -/
import Derived.Test.YtgdkbflhgcchfaaA9
namespace Go.Proofs.Ytgdkbflhgcchfaa
open Go.RowKit

def lvlN (n : Nat) : Nat := if n = 0 then 1 else if n = 1 then 2 else 4
set_option maxRecDepth 100000 in
theorem level_any (w : World) (n : Nat) (hn : n ≤ 2) : Calls Try.prog 33 #[.int .i64 (n : Int)] w fun e w' => e = .returned (.int .u8 (lvlN n : Int)) ∧ w = w' := by
  have hc : n = 0 ∨ n = 1 ∨ n = 2 := by omega
  rcases hc with rfl | rfl | rfl
  all_goals (
    go_enter Try.func33, Try.ntmps33
    go_wp2_with fail
    go_ret
    exact ⟨rfl, rfl⟩)
/-- What Get gives. -/
def RetOk (w' : World) (r : Option Ct) (ret : Value) : Prop := (r = none → ret = .nilIface) ∧ (∀ c, r = some c → ∃ p, FrC w' p c ret)
theorem clOk {N : Nat} {cl : List CE} {ol : List OE} {L : Lv} (h : LOk N L) (hM : (cl.map CE.pr, ol.map OE.c) = L) : (∀ x ∈ cl, x.a + x.d.length ≤ 10000000000 ∧ x.d.length ≤ 400) ∧ ∀ y ∈ ol, y.c.Ok := by
  subst hM
  exact ⟨fun x hx => h.1 _ (List.mem_map_of_mem (f := CE.pr) hx), fun y hy => (h.2.1 _ (List.mem_map_of_mem (f := OE.c) hy)).1⟩
theorem Qat.get {w : World} {X : Nat} {F : Nat → Prop} {st : St} (h : Qat w X F st) {N : Nat} (hO : SOk N st) (n M : Nat) (hn : n ≤ 2) (hM : M ≤ 100000) :
    ∃ Q, w.cell? ⟨X, 0, none⟩ = some (pt Q) ∧ X < w.heap.size ∧ Calls Try.prog 36 #[pt Q, .int .u8 (lvlN n : Int), .int .i64 (M : Int), .int .u32 1] w fun e w' => ∃ ret, e = .returned ret ∧ QOut w w' X F (st.get n M).2 ∧ RetOk w' (st.get n M).1 ret := by
  obtain ⟨Q, v0, v1, c2, o2, cl, ol, F0, F1, F2, hX, hQ, h0, h1, h2, hA, hF2, d01, d12, hFF⟩ := id h
  refine ⟨Q, hX.cellAt 0 _ rfl, hX.lt, ?_⟩
  have same : QOut w w X F st := ⟨F, h, Fr.refl _ _, fun _ e => .inl e⟩
  have hc : n = 0 ∨ n = 1 ∨ n = 2 := by omega
  rcases hc with rfl | rfl | rfl
  · cases e : st.ini with
    | none =>
      have eg : st.get 0 M = (none, st) := by simp [St.get, St.lv, e]
      rw [e] at h0
      refine (get_nil w Q 1 M hQ.lt (.inl ⟨rfl, by rw [hQ.cellAt 0 v0 rfl, h0.1]⟩)).mono ?_
      rintro _ w' ⟨rfl, rfl⟩
      rw [eg]
      exact ⟨_, rfl, same, fun _ => rfl, fun _ e => nomatch e⟩
    | some L =>
      have h0' := h0
      rw [e] at h0
      obtain ⟨b, cv, ov, cl0, ol0, rfl, hB, hL, hm, hF0⟩ := h0
      have ok := clOk (hO 0 L (by simp [St.lv, e])) hm
      refine (get_any w Q 1 b 0 M #[cv, ov] 179 _ cv ov cl0 ol0 hQ.lt hB rfl rfl (.inl ⟨rfl, rfl, hQ.cellAt 0 _ rfl⟩) hL rfl hM ok.1 ok.2).mono ?_
      rintro _ w' ⟨ret, rfl, cv', ov', cl', ol', hB', hL', hF', r, hr, hr1, hr2⟩
      subst hm
      have eg : st.get 0 M = (r, { st with ini := some (cl'.map CE.pr, ol'.map OE.c) }) := by simp [St.get, St.lv, e, hr, St.set]
      rw [eg]
      refine ⟨_, rfl, upd0 h.new (v0' := pt b) (F0' := fun k => k = b ∨ fp cv' ov' cl' ol' k) hX hQ h0' h1 h2 hA hF2 d01 d12 hFF ?_ ⟨b, cv', ov', cl', ol', rfl, hB', hL'.fp, rfl, fun k => Iff.rfl⟩ (hF'.mono (fun k _ e => .inr ((hF0 k).2 e))) (fun k e => .inl ((hF0 k).2 (e.imp id (hL'.fpF k)))), hr1, hr2⟩
      refine hF'.blk hQ (fun c => ?_)
      obtain ⟨cur, T, f, a, _, b'⟩ := h0'.typed Q ((hF0 Q).2 c)
      have := Option.some.inj (a.symm.trans hQ)
      injection this with _ x _
      exact b' x
  · cases e : st.hs with
    | none =>
      have eg : st.get 1 M = (none, st) := by simp [St.get, St.lv, e]
      rw [e] at h1
      refine (get_nil w Q 2 M hQ.lt (.inr ⟨rfl, by rw [hQ.cellAt 1 v1 rfl, h1.1]⟩)).mono ?_
      rintro _ w' ⟨rfl, rfl⟩
      rw [eg]
      exact ⟨_, rfl, same, fun _ => rfl, fun _ e => nomatch e⟩
    | some L =>
      have h1' := h1
      rw [e] at h1
      obtain ⟨b, cv, ov, cl0, ol0, rfl, hB, hL, hm, hF1⟩ := h1
      have ok := clOk (hO 1 L (by simp [St.lv, e])) hm
      refine (get_any w Q 2 b 0 M #[cv, ov] 179 _ cv ov cl0 ol0 hQ.lt hB rfl rfl (.inr (.inl ⟨rfl, rfl, hQ.cellAt 1 _ rfl⟩)) hL rfl hM ok.1 ok.2).mono ?_
      rintro _ w' ⟨ret, rfl, cv', ov', cl', ol', hB', hL', hF', r, hr, hr1, hr2⟩
      subst hm
      have eg : st.get 1 M = (r, { st with hs := some (cl'.map CE.pr, ol'.map OE.c) }) := by simp [St.get, St.lv, e, hr, St.set]
      rw [eg]
      refine ⟨_, rfl, upd1 h.new (v1' := pt b) (F1' := fun k => k = b ∨ fp cv' ov' cl' ol' k) hX hQ h0 h1' h2 hA hF2 d01 d12 hFF ?_ ⟨b, cv', ov', cl', ol', rfl, hB', hL'.fp, rfl, fun k => Iff.rfl⟩ (hF'.mono (fun k _ e => .inr ((hF1 k).2 e))) (fun k e => .inl ((hF1 k).2 (e.imp id (hL'.fpF k)))), hr1, hr2⟩
      refine hF'.blk hQ (fun c => ?_)
      obtain ⟨cur, T, f, a, _, b'⟩ := h1'.typed Q ((hF1 Q).2 c)
      have := Option.some.inj (a.symm.trans hQ)
      injection this with _ x _
      exact b' x
  · have ok := clOk (hO 2 st.app rfl) hA
    refine (get_any w Q 4 Q 2 M #[v0, v1, c2, o2] 181 _ c2 o2 cl ol hQ.lt hQ rfl rfl (.inr (.inr ⟨rfl, rfl, rfl⟩)) h2 rfl hM ok.1 ok.2).mono ?_
    rintro _ w' ⟨ret, rfl, cv', ov', cl', ol', hB', hL', hF', r, hr, hr1, hr2⟩
    have eg : st.get 2 M = (r, { st with app := (cl'.map CE.pr, ol'.map OE.c) }) := by simp [St.get, St.lv, ← hA, hr, St.set]
    rw [eg]
    exact ⟨_, rfl, upd2 h.new (F2' := fp c2 o2 cl ol) hX hQ h0 h1 h2 hF2 d01 d12 hFF hB' hL' rfl (hF'.mono (fun k _ e => e.imp id (hF2 k).2)) (fun k e => .inl ((hF2 k).2 e)), hr1, hr2⟩

theorem Qat.drew {w : World} {X : Nat} {F : Nat → Prop} {st : St} (h : Qat w X F st) : Qat w.drew X F st := h.grow (Fr.refl _ w).drew
theorem QOut.ofDrew {w w' : World} {X : Nat} {F : Nat → Prop} {st : St} (h : QOut w.drew w' X F st) : QOut w w' X F st := by
  obtain ⟨F', h1, h2, h3⟩ := h
  exact ⟨F', h1, (Fr.refl F w).drew.trans h2, h3⟩

set_option maxRecDepth 100000 in
set_option maxHeartbeats 1000000 in
theorem door_get {w : World} {X : Nat} {F : Nat → Prop} {st : St} (h : Qat w X F st) {N : Nat} (hO : SOk N st) (n M : Nat) (hn : n ≤ 2) (hM : M ≤ 100000) :
    Calls Try.prog 26 #[pt X, .int .i64 (n : Int), .int .i64 (M : Int)] w fun e w' => ∃ ret, e = .returned ret ∧ QOut w w' X F (st.get n M).2 ∧ RetOk w' (st.get n M).1 ret := by
  obtain ⟨Q, hx, hlt, hc⟩ := h.drew.get hO n M hn hM
  have hx0 : w.cell? ⟨X, 0, none⟩ = some (pt Q) := hx
  have hlt0 : X < w.heap.size := hlt
  have HC := Lib.hid hc
  clear hc h
  go_enter Try.func26, Try.ntmps26
  go_upto_region 1 with fail
  go_region_with (first | (go_at_call 33; refine (level_any _ n hn).mono ?_; rintro e w1 ⟨rfl, rfl⟩) | (go_at_call 36; refine HC.out.mono ?_; rintro e w2 ⟨ret, rfl, h1, h2⟩))
  all_goals (
    go_wp2_with fail
    go_ret
    exact ⟨_, rfl, h1.ofDrew, h2⟩)

set_option maxRecDepth 100000 in
set_option maxHeartbeats 1000000 in
theorem has_some (w : World) (Q lvl b o n m cap cap' : Nat) (p p' : Option Addr) (hQ : Q < w.heap.size) (_ : b < w.heap.size) (hs : Sel w Q lvl b o) (c0 : w.cell? ⟨b, o, none⟩ = some (.slice p n cap)) (c1 : w.cell? ⟨b, o + 1, none⟩ = some (.slice p' m cap')) :
    Calls Try.prog 37 #[pt Q, .int .u8 (lvl : Int)] w fun e w' => e = .returned (.bool (decide (n ≠ 0 ∨ m ≠ 0))) ∧ w = w' := by
  have hn : n = 0 ∨ ∃ n', n = n' + 1 := by cases n with | zero => exact .inl rfl | succ n => exact .inr ⟨n, rfl⟩
  have hm : m = 0 ∨ ∃ m', m = m' + 1 := by cases m with | zero => exact .inl rfl | succ n => exact .inr ⟨n, rfl⟩
  rcases hs with ⟨rfl, rfl, hq⟩ | ⟨rfl, rfl, hq⟩ | ⟨rfl, rfl, rfl⟩
  all_goals (
    rcases hn with rfl | ⟨n, rfl⟩ <;> rcases hm with rfl | ⟨m, rfl⟩
    all_goals (
      go_enter Try.func37, Try.ntmps37
      go_wp2_with fail
      go_ret
      exact ⟨ret_bool (by simp), rfl⟩))
set_option maxRecDepth 100000 in
theorem has_nil (w : World) (Q lvl : Nat) (_ : Q < w.heap.size) (hs : (lvl = 1 ∧ w.cell? ⟨Q, 0, none⟩ = some (.pointer none)) ∨ (lvl = 2 ∧ w.cell? ⟨Q, 1, none⟩ = some (.pointer none))) :
    Calls Try.prog 37 #[pt Q, .int .u8 (lvl : Int)] w fun e w' => e = .returned (.bool false) ∧ w = w' := by
  rcases hs with ⟨rfl, hq⟩ | ⟨rfl, hq⟩
  all_goals (
    go_enter Try.func37, Try.ntmps37
    go_wp2_with fail
    go_ret
    exact ⟨rfl, rfl⟩)
theorem LvE.lens {w : World} {cv ov : Value} {F : Nat → Prop} {cl : List CE} {ol : List OE} (h : LvE w cv ov F cl ol) : (∃ p c, cv = .slice p cl.length c) ∧ ∃ p c, ov = .slice p ol.length c := by
  obtain ⟨_, p, c, e, _⟩ := h.crow
  obtain ⟨_, p', c', e', _⟩ := h.orow
  exact ⟨⟨p, c, e⟩, ⟨p', c', e'⟩⟩
theorem Qat.has {w : World} {X : Nat} {F : Nat → Prop} {st : St} (h : Qat w X F st) (n : Nat) (hn : n ≤ 2) :
    ∃ Q, w.cell? ⟨X, 0, none⟩ = some (pt Q) ∧ X < w.heap.size ∧ Calls Try.prog 37 #[pt Q, .int .u8 (lvlN n : Int)] w fun e w' => e = .returned (.bool (st.has n)) ∧ w = w' := by
  obtain ⟨Q, v0, v1, c2, o2, cl, ol, F0, F1, F2, hX, hQ, h0, h1, h2, hA, hF2, d01, d12, hFF⟩ := h
  refine ⟨Q, hX.cellAt 0 _ rfl, hX.lt, ?_⟩
  have hc : n = 0 ∨ n = 1 ∨ n = 2 := by omega
  have key : ∀ (cl : List CE) (ol : List OE), decide (cl.length ≠ 0 ∨ ol.length ≠ 0) = decide (cl.map CE.pr ≠ [] ∨ ol.map OE.c ≠ []) := fun cl ol => by cases cl <;> cases ol <;> simp
  rcases hc with rfl | rfl | rfl
  · cases e : st.ini with
    | none =>
      rw [e] at h0
      rw [show st.has 0 = false from by simp [St.has, St.lv, e]]
      exact has_nil w Q 1 hQ.lt (.inl ⟨rfl, by rw [hQ.cellAt 0 v0 rfl, h0.1]⟩)
    | some L =>
      rw [e] at h0
      obtain ⟨b, cv, ov, cl0, ol0, rfl, hB, hL, rfl, hF0⟩ := h0
      obtain ⟨⟨p, c, rfl⟩, p', c', rfl⟩ := hL.lens
      rw [show st.has 0 = decide (cl0.length ≠ 0 ∨ ol0.length ≠ 0) from by simp only [St.has, St.lv, e, if_true]; exact (key _ _).symm]
      exact has_some w Q 1 b 0 _ _ c c' p p' hQ.lt hB.lt (.inl ⟨rfl, rfl, hQ.cellAt 0 _ rfl⟩) (hB.cellAt 0 _ rfl) (hB.cellAt 1 _ rfl)
  · cases e : st.hs with
    | none =>
      rw [e] at h1
      rw [show st.has 1 = false from by simp [St.has, St.lv, e]]
      exact has_nil w Q 2 hQ.lt (.inr ⟨rfl, by rw [hQ.cellAt 1 v1 rfl, h1.1]⟩)
    | some L =>
      rw [e] at h1
      obtain ⟨b, cv, ov, cl0, ol0, rfl, hB, hL, rfl, hF0⟩ := h1
      obtain ⟨⟨p, c, rfl⟩, p', c', rfl⟩ := hL.lens
      rw [show st.has 1 = decide (cl0.length ≠ 0 ∨ ol0.length ≠ 0) from by simp only [St.has, St.lv, e, if_true, Nat.one_ne_zero, if_false]; exact (key _ _).symm]
      exact has_some w Q 2 b 0 _ _ c c' p p' hQ.lt hB.lt (.inr (.inl ⟨rfl, rfl, hQ.cellAt 1 _ rfl⟩)) (hB.cellAt 0 _ rfl) (hB.cellAt 1 _ rfl)
  · obtain ⟨⟨p, c, rfl⟩, p', c', rfl⟩ := h2.lens
    rw [show st.has 2 = decide (cl.length ≠ 0 ∨ ol.length ≠ 0) from by rw [key]; simp [St.has, St.lv, ← hA]]
    exact has_some w Q 4 Q 2 _ _ c c' p p' hQ.lt hQ.lt (.inr (.inr ⟨rfl, rfl, rfl⟩)) (hQ.cellAt 2 _ rfl) (hQ.cellAt 3 _ rfl)

set_option maxRecDepth 100000 in
set_option maxHeartbeats 1000000 in
theorem door_has {w : World} {X : Nat} {F : Nat → Prop} {st : St} (h : Qat w X F st) (n : Nat) (hn : n ≤ 2) :
    Calls Try.prog 27 #[pt X, .int .i64 (n : Int)] w fun e w' => e = .returned (.bool (st.has n)) ∧ Grow w w' := by
  obtain ⟨Q, hx, hlt, hc⟩ := h.drew.has n hn
  have hx0 : w.cell? ⟨X, 0, none⟩ = some (pt Q) := hx
  have hlt0 : X < w.heap.size := hlt
  have HC := Lib.hid hc
  clear hc h
  go_enter Try.func27, Try.ntmps27
  go_upto_region 1 with fail
  go_region_with (first | (go_at_call 33; refine (level_any _ n hn).mono ?_; rintro e w1 ⟨rfl, rfl⟩) | (go_at_call 37; refine HC.out.mono ?_; rintro e w2 ⟨rfl, rfl⟩))
  all_goals (
    go_wp2_with fail
    go_ret
    exact ⟨rfl, (Fr.refl _ w).drew⟩)

set_option maxRecDepth 100000 in
theorem drop_any (w : World) (Q n : Nat) (_ : Q < w.heap.size) (hn : n ≤ 1) (hf : ∀ i, w.frozen? ⟨Q, i, none⟩ = false) (v0 v1 : Value) (c0 : w.cell? ⟨Q, 0, none⟩ = some v0) (c1 : w.cell? ⟨Q, 1, none⟩ = some v1) :
    Calls Try.prog 38 #[pt Q, .int .u8 (lvlN n : Int)] w fun e w' => e = .returned (.tuple #[]) ∧ w' = w.setCell ⟨Q, n, none⟩ (.pointer none) := by
  have hc : n = 0 ∨ n = 1 := by omega
  rcases hc with rfl | rfl
  all_goals (
    go_enter Try.func38, Try.ntmps38
    go_wp2_with fail
    go_end0
    exact ⟨rfl, rfl⟩)
theorem Qat.drop {w : World} {X : Nat} {F : Nat → Prop} {st : St} (h : Qat w X F st) (n : Nat) (hn : n ≤ 1) :
    ∃ Q, w.cell? ⟨X, 0, none⟩ = some (pt Q) ∧ X < w.heap.size ∧ Calls Try.prog 38 #[pt Q, .int .u8 (lvlN n : Int)] w fun e w' => e = .returned (.tuple #[]) ∧ QOut w w' X F (st.drop n) := by
  obtain ⟨Q, v0, v1, c2, o2, cl, ol, F0, F1, F2, hX, hQ, h0, h1, h2, hA, hF2, d01, d12, hFF⟩ := id h
  refine ⟨Q, hX.cellAt 0 _ rfl, hX.lt, ?_⟩
  refine (drop_any w Q n hQ.lt hn hQ.free v0 v1 (hQ.cellAt 0 _ rfl) (hQ.cellAt 1 _ rfl)).mono ?_
  rintro _ w' ⟨rfl, rfl⟩
  refine ⟨rfl, ?_⟩
  have hc : n = 0 ∨ n = 1 := by omega
  rcases hc with rfl | rfl
  · exact upd0 h.new (v0' := .pointer none) (F0' := fun _ => False) (L := none) hX hQ h0 h1 h2 hA hF2 d01 d12 hFF (hQ.set 0 _) ⟨rfl, fun _ e => e⟩ ((Fr.refl _ w).setCell _ _ (.inl (.inl rfl))) (fun _ e => e.elim)
  · exact upd1 h.new (v1' := .pointer none) (F1' := fun _ => False) (L := none) hX hQ h0 h1 h2 hA hF2 d01 d12 hFF (hQ.set 1 _) ⟨rfl, fun _ e => e⟩ ((Fr.refl _ w).setCell _ _ (.inl (.inl rfl))) (fun _ e => e.elim)

set_option maxRecDepth 100000 in
set_option maxHeartbeats 1000000 in
theorem door_drop {w : World} {X : Nat} {F : Nat → Prop} {st : St} (h : Qat w X F st) (n : Nat) (hn : n ≤ 1) :
    Calls Try.prog 28 #[pt X, .int .i64 (n : Int)] w fun e w' => e = .returned (.tuple #[]) ∧ QOut w w' X F (st.drop n) := by
  obtain ⟨Q, hx, hlt, hc⟩ := h.drew.drop n hn
  have hx0 : w.cell? ⟨X, 0, none⟩ = some (pt Q) := hx
  have hlt0 : X < w.heap.size := hlt
  have HC := Lib.hid hc
  clear hc h
  go_enter Try.func28, Try.ntmps28
  go_region_with (first | (go_at_call 33; refine (level_any _ n (by omega)).mono ?_; rintro e w1 ⟨rfl, rfl⟩) | (go_at_call 38; refine HC.out.mono ?_; rintro e w2 ⟨rfl, h1⟩))
  all_goals (
    go_wp2_with fail
    go_end0
    exact ⟨rfl, h1.ofDrew⟩)

set_option maxRecDepth 100000 in
theorem newQ_any (w : World) : Calls Try.prog 31 #[] w fun e w' => ∃ Q, e = .returned (pt Q) ∧ w.heap.size ≤ Q ∧ Grow w w' ∧ ∃ b0 b1, b0 ≠ b1 ∧ w.heap.size ≤ b0 ∧ w.heap.size ≤ b1 ∧ Blk w' Q #[pt b0, pt b1, .slice none 0 0, .slice none 0 0] 181 ∧ Blk w' b0 #[.slice none 0 0, .slice none 0 0] 179 ∧ Blk w' b1 #[.slice none 0 0, .slice none 0 0] 179 := by
  go_enter Try.func31, Try.ntmps31
  go_wp2_with fail
  go_ret
  exact ⟨_, rfl, by omega, (((Fr.refl _ w).alloc _).alloc _).alloc _, w.heap.size, w.heap.size + 1, by omega, Nat.le_refl _, by omega, Blk.newAt _ _ _ _ (by simp), ((Blk.new w _ _).alloc _).alloc _, (Blk.newAt _ _ _ _ (by simp)).alloc _⟩
/-- The empty queue. -/
def St0 : St := ⟨some ([], []), some ([], []), ([], [])⟩
theorem fp_nil (k : Nat) : ¬ fp (.slice none 0 0) (.slice none 0 0) [] [] k := by
  rintro (e | e | ⟨_, h, _⟩ | ⟨_, h, _⟩)
  · cases e
  · cases e
  · cases h
  · cases h
set_option maxRecDepth 100000 in
theorem new_any (w : World) : Calls Try.prog 23 #[] w fun e w' => ∃ X F, e = .returned (pt X) ∧ w.heap.size ≤ X ∧ Grow w w' ∧ Qat w' X F St0 ∧ ∀ k, F k → w.heap.size ≤ k := by
  go_enter Try.func23, Try.ntmps23
  go_wp2_with fail
  refine (newQ_any w).mono ?_
  rintro e w1 ⟨Q, rfl, hQs, hG, b0, b1, hne, hb0, hb1, hQ, hB0, hB1⟩
  have H := Lib.hid (And.intro hQs (And.intro hG (And.intro hne (And.intro hb0 (And.intro hb1 (And.intro hQ (And.intro hB0 hB1)))))))
  clear hQs hG hne hb0 hb1 hQ hB0 hB1
  go_wp2_with fail
  go_ret
  obtain ⟨hQs, hG, hne, hb0, hb1, hQ, hB0, hB1⟩ := H.out
  refine ⟨w1.heap.size, fun k => k = Q ∨ k = b0 ∨ k = b1 ∨ False, rfl, hG.size, hG.alloc _, ⟨Q, pt b0, pt b1, .slice none 0 0, .slice none 0 0, [], [], fun k => k = b0, fun k => k = b1, fun _ => False, Blk.new w1 _ _, hQ.alloc _,
    ⟨b0, _, _, [], [], rfl, hB0.alloc _, LvE.nil _ _, rfl, fun k => ?_⟩, ⟨b1, _, _, [], [], rfl, hB1.alloc _, LvE.nil _ _, rfl, fun k => ?_⟩, LvE.nil _ _, rfl, fun k => ?_, fun k e => ⟨fun e' => hne (e.symm.trans e'), fun e => e⟩, fun k _ e => e, fun k => Iff.rfl⟩, fun k e => by rcases e with rfl | rfl | rfl | e <;> first | assumption | exact e.elim⟩
  · exact ⟨.inl, fun e => e.elim id (fun e => (fp_nil k e).elim)⟩
  · exact ⟨.inl, fun e => e.elim id (fun e => (fp_nil k e).elim)⟩
  · exact ⟨fun e => e.elim, fun e => fp_nil k e⟩
end Go.Proofs.Ytgdkbflhgcchfaa
