/- The reference's state in memory; its next frame. -/
import Derived.Test.YtgdkbflhgcchfaaB6
import Derived.Test.YtgdkbflhgcchfaaB1
namespace Go.Proofs.Ytgdkbflhgcchfaa
open Go.RowKit

theorem other_ct (w : World) (c : Ct) (d : Value) (hd : Rd w d c.data) (ho : c.Ok) (ht : c.ty ≠ 6) : Calls Try.prog 7 #[ctlV c d] w fun e w' => ∃ v', e = .returned v' ∧ Buf w w' v' c.enc := by
  obtain ⟨ha, hb, hm⟩ := ho
  cases c
  case ping => exact other_ping w 0 0 0 d [] hd (by omega) (by omega) (by omega) (by decide)
  case done => exact other_done w 0 0 0 d [] hd (by omega) (by omega) (by omega) (by decide)
  case reset a b => exact other_reset w a b a d [] hd ha hb ha (by decide)
  case stop a b => exact other_stop w a b 0 d [] hd ha hb (by omega) (by decide)
  case maxStream a b => exact other_maxStream w a b 0 d [] hd ha hb (by omega) (by decide)
  case maxData a => exact other_maxData w a 0 0 d [] hd ha (by omega) (by omega) (by decide)
  case maxStreams a => exact other_maxStreams w a 0 0 d [] hd ha (by omega) (by omega) (by decide)
  case retire a => exact other_retire w a 0 0 d [] hd ha (by omega) (by omega) (by decide)
  case token m => exact other_token w 0 0 0 d m hd (by omega) (by omega) (by omega) hm
  case crypto => exact (ht rfl).elim

/-- What is behind the first element of a row. -/
abbrev tlS (rb off size n cap : Nat) : Value := .slice (if cap = 1 then some ⟨rb, off, none⟩ else some ⟨rb, off + size, none⟩) n (cap - 1)
theorem tlS_own (rb off size n cap : Nat) : (tlS rb off size n cap).ownBlock = some rb := by
  unfold tlS; split <;> rfl
theorem RowAt.head {α : Type} {cs : α → Value → List Value} {dat : α → List UInt8} {e : TypeId} {size : Nat} {w : World} {v : Value} {x : α} {xs : List α} (hcs : ∀ x d, (cs x d).length = size) (h : RowAt cs dat e size w v (x :: xs)) :
    ∃ rb off cap d, v = .slice (some ⟨rb, off, none⟩) (xs.length + 1) cap ∧ xs.length + 1 ≤ cap ∧ cap ≤ 9223372036854775807 ∧ Rd w d (dat x) ∧ (∀ (j : Nat) (u : Value), (cs x d)[j]? = some u → w.cell? ⟨rb, off + j, none⟩ = some u) ∧ rb < w.heap.size ∧ (∀ i, w.frozen? ⟨rb, i, none⟩ = false) ∧ RowAt cs dat e size w (tlS rb off size xs.length cap) xs := by
  obtain ⟨h0, ds, h1, ⟨h2, p, cap, rfl, h4, h5, h6⟩, h7⟩ := h
  cases ds with
  | nil => simp at h1
  | cons d ds =>
    simp only [List.length_cons] at h1 h4
    rcases h6 with h6 | ⟨b, off, cur, rfl, h8, h9, h10⟩
    · omega
    · refine ⟨b, off, cap, d, rfl, h4, h5, h7 0 x d rfl rfl, fun j u hj => ?_, (Array.getElem?_eq_some_iff.1 h8).1, fun i => by simp [World.frozen?, h8], fun k hk => ?_, ds, by omega, ?_, fun i y d' hy hd' => h7 (i + 1) y d' (by simpa using hy) (by simpa using hd')⟩
      · have := h10 j u (by
          simp only [List.zipWith_cons_cons, List.flatten_cons]
          rw [List.getElem?_append_left (List.getElem?_eq_some_iff.1 hj).1]; exact hj)
        simp [World.cell?, h8, this]
      · rw [tlS_own] at hk
        injection hk with hk; subst hk
        exact ⟨cur, _, h8⟩
      · refine ⟨?_, _, _, rfl, by omega, by omega, ?_⟩
        · simp only [List.zipWith_cons_cons, List.flatten_cons, List.length_append, hcs, List.length_cons] at h2
          rw [Nat.add_mul] at h2; omega
        · by_cases c : cap = 1
          · exact .inl (by omega)
          · rw [if_neg c]
            refine .inr ⟨b, off + size, cur, rfl, h8, ?_, fun j u hj => ?_⟩
            · have : size + (cap - 1) * size = cap * size := by
                rw [show cap = (cap - 1) + 1 from by omega, Nat.add_mul]; simp; omega
              omega
            · have := h10 (size + j) u (by
                simp only [List.zipWith_cons_cons, List.flatten_cons]
                rw [List.getElem?_append_right (by rw [hcs]; omega), hcs, show size + j - size = j from by omega]; exact hj)
              rwa [show off + size + j = off + (size + j) from by omega]
abbrev cC (x : Nat × List UInt8) (d : Value) : List Value := [.int .i64 (x.1 : Int), d]
abbrev cO (_ : Ct) (d : Value) : List Value := [d]
abbrev RowC (w : World) (v : Value) (cs : List (Nat × List UInt8)) : Prop := RowAt cC Prod.snd 73 2 w v cs
abbrev RowO (w : World) (v : Value) (os : List Ct) : Prop := RowAt cO Ct.enc 31 1 w v os
theorem RowC.setHead {w : World} {rb off n cap a' : Nat} {d' : Value} {l' : List UInt8} {x : Nat × List UInt8} {cs : List (Nat × List UInt8)} (h : RowC w (.slice (some ⟨rb, off, none⟩) n cap) (x :: cs)) (hd : Rd w d' l') :
    RowC ((w.setCell ⟨rb, off, none⟩ (.int .i64 (a' : Int))).setCell ⟨rb, off + 1, none⟩ d') (.slice (some ⟨rb, off, none⟩) n cap) ((a', l') :: cs) := by
  obtain ⟨h0, ds, h1, ⟨h2, p, cap', e, h4, h5, h6⟩, h7⟩ := h
  injection e with e1 e2 e3
  subst e1 e2 e3
  cases ds with
  | nil => simp at h1
  | cons d ds =>
    simp only [List.length_cons] at h1 h4
    rcases h6 with h6 | ⟨b, off', cur, e, h8, h9, h10⟩
    · omega
    · injection e with e
      injection e with e1 e2 _
      subst e1 e2
      have hb : Blk w rb cur 73 := h8
      have hb2 : Blk ((w.setCell ⟨rb, off, none⟩ (.int .i64 (a' : Int))).setCell ⟨rb, off + 1, none⟩ d') rb ((cur.setIfInBounds off (.int .i64 (a' : Int))).setIfInBounds (off + 1) d') 73 := (hb.set off _).set (off + 1) _
      have hF : Fr (fun k => k = rb) w ((w.setCell ⟨rb, off, none⟩ (.int .i64 (a' : Int))).setCell ⟨rb, off + 1, none⟩ d') := ((Fr.refl (fun k => k = rb) w).setCell ⟨rb, off, none⟩ _ (.inl rfl)).setCell ⟨rb, off + 1, none⟩ _ (.inl rfl)
      have hK := hF.bytes (fun k hk => by rw [show k = rb from hk]; exact hb.noBytes (by decide))
      refine ⟨fun k hk => ?_, d' :: ds, by simp; omega, ⟨?_, _, _, rfl, by simpa using h4, h5, .inr ⟨rb, off, _, rfl, hb2, by simpa using h9, fun j u hj => ?_⟩⟩, fun i y d'' hy hd'' => ?_⟩
      · have : rb = k := Option.some.inj hk
        subst this; exact ⟨_, _, hb2⟩
      · simpa using h2
      · simp only [List.zipWith_cons_cons, List.flatten_cons] at hj h10
        have hsz : off + 2 ≤ cur.size := by
          have : 1 * 2 ≤ cap * 2 := Nat.mul_le_mul_right _ (by omega)
          omega
        match j, hj with
        | 0, hj =>
          have : Value.int .i64 (a' : Int) = u := by simpa using hj
          show ((cur.setIfInBounds off (.int .i64 (a' : Int))).setIfInBounds (off + 1) d')[off]? = some u
          rw [Array.getElem?_setIfInBounds_ne (by omega), Array.getElem?_setIfInBounds_self_of_lt (by omega), this]
        | 1, hj =>
          have : d' = u := by simpa using hj
          show ((cur.setIfInBounds off (.int .i64 (a' : Int))).setIfInBounds (off + 1) d')[off + 1]? = some u
          rw [Array.getElem?_setIfInBounds_self_of_lt (by simp; omega), this]
        | j + 2, hj =>
          rw [Array.getElem?_setIfInBounds_ne (by omega), Array.getElem?_setIfInBounds_ne (by omega)]
          exact h10 (j + 2) u (by simpa using hj)
      · cases i with
        | zero =>
          simp only [List.getElem?_cons_zero, Option.some.injEq] at hy hd''
          subst hy; subst hd''
          exact hd.keep hK
        | succ i => exact (h7 (i + 1) y d'' (by simpa using hy) (by simpa using hd'')).keep hK
end Go.Proofs.Ytgdkbflhgcchfaa
