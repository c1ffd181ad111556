/- Frames as interface values: what is called through them. -/
import Derived.Test.YtgdkbflhgcchfaaA5
namespace Go.Proofs.Ytgdkbflhgcchfaa
open Go.RowKit

/-- A method called through the interface value fv. -/
def Inv (w : World) (fv : Value) (name : String) (args : Array Value) (R : Value → World → Prop) : Prop :=
  ∃ (T : TypeId) (a : Addr) (f : FuncId), fv = .iface T (.pointer (some a)) ∧ (∀ w, (callMethod fv name args).run Try.prog w = .ok (.enter f (#[.pointer (some a)] ++ args)) w) ∧ Calls Try.prog f (#[.pointer (some a)] ++ args) w (fun e w' => ∃ v, e = .returned v ∧ R v w')
theorem Inv.mono {w : World} {fv : Value} {name : String} {args : Array Value} {R R' : Value → World → Prop} (h : Inv w fv name args R) (hR : ∀ v w', R v w' → R' v w') : Inv w fv name args R' := by
  obtain ⟨T, a, f, h1, h2, h3⟩ := h
  exact ⟨T, a, f, h1, h2, h3.mono fun _ _ ⟨v, e, r⟩ => ⟨v, e, hR _ _ r⟩⟩
theorem wpList_invoke {w : World} {ops : Array Oper} {rest : List Oper} {o : Oper} {a : Act} {Q : Exit → Act → World → Prop} (hgd : o.guard = none) (x : Operand) (name : String) (xs : Array Operand) (ts : Array TypeId)
    (ho : o.op = .call { callee := .invoke x name, args := xs, argTypes := ts }) {fv : Value} {args : Array Value} {R : Value → World → Prop} (hI : Inv w fv name args R) (hx : a.eval x = fv) (hxs : xs.map a.eval = args)
    (h : ∀ v' w', R v' w' → wpList Try.prog ops Q rest (a.put o.dst v') w') : wpList Try.prog ops Q (o :: rest) a w := by
  refine wpList_plain hgd fun K hK => ?_
  obtain ⟨T, p, f, h1, h2, h3⟩ := hI
  have hrun : (execOp a.eval o).run Try.prog w = .ok (.enter f (#[.pointer (some p)] ++ args)) w := by
    have := h2 w
    have e0 : (#[fv] ++ args)[0]? = some fv := by simp [Array.getElem?_append]
    simp [execOp, ho, resolve, invoke, hx, hxs]
    rw [e0]
    exact this
  unfold Oper.wp
  rw [hrun, Oper.upon_enter]
  refine h3.mono ?_
  rintro e w' ⟨v, rfl, hR⟩
  exact hK _ _ (h v w' hR)

/-- fv is the frame c, at block p. -/
def FrC (w : World) (p : Nat) (c : Ct) (fv : Value) : Prop := match c with
  | .ping => fv = .iface 165 (.pointer (some ⟨p, 0, none⟩)) ∧ Blk w p #[] 166
  | .done => fv = .iface 162 (.pointer (some ⟨p, 0, none⟩)) ∧ Blk w p #[] 164
  | .reset a b => fv = .iface 112 (.pointer (some ⟨p, 0, none⟩)) ∧ Blk w p #[.int .i64 (a : Int), .int .u64 (b : Int), .int .i64 (a : Int), .int .i64 0] 116
  | .stop a b => fv = .iface 117 (.pointer (some ⟨p, 0, none⟩)) ∧ Blk w p #[.int .i64 (a : Int), .int .u64 (b : Int)] 119
  | .maxStream a b => fv = .iface 129 (.pointer (some ⟨p, 0, none⟩)) ∧ Blk w p #[.int .i64 (a : Int), .int .i64 (b : Int)] 131
  | .maxData a => fv = .iface 126 (.pointer (some ⟨p, 0, none⟩)) ∧ Blk w p #[.int .i64 (a : Int)] 128
  | .maxStreams a => fv = .iface 132 (.pointer (some ⟨p, 0, none⟩)) ∧ Blk w p #[.int .u8 1, .int .i64 (a : Int)] 135
  | .retire a => fv = .iface 152 (.pointer (some ⟨p, 0, none⟩)) ∧ Blk w p #[.int .u64 (a : Int)] 154
  | .token d => fv = .iface 123 (.pointer (some ⟨p, 0, none⟩)) ∧ ∃ dv, Rd w dv d ∧ Blk w p #[dv] 125
  | .crypto a d => fv = .iface 120 (.pointer (some ⟨p, 0, none⟩)) ∧ ∃ dv, Rd w dv d ∧ Blk w p #[.int .i64 (a : Int), dv] 122
theorem cm_ping_app (a : Addr) (args : Array Value) (w : World) : (callMethod (.iface 165 (.pointer (some a))) "Append" args).run Try.prog w = .ok (.enter 99 (#[.pointer (some a)] ++ args)) w := by kernel_rfl
theorem cm_ping_len (a : Addr) (args : Array Value) (w : World) : (callMethod (.iface 165 (.pointer (some a))) "Length" args).run Try.prog w = .ok (.enter 100 (#[.pointer (some a)] ++ args)) w := by kernel_rfl
theorem cm_done_app (a : Addr) (args : Array Value) (w : World) : (callMethod (.iface 162 (.pointer (some a))) "Append" args).run Try.prog w = .ok (.enter 97 (#[.pointer (some a)] ++ args)) w := by kernel_rfl
theorem cm_done_len (a : Addr) (args : Array Value) (w : World) : (callMethod (.iface 162 (.pointer (some a))) "Length" args).run Try.prog w = .ok (.enter 98 (#[.pointer (some a)] ++ args)) w := by kernel_rfl
theorem cm_reset_app (a : Addr) (args : Array Value) (w : World) : (callMethod (.iface 112 (.pointer (some a))) "Append" args).run Try.prog w = .ok (.enter 65 (#[.pointer (some a)] ++ args)) w := by kernel_rfl
theorem cm_reset_len (a : Addr) (args : Array Value) (w : World) : (callMethod (.iface 112 (.pointer (some a))) "Length" args).run Try.prog w = .ok (.enter 66 (#[.pointer (some a)] ++ args)) w := by kernel_rfl
theorem cm_stop_app (a : Addr) (args : Array Value) (w : World) : (callMethod (.iface 117 (.pointer (some a))) "Append" args).run Try.prog w = .ok (.enter 68 (#[.pointer (some a)] ++ args)) w := by kernel_rfl
theorem cm_stop_len (a : Addr) (args : Array Value) (w : World) : (callMethod (.iface 117 (.pointer (some a))) "Length" args).run Try.prog w = .ok (.enter 69 (#[.pointer (some a)] ++ args)) w := by kernel_rfl
theorem cm_maxStream_app (a : Addr) (args : Array Value) (w : World) : (callMethod (.iface 129 (.pointer (some a))) "Append" args).run Try.prog w = .ok (.enter 75 (#[.pointer (some a)] ++ args)) w := by kernel_rfl
theorem cm_maxStream_len (a : Addr) (args : Array Value) (w : World) : (callMethod (.iface 129 (.pointer (some a))) "Length" args).run Try.prog w = .ok (.enter 76 (#[.pointer (some a)] ++ args)) w := by kernel_rfl
theorem cm_maxData_app (a : Addr) (args : Array Value) (w : World) : (callMethod (.iface 126 (.pointer (some a))) "Append" args).run Try.prog w = .ok (.enter 73 (#[.pointer (some a)] ++ args)) w := by kernel_rfl
theorem cm_maxData_len (a : Addr) (args : Array Value) (w : World) : (callMethod (.iface 126 (.pointer (some a))) "Length" args).run Try.prog w = .ok (.enter 74 (#[.pointer (some a)] ++ args)) w := by kernel_rfl
theorem cm_maxStreams_app (a : Addr) (args : Array Value) (w : World) : (callMethod (.iface 132 (.pointer (some a))) "Append" args).run Try.prog w = .ok (.enter 77 (#[.pointer (some a)] ++ args)) w := by kernel_rfl
theorem cm_maxStreams_len (a : Addr) (args : Array Value) (w : World) : (callMethod (.iface 132 (.pointer (some a))) "Length" args).run Try.prog w = .ok (.enter 78 (#[.pointer (some a)] ++ args)) w := by kernel_rfl
theorem cm_retire_app (a : Addr) (args : Array Value) (w : World) : (callMethod (.iface 152 (.pointer (some a))) "Append" args).run Try.prog w = .ok (.enter 91 (#[.pointer (some a)] ++ args)) w := by kernel_rfl
theorem cm_retire_len (a : Addr) (args : Array Value) (w : World) : (callMethod (.iface 152 (.pointer (some a))) "Length" args).run Try.prog w = .ok (.enter 92 (#[.pointer (some a)] ++ args)) w := by kernel_rfl
theorem cm_token_app (a : Addr) (args : Array Value) (w : World) : (callMethod (.iface 123 (.pointer (some a))) "Append" args).run Try.prog w = .ok (.enter 71 (#[.pointer (some a)] ++ args)) w := by kernel_rfl
theorem cm_token_len (a : Addr) (args : Array Value) (w : World) : (callMethod (.iface 123 (.pointer (some a))) "Length" args).run Try.prog w = .ok (.enter 72 (#[.pointer (some a)] ++ args)) w := by kernel_rfl
theorem cm_crypto_app (a : Addr) (args : Array Value) (w : World) : (callMethod (.iface 120 (.pointer (some a))) "Append" args).run Try.prog w = .ok (.enter 70 (#[.pointer (some a)] ++ args)) w := by kernel_rfl
theorem cm_crypto_len (a : Addr) (args : Array Value) (w : World) : (callMethod (.iface 120 (.pointer (some a))) "Length" args).run Try.prog w = .ok (.enter 45 (#[.pointer (some a)] ++ args)) w := by kernel_rfl
theorem FrC.lt {w : World} {p : Nat} {c : Ct} {fv : Value} (h : FrC w p c fv) : p < w.heap.size := by
  cases c
  case ping => exact h.2.lt
  case done => exact h.2.lt
  case reset => exact h.2.lt
  case stop => exact h.2.lt
  case maxStream => exact h.2.lt
  case maxData => exact h.2.lt
  case maxStreams => exact h.2.lt
  case retire => exact h.2.lt
  case token => exact h.2.choose_spec.2.lt
  case crypto => exact h.2.choose_spec.2.lt
theorem FrC.keep {w w' : World} {p : Nat} {c : Ct} {fv : Value} (h : FrC w p c fv) (hp : w'.heap[p]? = w.heap[p]?) (hk : KeepB w w') : FrC w' p c fv := by
  cases c
  case ping => exact ⟨h.1, h.2.same hp⟩
  case done => exact ⟨h.1, h.2.same hp⟩
  case reset => exact ⟨h.1, h.2.same hp⟩
  case stop => exact ⟨h.1, h.2.same hp⟩
  case maxStream => exact ⟨h.1, h.2.same hp⟩
  case maxData => exact ⟨h.1, h.2.same hp⟩
  case maxStreams => exact ⟨h.1, h.2.same hp⟩
  case retire => exact ⟨h.1, h.2.same hp⟩
  case token => obtain ⟨e, dv, h1, h2⟩ := h; exact ⟨e, dv, h1.keep hk, h2.same hp⟩
  case crypto => obtain ⟨e, dv, h1, h2⟩ := h; exact ⟨e, dv, h1.keep hk, h2.same hp⟩
theorem FrC.grow {w w' : World} {p : Nat} {c : Ct} {fv : Value} (h : FrC w p c fv) (hg : Grow w w') : FrC w' p c fv := h.keep (hg.block p h.lt (fun e => e)) hg.bytes
theorem FrC.ne {w : World} {p : Nat} {c : Ct} {fv : Value} (h : FrC w p c fv) : ∃ T, fv = .iface T (.pointer (some ⟨p, 0, none⟩)) := by
  cases c
  case ping => exact ⟨_, h.1⟩
  case done => exact ⟨_, h.1⟩
  case reset => exact ⟨_, h.1⟩
  case stop => exact ⟨_, h.1⟩
  case maxStream => exact ⟨_, h.1⟩
  case maxData => exact ⟨_, h.1⟩
  case maxStreams => exact ⟨_, h.1⟩
  case retire => exact ⟨_, h.1⟩
  case token => exact ⟨_, h.1⟩
  case crypto => exact ⟨_, h.1⟩
theorem inv_append {w : World} {p : Nat} {c : Ct} {fv : Value} (h : FrC w p c fv) (ho : c.Ok) : Inv w fv "Append" #[.slice none 0 0, .int .u32 1] (fun v w' => ∃ bv, v = .tuple #[bv, .nilIface] ∧ Buf w w' bv c.enc) := by
  obtain ⟨ha, hb, hm⟩ := ho
  cases c
  case ping  =>
    obtain ⟨rfl, hB⟩ := h
    refine ⟨_, _, _, rfl, fun w => cm_ping_app _ _ w, (app_ping w p hB).mono ?_⟩
    rintro e w' ⟨v, rfl, hbuf⟩
    exact ⟨_, rfl, v, rfl, hbuf⟩
  case done  =>
    obtain ⟨rfl, hB⟩ := h
    refine ⟨_, _, _, rfl, fun w => cm_done_app _ _ w, (app_done w p hB).mono ?_⟩
    rintro e w' ⟨v, rfl, hbuf⟩
    exact ⟨_, rfl, v, rfl, hbuf⟩
  case reset a b =>
    obtain ⟨rfl, hB⟩ := h
    refine ⟨_, _, _, rfl, fun w => cm_reset_app _ _ w, (app_reset w p a b hB ha hb).mono ?_⟩
    rintro e w' ⟨v, rfl, hbuf⟩
    exact ⟨_, rfl, v, rfl, hbuf⟩
  case stop a b =>
    obtain ⟨rfl, hB⟩ := h
    refine ⟨_, _, _, rfl, fun w => cm_stop_app _ _ w, (app_stop w p a b hB ha hb).mono ?_⟩
    rintro e w' ⟨v, rfl, hbuf⟩
    exact ⟨_, rfl, v, rfl, hbuf⟩
  case maxStream a b =>
    obtain ⟨rfl, hB⟩ := h
    refine ⟨_, _, _, rfl, fun w => cm_maxStream_app _ _ w, (app_maxStream w p a b hB ha hb).mono ?_⟩
    rintro e w' ⟨v, rfl, hbuf⟩
    exact ⟨_, rfl, v, rfl, hbuf⟩
  case maxData a =>
    obtain ⟨rfl, hB⟩ := h
    refine ⟨_, _, _, rfl, fun w => cm_maxData_app _ _ w, (app_maxData w p a hB ha).mono ?_⟩
    rintro e w' ⟨v, rfl, hbuf⟩
    exact ⟨_, rfl, v, rfl, hbuf⟩
  case maxStreams a =>
    obtain ⟨rfl, hB⟩ := h
    refine ⟨_, _, _, rfl, fun w => cm_maxStreams_app _ _ w, (app_maxStreams w p a hB ha).mono ?_⟩
    rintro e w' ⟨v, rfl, hbuf⟩
    exact ⟨_, rfl, v, rfl, hbuf⟩
  case retire a =>
    obtain ⟨rfl, hB⟩ := h
    refine ⟨_, _, _, rfl, fun w => cm_retire_app _ _ w, (app_retire w p a hB ha).mono ?_⟩
    rintro e w' ⟨v, rfl, hbuf⟩
    exact ⟨_, rfl, v, rfl, hbuf⟩
  case token d =>
    obtain ⟨rfl, dv, hr, hB⟩ := h
    refine ⟨_, _, _, rfl, fun w => cm_token_app _ _ w, (app_token w p dv d hB hr hm).mono ?_⟩
    rintro e w' ⟨v, rfl, hbuf⟩
    exact ⟨_, rfl, v, rfl, hbuf⟩
  case crypto a d =>
    obtain ⟨rfl, dv, hr, hB⟩ := h
    refine ⟨_, _, _, rfl, fun w => cm_crypto_app _ _ w, (app_crypto w p a dv d hB ha hr hm).mono ?_⟩
    rintro e w' ⟨v, rfl, hbuf⟩
    exact ⟨_, rfl, v, rfl, hbuf⟩
theorem inv_length {w : World} {p : Nat} {c : Ct} {fv : Value} (h : FrC w p c fv) (ho : c.Ok) : Inv w fv "Length" #[.int .u32 1] (fun v w' => v = .int .i64 (c.enc.length : Int) ∧ Grow w w') := by
  obtain ⟨ha, hb, hm⟩ := ho
  cases c
  case ping  =>
    obtain ⟨rfl, hB⟩ := h
    refine ⟨_, _, _, rfl, fun w => cm_ping_len _ _ w, (len_ping w p hB).mono ?_⟩
    rintro e w' ⟨rfl, hg⟩
    exact ⟨_, rfl, by simp [Ct.enc], hg⟩
  case done  =>
    obtain ⟨rfl, hB⟩ := h
    refine ⟨_, _, _, rfl, fun w => cm_done_len _ _ w, (len_done w p hB).mono ?_⟩
    rintro e w' ⟨rfl, hg⟩
    exact ⟨_, rfl, by simp [Ct.enc], hg⟩
  case reset a b =>
    obtain ⟨rfl, hB⟩ := h
    refine ⟨_, _, _, rfl, fun w => cm_reset_len _ _ w, (len_reset w p a b hB ha hb).mono ?_⟩
    rintro e w' ⟨rfl, hg⟩
    exact ⟨_, rfl, by simp [Ct.enc, V_length]; try omega, hg⟩
  case stop a b =>
    obtain ⟨rfl, hB⟩ := h
    refine ⟨_, _, _, rfl, fun w => cm_stop_len _ _ w, (len_stop w p a b hB ha hb).mono ?_⟩
    rintro e w' ⟨rfl, hg⟩
    exact ⟨_, rfl, by simp [Ct.enc, V_length]; try omega, hg⟩
  case maxStream a b =>
    obtain ⟨rfl, hB⟩ := h
    refine ⟨_, _, _, rfl, fun w => cm_maxStream_len _ _ w, (len_maxStream w p a b hB ha hb).mono ?_⟩
    rintro e w' ⟨rfl, hg⟩
    exact ⟨_, rfl, by simp [Ct.enc, V_length]; try omega, hg⟩
  case maxData a =>
    obtain ⟨rfl, hB⟩ := h
    refine ⟨_, _, _, rfl, fun w => cm_maxData_len _ _ w, (len_maxData w p a hB ha).mono ?_⟩
    rintro e w' ⟨rfl, hg⟩
    exact ⟨_, rfl, by simp [Ct.enc, V_length]; try omega, hg⟩
  case maxStreams a =>
    obtain ⟨rfl, hB⟩ := h
    refine ⟨_, _, _, rfl, fun w => cm_maxStreams_len _ _ w, (len_maxStreams w p a hB ha).mono ?_⟩
    rintro e w' ⟨rfl, hg⟩
    exact ⟨_, rfl, by simp [Ct.enc, V_length]; try omega, hg⟩
  case retire a =>
    obtain ⟨rfl, hB⟩ := h
    refine ⟨_, _, _, rfl, fun w => cm_retire_len _ _ w, (len_retire w p a hB ha).mono ?_⟩
    rintro e w' ⟨rfl, hg⟩
    exact ⟨_, rfl, by simp [Ct.enc, V_length]; try omega, hg⟩
  case token d =>
    obtain ⟨rfl, dv, hr, hB⟩ := h
    refine ⟨_, _, _, rfl, fun w => cm_token_len _ _ w, (len_token w p dv d hB hr hm).mono ?_⟩
    rintro e w' ⟨rfl, hg⟩
    exact ⟨_, rfl, by simp [Ct.enc, V_length]; try omega, hg⟩
  case crypto a d =>
    obtain ⟨rfl, dv, hr, hB⟩ := h
    refine ⟨_, _, _, rfl, fun w => cm_crypto_len _ _ w, (len_crypto w p a dv d hB ha hr hm).mono ?_⟩
    rintro e w' ⟨rfl, hg⟩
    exact ⟨_, rfl, by simp [Ct.enc, V_length]; try omega, hg⟩
/-- A control as the statements hold it. -/
def ctlV (c : Ct) (d : Value) : Value := .agg #[.int .i64 (c.ty : Int), .int .u64 (c.a : Int), .int .u64 (c.b : Int), .int .u64 (c.c : Int), d]
theorem frame_any (w : World) (c : Ct) (d : Value) (hd : Rd w d c.data) (ho : c.Ok) : Calls Try.prog 25 #[ctlV c d] w fun e w' => ∃ p fv, e = .returned fv ∧ w.heap.size ≤ p ∧ Grow w w' ∧ FrC w' p c fv := by
  obtain ⟨ha, hb, hm⟩ := ho
  cases c
  case ping  =>
    refine (frame_ping w d [] hd (by first | exact hm | decide)).mono ?_
    rintro e w' ⟨p, rfl, h1, h2, h4⟩
    exact ⟨p, _, rfl, h1, h2, rfl, h4⟩
  case done  =>
    refine (frame_done w d [] hd (by first | exact hm | decide)).mono ?_
    rintro e w' ⟨p, rfl, h1, h2, h4⟩
    exact ⟨p, _, rfl, h1, h2, rfl, h4⟩
  case reset a b =>
    refine (frame_reset w a b d [] hd (by first | exact hm | decide) ha).mono ?_
    rintro e w' ⟨p, rfl, h1, h2, h4⟩
    exact ⟨p, _, rfl, h1, h2, rfl, h4⟩
  case stop a b =>
    refine (frame_stop w a b d [] hd (by first | exact hm | decide) ha).mono ?_
    rintro e w' ⟨p, rfl, h1, h2, h4⟩
    exact ⟨p, _, rfl, h1, h2, rfl, h4⟩
  case maxStream a b =>
    refine (frame_maxStream w a b d [] hd (by first | exact hm | decide) ha hb).mono ?_
    rintro e w' ⟨p, rfl, h1, h2, h4⟩
    exact ⟨p, _, rfl, h1, h2, rfl, h4⟩
  case maxData a =>
    refine (frame_maxData w a d [] hd (by first | exact hm | decide) ha).mono ?_
    rintro e w' ⟨p, rfl, h1, h2, h4⟩
    exact ⟨p, _, rfl, h1, h2, rfl, h4⟩
  case maxStreams a =>
    refine (frame_maxStreams w a d [] hd (by first | exact hm | decide) ha).mono ?_
    rintro e w' ⟨p, rfl, h1, h2, h4⟩
    exact ⟨p, _, rfl, h1, h2, rfl, h4⟩
  case retire a =>
    refine (frame_retire w a d [] hd (by first | exact hm | decide) ha).mono ?_
    rintro e w' ⟨p, rfl, h1, h2, h4⟩
    exact ⟨p, _, rfl, h1, h2, rfl, h4⟩
  case token m =>
    refine (frame_token w d m hd (by first | exact hm | decide)).mono ?_
    rintro e w' ⟨p, rfl, h1, h2, dv, h3, h4⟩
    exact ⟨p, _, rfl, h1, h2, rfl, dv, h3, h4⟩
  case crypto a m =>
    refine (frame_crypto w a d m hd (by first | exact hm | decide) ha).mono ?_
    rintro e w' ⟨p, rfl, h1, h2, dv, h3, h4⟩
    exact ⟨p, _, rfl, h1, h2, rfl, dv, h3, h4⟩
end Go.Proofs.Ytgdkbflhgcchfaa
