/- Copying bytes into a row of the call's own. -/
import Derived.Test.YtdhhccpeikhilaaDoorS6
namespace Go.Proofs.YtdhhccpeikhilaaDoor
open Go.RowKit

theorem info5 : (Tryd.prog.info? 5).map (fun i => (i.zero, i.size, i.bytes)) = some (some (.int .u8 0), 1, 1) := by kernel_rfl

/-- The bytes of a slice, made anew. -/
theorem wpList_copyNew {w : World} {ops : Array Oper} {rest : List Oper} {o : Oper} {a : Act} {Q : Exit → Act → World → Prop} (hgd : o.guard = none) (d s : Operand)
    (ho : o.op = .call { callee := .builtin .copy, args := #[d, s], argTypes := #[26, 26] }) (g : Nat) (hg : g + 1 = w.heap.size) (cur : Array Value) (hcur : w.heap[g]? = some (.cells cur 5 (0, 0))) (l : List UInt8) (hsz : cur.size = l.length) (sv : Value) (hr : Rd w sv l) (m : Nat) (hm : l.length = m)
    (hd : a.eval d = .slice (some ⟨g, 0, none⟩) m m) (hs : a.eval s = sv) (hcap : l.length ≤ 9223372036854775807)
    (h : ∀ w', Rd w' (.slice (some ⟨g, 0, none⟩) m m) l → Fr (fun k => k = g) w w' → wpList Tryd.prog ops Q rest (a.put o.dst (goInt m)) w') : wpList Tryd.prog ops Q (o :: rest) a w := by
  subst hm
  obtain ⟨p, c, rfl, h1, h2, h3⟩ := hr
  have hlen : (l.map u8).length = l.length := List.length_map _
  refine wpList_copy_splice hgd d s 26 26 ho 5 Tryd.underlying26 ?_ (some ⟨g, 0, none⟩) p l.length l.length l.length c hd hs g 0 cur.toList 5 (by simpa using hcur) (l.map u8) ?_ ?_ ?_ ?_ g w ⟨rfl, rfl, rfl, Nat.le_refl _, fun _ _ => rfl⟩ (Nat.le_refl _) ?_
  · have := info5
    cases hi : Tryd.prog.info? 5 with
    | none => rw [hi] at this; cases this
    | some i => rw [hi] at this; simp only [Option.map_some, Option.some.injEq, Prod.mk.injEq] at this ⊢; exact this.2.1
  · rw [hlen]; exact (Nat.min_self _).symm
  · intro hp
    rw [hlen] at hp
    obtain ⟨b, o', rfl, hr⟩ := h3 (fun e => by rw [e] at hp; exact Nat.lt_irrefl _ hp)
    refine ⟨rfl, _, rfl, fun j v hv => ?_⟩
    rw [List.getElem?_map] at hv
    obtain ⟨x, hx, rfl⟩ := Option.map_eq_some_iff.1 hv
    have := hr.2 j x hx
    simp only [Addr.add]
    split
    · subst_vars; exact this
    · exact this
  · rw [hlen, Nat.zero_add]; simpa using Nat.le_of_eq hsz.symm
  · intro v hv
    obtain ⟨x, _, rfl⟩ := List.mem_map.1 hv
    rfl
  · intro w' hw' hb
    have hw' := hw'.out
    rw [hlen]
    have hsp : splice cur.toList 0 (l.map u8) = l.map u8 := by simp [splice, hsz]
    rw [hsp] at hw'
    refine h w' ⟨_, _, rfl, Nat.le_refl _, hcap, fun _ => ⟨g, 0, rfl, ⟨_, _, hw'⟩, fun i x hx => ?_⟩⟩ ⟨hb.os, hb.tape, hb.output, hb.size, fun k hk hne => hb.block k (by have : k ≠ g := hne; omega)⟩
    simp only [World.cell?, hw', Nat.zero_add]
    simp [hx]

theorem ListAt.fr {w w' : World} {bL : Nat} {gs : List Gap} {S : Nat → Prop} (h : ListAt w bL gs) (hf : Fr S w w') (hS : ∀ k, S k → ¬ listS bL gs k) : ListAt w' bL gs :=
  h.same (hf.block bL h.root.lt (fun e => hS _ e (.inl rfl))) (fun g hg => by
    obtain ⟨k, hk⟩ := List.mem_iff_getElem?.1 hg
    exact hf.block g.b (h.node k g hk).lt (fun e => hS _ e (.inr ⟨g, hg, rfl⟩)))
end Go.Proofs.YtdhhccpeikhilaaDoor
