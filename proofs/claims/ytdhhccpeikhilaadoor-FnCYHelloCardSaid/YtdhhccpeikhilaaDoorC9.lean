/- Rows of structs that hold a slice of bytes: read and appended to; the acts with a CRYPTO stream and what is seen of them, in memory. -/
import Derived.Test.YtdhhccpeikhilaaDoorC8
namespace Go.Proofs.YtdhhccpeikhilaaDoor
open Go.RowKit

/-- An act with a CRYPTO stream; what is seen of it. -/
structure Stp where
  kind : Nat
  off : Nat
  most : Nat
  data : List UInt8
structure Sn where
  is : Bool
  has : Bool
  off : Nat
  data : List UInt8
  code : Nat

theorem flatten_get {size : Nat} : ∀ (L : List (List Value)) (i j : Nat) (l : List Value) (u : Value), (∀ l ∈ L, l.length = size) → L[i]? = some l → l[j]? = some u → L.flatten[i * size + j]? = some u
  | [], i, j, l, u, _, h, _ => by simp at h
  | l0 :: L, 0, j, l, u, hL, h, hu => by
    rw [List.getElem?_cons_zero] at h
    injection h with h; subst h
    have hj := (List.getElem?_eq_some_iff.1 hu).1
    rw [List.flatten_cons, Nat.zero_mul, Nat.zero_add, List.getElem?_append_left hj]; exact hu
  | l0 :: L, i + 1, j, l, u, hL, h, hu => by
    rw [List.getElem?_cons_succ] at h
    have h0 := hL l0 List.mem_cons_self
    rw [List.flatten_cons, List.getElem?_append_right (by rw [h0, Nat.add_mul, Nat.one_mul]; omega), h0, show (i + 1) * size + j - size = i * size + j from by rw [Nat.add_mul, Nat.one_mul]; omega]
    exact flatten_get L i j l u (fun l h => hL l (List.mem_cons_of_mem _ h)) h hu

/-- A slice of elements: cs says an element's cells where its bytes lie in the slice d. -/
def RowAt {α : Type} (cs : α → Value → List Value) (dat : α → List UInt8) (e : TypeId) (size : Nat) (w : World) (v : Value) (xs : List α) : Prop :=
  (∀ k, v.ownBlock = some k → ∃ (cur : Array Value) (f : Nat × Nat), w.heap[k]? = some (Obj.cells cur e f)) ∧ ∃ ds : List Value, ds.length = xs.length ∧ Own w v e size xs.length ((List.zipWith cs xs ds).flatten) ∧ ∀ (i : Nat) (x : α) (d : Value), xs[i]? = some x → ds[i]? = some d → Rd w d (dat x)

section
variable {α : Type} {cs : α → Value → List Value} {dat : α → List UInt8} {e : TypeId} {size : Nat} {w w' : World} {v : Value} {xs : List α}

theorem RowAt.nil (w : World) : RowAt cs dat e size w (.slice none 0 0) [] := ⟨fun _ h => (nomatch h), [], rfl, Own.nil w e size, fun _ _ _ h _ => nomatch h⟩
theorem RowAt.keep (h : RowAt cs dat e size w v xs) (hv : ∀ b, v.ownBlock = some b → w'.heap[b]? = w.heap[b]?) (hk : KeepB w w') : RowAt cs dat e size w' v xs := by
  obtain ⟨h0, ds, h1, h2, h3⟩ := h
  exact ⟨fun k hk2 => by obtain ⟨cur, f, h⟩ := h0 k hk2; exact ⟨cur, f, (hv k hk2).trans h⟩, ds, h1, h2.keep hv, fun i x d hx hd => (h3 i x d hx hd).keep hk⟩
theorem RowAt.lt (h : RowAt cs dat e size w v xs) {k : Nat} (hk : v.ownBlock = some k) : k < w.heap.size := by
  obtain ⟨cur, f, h⟩ := h.1 k hk
  exact (Array.getElem?_eq_some_iff.1 h).1
theorem RowAt.noBytes (he : e ≠ 5) (h : RowAt cs dat e size w v xs) {k : Nat} (hk : v.ownBlock = some k) : ¬ BytesBlk w k := by
  rintro ⟨c, f, hb⟩
  obtain ⟨cur, f', h⟩ := h.1 k hk
  have := Option.some.inj (h.symm.trans hb)
  injection this with _ e4 _
  exact he e4
theorem Own.lt {n : Nat} {ys : List Value} (h : Own w v e size n ys) (hn : 0 < n) : ∃ b, v.ownBlock = some b ∧ b < w.heap.size := by
  obtain ⟨b, off, cur, h1, h2, _⟩ := h.block hn
  exact ⟨b, h1, (Array.getElem?_eq_some_iff.1 h2).1⟩
theorem RowAt.slice (h : RowAt cs dat e size w v xs) : ∃ p c, v = .slice p xs.length c ∧ xs.length ≤ c ∧ c ≤ 9223372036854775807 := by
  obtain ⟨_, ds, _, ⟨_, p, c, rfl, h2, h3, _⟩, _⟩ := h
  exact ⟨p, c, rfl, h2, h3⟩
theorem RowAt.get (hcs : ∀ x d, (cs x d).length = size) (h : RowAt cs dat e size w v xs) {i : Nat} {x : α} (hx : xs[i]? = some x) :
    ∃ (b o c : Nat) (d : Value), v = .slice (some ⟨b, o, none⟩) xs.length c ∧ xs.length ≤ c ∧ c ≤ 9223372036854775807 ∧ Rd w d (dat x) ∧ (∀ (j : Nat) (u : Value), (cs x d)[j]? = some u → w.cell? ⟨b, o + (i * size + j), none⟩ = some u) ∧ ∃ cur, w.heap[b]? = some (.cells cur e (0, 0)) := by
  obtain ⟨_, ds, h1, ⟨h2, p, c, rfl, h4, h5, h6⟩, h7⟩ := h
  have hi := (List.getElem?_eq_some_iff.1 hx).1
  have hd : ds[i]? = some (ds[i]'(by omega)) := List.getElem?_eq_getElem (by omega)
  rcases h6 with h6 | ⟨b, o, cur, rfl, h8, h9, h10⟩
  · omega
  · refine ⟨b, o, c, _, rfl, h4, h5, h7 i x _ hx hd, fun j u hu => ?_, cur, h8⟩
    have hz : (List.zipWith cs xs ds)[i]? = some (cs x (ds[i]'(by omega))) := by
      rw [List.getElem?_zipWith, hx, hd]
    have := h10 (i * size + j) u (flatten_get _ i j _ u (fun l hl => by
      obtain ⟨m, hm⟩ := List.mem_iff_getElem?.1 hl
      rw [List.getElem?_zipWith] at hm
      split at hm
      · injection hm with hm; rw [← hm]; exact hcs _ _
      · cases hm) hz hu)
    simp [World.cell?, h8, this]

/-- One more element at the end. -/
theorem row_snoc {ds : List Value} (h1 : ds.length = xs.length) (h3 : ∀ (i : Nat) (x : α) (d : Value), xs[i]? = some x → ds[i]? = some d → Rd w d (dat x)) {x : α} {d v' : Value} (hk : KeepB w w') (hd : Rd w' d (dat x))
    (ho : Own w' v' e size (xs.length + 1) ((List.zipWith cs xs ds).flatten ++ cs x d)) : RowAt cs dat e size w' v' (xs ++ [x]) := by
  refine ⟨fun k hk2 => ?_, ds ++ [d], by simp [h1], ?_, fun i y d' hy hd' => ?_⟩
  · obtain ⟨b, off, cur, e1, e2, _⟩ := ho.block (by omega)
    have e3 : b = k := Option.some.inj (e1.symm.trans hk2)
    subst e3
    exact ⟨cur, _, e2⟩
  · rw [List.length_append, List.length_singleton, List.zipWith_append h1.symm]
    simpa using ho
  · rcases Nat.lt_or_ge i xs.length with c | c
    · rw [List.getElem?_append_left c] at hy
      rw [List.getElem?_append_left (by omega)] at hd'
      exact (h3 i y d' hy hd').keep hk
    · rw [List.getElem?_append_right c] at hy
      rw [List.getElem?_append_right (by omega), h1] at hd'
      cases hm : i - xs.length with
      | zero =>
        rw [hm] at hy hd'
        simp only [List.getElem?_cons_zero, Option.some.injEq] at hy hd'
        subst hy; subst hd'; exact hd
      | succ m => rw [hm] at hy; simp at hy
end

/-- 'append(s, x)' for a row of structs, for the walk: x's cells are news. -/
theorem wpList_appendRow {α : Type} {cs : α → Value → List Value} {dat : α → List UInt8} {e : TypeId} {size bytes : Nat} {t : TypeId} {i : TypeInfo} {z : Value} (hu : Tryd.prog.underlying t = some (.slice e)) (hi : Tryd.prog.info? e = some i) (hz : i.zero = some z)
    (hsize : i.size = size) (hby : i.bytes = bytes) (hzs : z.cells.size = size) (hpos : 0 < size) (hbs : bytes ≤ 1000)
    (w : World) {ops : Array Oper} {rest : List Oper} {o : Oper} {a : Act} {Q : Exit → Act → World → Prop} (hgd : o.guard = none) (s x : Operand)
    (ho : o.op = .call { callee := .builtin .append, args := #[s, x], argTypes := #[t, t] }) (sv xv : Value) (xs : List α) (y : α) (d : Value) (hrow : RowAt cs dat e size w sv xs) (hr : Src Tryd.prog size t xv 1 (cs y d) w) (hlen : xs.length ≤ 1000000)
    (hnb : e ≠ 5) (hd : Rd w d (dat y))
    (hs : a.eval s = sv) (hx : a.eval x = xv)
    (h : ∀ v' w', RowAt cs dat e size w' v' (xs ++ [y]) → Fr (fun k => sv.ownBlock = some k ∧ ¬ BytesBlk w k) w w' → (∀ k, v'.ownBlock = some k → sv.ownBlock = some k ∨ w.heap.size ≤ k) → wpList Tryd.prog ops Q rest (a.put o.dst v') w') : wpList Tryd.prog ops Q (o :: rest) a w := by
  refine wpList_plain hgd fun K hK => ?_
  obtain ⟨h0, ds, h1, h2, h3⟩ := id hrow
  obtain ⟨v', w', hrun, g1, g2, g3⟩ := run_appendOwn (P := Tryd.prog) h2 t t o.type i z bytes hu hi hz hsize hby hzs xv 1 (cs y d) hr (by omega) (by
    have := Nat.mul_le_mul_left (xs.length + 1) hbs
    omega) hpos
  unfold Oper.wp
  simp [execOp, ho, resolve, invoke, builtin, hs, hx, hrun, Result.andThen]
  have hF : Fr (fun k => sv.ownBlock = some k ∧ ¬ BytesBlk w k) w w' := g2.mono (fun k _ hk => ⟨hk, RowAt.noBytes hnb hrow hk⟩)
  exact hK _ _ (h v' w' (row_snoc h1 h3 (hF.bytes (fun k hk => hk.2)) (hd.keep (hF.bytes (fun k hk => hk.2))) g1) hF g3)

abbrev snC (y : Sn) (d : Value) : List Value := [.bool y.is, .bool y.has, .int .i64 (y.off : Int), d, .int .i64 (y.code : Int)]
abbrev stC (x : Stp) (d : Value) : List Value := [.int .i64 (x.kind : Int), .int .i64 (x.off : Int), .int .i64 (x.most : Int), d]
/-- What is seen of the acts, in memory; the acts. -/
abbrev SeenAt (w : World) (v : Value) (ys : List Sn) : Prop := RowAt snC Sn.data 41 5 w v ys
abbrev StepsAt (w : World) (v : Value) (xs : List Stp) : Prop := RowAt stC Stp.data 30 4 w v xs

theorem info41 : (Tryd.prog.info? 41).map (fun i => (i.zero, i.size, i.bytes)) = some (some (.agg #[.bool false, .bool false, .int .i64 0, .slice none 0 0, .int .i64 0]), 5, 48) := by kernel_rfl
theorem info30 : (Tryd.prog.info? 30).map (fun i => (i.zero, i.size, i.bytes)) = some (some (.agg #[.int .i64 0, .int .i64 0, .int .i64 0, .slice none 0 0]), 4, 48) := by kernel_rfl
end Go.Proofs.YtdhhccpeikhilaaDoor
