/- What push does where the frame ends in a later gap: words. -/
import Derived.Test.YtdhhccpeikhilaaDoorS8
namespace Go.Proofs.YtdhhccpeikhilaaDoor

/-- The gaps from m on up to k are filled: the entries behind each go. -/
inductive DelG (gs : List Gap) (m : Nat) (q : Q) : Nat → Q → Prop
  | start : DelG gs m q m q
  | next {k g q1 q2} (h : DelG gs m q k q1) (hg : gs[k]? = some g) (hd : DelC q1 g.e q2) : DelG gs m q (k + 1) q2

/-- What push does to the gaps and the queue, where the frame starts in gap i and ends in gap j. -/
def Push2 (gs : List Gap) (q : Q) (l : List UInt8) (a n : Nat) (gi gj : Gap) (i j : Nat) (inE : Bool) (gs6 : List Gap) (q6 : Q) : Prop :=
  ∃ (q1 : Q) (pos : Nat) (rep cut : Bool) (Z A : Nat) (hd : List Gap) (adj : Bool) (q2 q3 : Q) (Z2 : Nat), L1End (a + n) q a q1 pos rep cut Z ∧ A = (if decide (gi.s ≤ a) = false ∧ rep = false then gi.s else a) ∧
    HeadUp gs i gi A Z rep hd adj ∧ DelC q1 gi.e q2 ∧ DelG gs (i + 1) q2 j q3 ∧ Z2 = (if inE = false ∧ A ≠ gj.e ∧ gj.e < Z then gj.e else Z) ∧
    ((Z2 = gj.e ∧ gs6 = hd ++ gs.drop (j + 1)) ∨ (Z2 ≠ gj.e ∧ gs6 = hd ++ { gj with s := Z2 } :: gs.drop (j + 1))) ∧ q6 = putQ q3 A (seg l a A Z2)

theorem DelC.ok {q q' : Q} {p : Nat} (h : DelC q p q') (hok : QOk q) : QOk q' := by
  induction h with
  | stop => exact hok
  | step _ _ ih => exact ih (hok.rm _)

theorem get_head (hd gs : List Gap) (x : Nat) {g : Gap} (h : gs[x]? = some g) : (hd ++ gs.drop x)[hd.length]? = some g := by
  rw [List.getElem?_append_right (Nat.le_refl _), Nat.sub_self, List.getElem?_drop]; exact h
theorem get_head1 (hd gs : List Gap) (x : Nat) {g : Gap} (h : gs[x + 1]? = some g) : (hd ++ gs.drop x)[hd.length + 1]? = some g := by
  rw [List.getElem?_append_right (by omega), List.getElem?_drop, show x + (hd.length + 1 - hd.length) = x + 1 from by omega]; exact h
theorem erase_head (hd gs : List Gap) (x : Nat) : (hd ++ gs.drop x).eraseIdx hd.length = hd ++ gs.drop (x + 1) := by
  rw [List.eraseIdx_append_of_length_le (Nat.le_refl _), Nat.sub_self]
  cases h : gs.drop x with
  | nil =>
    have : gs.drop (x + 1) = [] := by rw [List.drop_eq_nil_iff] at h ⊢; omega
    rw [this]; rfl
  | cons a r => rw [List.eraseIdx_zero, List.tail_cons, ← List.drop_drop, h, List.drop_one, List.tail_cons]
theorem set_head (hd gs : List Gap) (x : Nat) (y : Gap) (h : x < gs.length) : (hd ++ gs.drop x).set hd.length y = hd ++ y :: gs.drop (x + 1) := by
  rw [List.set_append_right _ _ (Nat.le_refl _), Nat.sub_self]
  cases h' : gs.drop x with
  | nil => rw [List.drop_eq_nil_iff] at h'; omega
  | cons a r => rw [List.set_cons_zero, ← List.drop_drop, h', List.drop_one, List.tail_cons]

theorem HeadUp.sub2 {gs hd : List Gap} {i : Nat} {gi : Gap} {A Z : Nat} {rep adj : Bool} {bL : Nat} (h : HeadUp gs i gi A Z rep hd adj) (hgi : gs[i]? = some gi) (x k : Nat) (hk : listS bL (hd ++ gs.drop x) k) : listS bL gs k := by
  rcases hk with hk | ⟨g, hg, rfl⟩
  · exact .inl hk
  · rcases List.mem_append.1 hg with hg | hg
    · have : ∀ y : Gap, y.b = gi.b → g ∈ gs.take i ++ [y] → listS bL gs g.b := fun y e hm => by
        rcases List.mem_append.1 hm with hm | hm
        · exact .inr ⟨g, List.mem_of_mem_take hm, rfl⟩
        · rw [List.mem_singleton.1 hm, e]; exact listS_mem hgi
      rcases h with ⟨_, _, rfl, _⟩ | ⟨_, _, rfl, _⟩ | ⟨_, _, rfl, _⟩ | ⟨_, _, rfl, _⟩
      · exact .inr ⟨g, List.mem_of_mem_take hg, rfl⟩
      · exact this { gi with s := Z } rfl hg
      · exact this { gi with e := A } rfl hg
      · exact this gi rfl hg
    · exact .inr ⟨g, List.mem_of_mem_drop hg, rfl⟩
theorem listS_drop {bL : Nat} {gs hd : List Gap} {m x : Nat} (h : m ≤ x) (k : Nat) (hk : listS bL (hd ++ gs.drop x) k) : listS bL (hd ++ gs.drop m) k := by
  rcases hk with hk | ⟨g, hg, rfl⟩
  · exact .inl hk
  · rcases List.mem_append.1 hg with hg | hg
    · exact .inr ⟨g, List.mem_append_left _ hg, rfl⟩
    · refine .inr ⟨g, List.mem_append_right _ ?_, rfl⟩
      rw [show x = m + (x - m) from by omega, ← List.drop_drop] at hg
      exact List.mem_of_mem_drop hg
end Go.Proofs.YtdhhccpeikhilaaDoor
