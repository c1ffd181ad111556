/- The frame sorter's Push: what push says, but that a frame without anything new is no error. The frame sorter's plain law: gaps and queued bytes stay a partition of what lies ahead. No program here. -/
import Derived.Test.YtdhhccpeikhilaaDoorS12
import Derived.Test.YtdhhccpeikhilaaDoorS8b
namespace Go.Proofs.YtdhhccpeikhilaaDoor
open Go.RowKit
theorem eql_dup (w : World) : (binOp .eql 64 dupV dupV).run Tryd.prog w = .ok (.bool true) w := by kernel_rfl
theorem eql_nil (w : World) : (binOp .eql 64 .nilIface dupV).run Tryd.prog w = .ok (.bool false) w := by kernel_rfl

set_option maxRecDepth 100000 in
theorem Push_dup (w : World) (s d o : Value) (R : World → Prop) (h : Calls Tryd.prog 56 #[s, d, o, .nilFunc] w fun e w' => e = .returned dupV ∧ R w') :
    Calls Tryd.prog 47 #[s, d, o, .nilFunc] w fun e w' => e = .returned .nilIface ∧ R w' := by
  have he := eql_dup
  have hnf := neq_nilFunc
  go_enter Tryd.func47, Tryd.ntmps47
  go_wp2_with fail
  refine h.mono ?_
  rintro e w' ⟨rfl, hR⟩
  go_wp2_with fail
  go_ret
  exact ⟨rfl, hR⟩
set_option maxRecDepth 100000 in
theorem Push_nil (w : World) (s d o : Value) (R : World → Prop) (h : Calls Tryd.prog 56 #[s, d, o, .nilFunc] w fun e w' => e = .returned .nilIface ∧ R w') :
    Calls Tryd.prog 47 #[s, d, o, .nilFunc] w fun e w' => e = .returned .nilIface ∧ R w' := by
  have he := eql_nil
  go_enter Tryd.func47, Tryd.ntmps47
  go_wp2_with fail
  refine h.mono ?_
  rintro e w' ⟨rfl, hR⟩
  go_wp2_with fail
  go_ret
  exact ⟨rfl, hR⟩
end Go.Proofs.YtdhhccpeikhilaaDoor
namespace Go.Proofs.YtdhhccpeikhilaaDoor

/-- A place lies in a gap. -/
def InG (gs : List Gap) (x : Nat) : Prop := ∃ g ∈ gs, g.s ≤ x ∧ x < g.e

def MAXE : Nat := 4611686018427387903

/-- Gaps in order, from rp on, the last one without an end. -/
structure GapsOk (rp : Nat) (gs : List Gap) : Prop where
  pw : gs.Pairwise (fun g h => g.e < h.s)
  ne : ∀ g ∈ gs, g.s < g.e
  lo : ∀ g ∈ gs, rp ≤ g.s
  last : ∃ g, gs.getLast? = some g ∧ g.e = 4611686018427387903 ∧ g.s ≤ 16384

theorem GapsOk.sorted {rp : Nat} {gs : List Gap} (h : GapsOk rp gs) : Sorted gs := by
  refine ⟨fun i g hg => h.ne g (List.mem_of_getElem? hg), fun i j g k hg hk hij => ?_⟩
  obtain ⟨hi, rfl⟩ := List.getElem?_eq_some_iff.1 hg
  obtain ⟨hj, rfl⟩ := List.getElem?_eq_some_iff.1 hk
  exact List.pairwise_iff_getElem.1 h.pw i j hi hj hij

theorem GapsOk.le_s {rp : Nat} {gs : List Gap} (h : GapsOk rp gs) {g : Gap} (hg : g ∈ gs) : g.s ≤ 16384 := by
  obtain ⟨gl, hl, _, h2⟩ := h.last
  rw [List.getLast?_eq_getElem?] at hl
  obtain ⟨m, hm⟩ := List.mem_iff_getElem?.1 hg
  have hmlt := (List.getElem?_eq_some_iff.1 hm).1
  rcases Nat.eq_or_lt_of_le (show m ≤ gs.length - 1 by omega) with e | e
  · subst e; have := Option.some.inj (hm.symm.trans hl); rw [this]; exact h2
  · have := h.sorted.2 m _ g gl hm hl e; have := h.sorted.1 _ _ hm; omega

structure Good (rp : Nat) (gs : List Gap) (q : Q) : Prop where
  ap : Apart q
  ge : ∀ k d, q k = some d → rp ≤ k ∧ k + d.length ≤ 16384
  gaps : GapsOk rp gs
  cov : ∀ x, rp ≤ x → x ≤ 16384 → (Cov q x ↔ ¬ InG gs x)

/-- THE NEW GAPS: those ahead, what is left of gap i, what is left of gap j, those behind. -/
theorem gaps6 {rp a z i j : Nat} {gs : List Gap} {gi gj : Gap} {inE : Bool} (hG : GapsOk rp gs) (hij : i ≤ j) (hi : StartGap gs a i gi) (hj : EndAt gs i z j gj inE) (haz : a < z) (hz : z ≤ 16384) (hgz : gi.s < z)
    {M1 M2 : List Gap} (h1 : (gi.s < a ∧ ∃ b, M1 = [⟨b, gi.s, a⟩]) ∨ (a ≤ gi.s ∧ M1 = [])) (h2 : (z < gj.e ∧ ∃ b, M2 = [⟨b, z, gj.e⟩]) ∨ (gj.e ≤ z ∧ M2 = [])) :
    GapsOk rp (gs.take i ++ M1 ++ M2 ++ gs.drop (j + 1)) ∧ ∀ x, InG (gs.take i ++ M1 ++ M2 ++ gs.drop (j + 1)) x ↔ InG gs x ∧ ¬ (a ≤ x ∧ x < z) := by
  have hs := hG.sorted
  have hgi := hi.1
  have hgj := hj.1
  have hjl : j < gs.length := (List.getElem?_eq_some_iff.1 hgj).1
  have hgie : gi.s < gi.e := hs.1 _ _ hgi
  have hgje : gj.s < gj.e := hs.1 _ _ hgj
  have hgij : gi.s ≤ gj.s := by
    rcases Nat.eq_or_lt_of_le hij with h | h
    · subst h
      have := Option.some.inj (hgi.symm.trans hgj); rw [this]; exact Nat.le_refl _
    · have := hs.2 i j gi gj hgi hgj h; omega
  have hP : ∀ g ∈ gs.take i, g.e < a ∧ g ∈ gs ∧ g.e < gi.s := fun g hg => by
    obtain ⟨k, hk⟩ := List.mem_iff_getElem?.1 hg
    rw [List.getElem?_take] at hk
    split at hk
    · exact ⟨hi.2.2 k g (by assumption) hk, List.mem_of_getElem? hk, hs.2 k i g gi hk hgi (by assumption)⟩
    · cases hk
  have hR : ∀ g ∈ gs.drop (j + 1), z < g.s ∧ g ∈ gs ∧ gj.e < g.s := fun g hg => by
    obtain ⟨k, hk⟩ := List.mem_iff_getElem?.1 hg
    rw [List.getElem?_drop] at hk
    have h3 := hs.2 j (j + 1 + k) gj g hgj hk (by omega)
    refine ⟨?_, List.mem_of_getElem? hk, h3⟩
    rcases hj.2 with ⟨_, _, _, x, _⟩ | ⟨_, _, ⟨h, x, x2⟩, _⟩
    · omega
    · rcases Nat.eq_zero_or_pos k with e | e
      · subst e
        have := Option.some.inj (x.symm.trans hk); rw [← this]; exact x2
      · have := hs.2 (j + 1) (j + 1 + k) h g x hk (by omega)
        have := hs.1 _ _ x
        omega
  have hM : ∀ k g, gs[k]? = some g → i ≤ k → k ≤ j → gi.s ≤ g.s ∧ g.e ≤ gj.e ∧ (k = i ∨ a ≤ g.s) ∧ (k = j ∨ g.e ≤ z) := fun k g hk h1 h2 => by
    refine ⟨?_, ?_, ?_, ?_⟩
    · rcases Nat.eq_or_lt_of_le h1 with h | h
      · subst h; have := Option.some.inj (hgi.symm.trans hk); rw [this]; exact Nat.le_refl _
      · have := hs.2 i k gi g hgi hk h; omega
    · rcases Nat.eq_or_lt_of_le h2 with h | h
      · subst h; have := Option.some.inj (hgj.symm.trans hk); rw [this]; exact Nat.le_refl _
      · have := hs.2 k j g gj hk hgj h; have := hs.1 _ _ hk; omega
    · rcases Nat.eq_or_lt_of_le h1 with h | h
      · exact .inl h.symm
      · have := hs.2 i k gi g hgi hk h; have := hi.2.1; exact .inr (by omega)
    · rcases Nat.eq_or_lt_of_le h2 with h | h
      · exact .inl h
      · refine .inr ?_
        rcases hj.2 with ⟨_, _, _, _, x⟩ | ⟨_, _, _, x⟩
        · exact x k g h1 h hk
        · exact x k g h1 h2 hk
  have hzj : z < gj.e ∨ gj.e ≤ z := Nat.lt_or_ge _ _
  have hzs : gj.s ≤ z := by
    rcases hj.2 with ⟨_, _, x, _⟩ | ⟨_, x0, _, x⟩
    · exact x
    · have := x j gj hij (Nat.le_refl _) hgj; omega
  have m1 : ∀ g ∈ M1, g.s = gi.s ∧ g.e = a ∧ gi.s < a := fun g hg => by
    rcases h1 with ⟨c, b, rfl⟩ | ⟨c, rfl⟩
    · rw [List.mem_singleton.1 hg]; exact ⟨rfl, rfl, c⟩
    · simp at hg
  have m2 : ∀ g ∈ M2, g.s = z ∧ g.e = gj.e ∧ z < gj.e := fun g hg => by
    rcases h2 with ⟨c, b, rfl⟩ | ⟨c, rfl⟩
    · rw [List.mem_singleton.1 hg]; exact ⟨rfl, rfl, c⟩
    · simp at hg
  have mem : ∀ g, g ∈ gs.take i ++ M1 ++ M2 ++ gs.drop (j + 1) ↔ g ∈ gs.take i ∨ g ∈ M1 ∨ g ∈ M2 ∨ g ∈ gs.drop (j + 1) := fun g => by
    simp only [List.mem_append]; constructor
    · rintro (((h | h) | h) | h) <;> simp [h]
    · rintro (h | h | h | h) <;> simp [h]
  refine ⟨⟨?_, ?_, ?_, ?_⟩, fun x => ?_⟩
  · rw [List.pairwise_append, List.pairwise_append, List.pairwise_append]
    refine ⟨⟨⟨hG.pw.sublist (List.take_sublist _ _), ?_, fun g hg h hh => ?_⟩, ?_, fun g hg h hh => ?_⟩, hG.pw.sublist (List.drop_sublist _ _), fun g hg h hh => ?_⟩
    · rcases h1 with ⟨c, b, rfl⟩ | ⟨c, rfl⟩ <;> simp
    · have := hP g hg; have := m1 h hh; omega
    · rcases h2 with ⟨c, b, rfl⟩ | ⟨c, rfl⟩ <;> simp
    · have h4 := m2 h hh
      rcases List.mem_append.1 hg with hg | hg
      · have := hP g hg; omega
      · have := m1 g hg; omega
    · have h4 := hR h hh
      rcases List.mem_append.1 hg with hg | hg
      · rcases List.mem_append.1 hg with hg | hg
        · have := hP g hg; omega
        · have := m1 g hg; omega
      · have := m2 g hg; omega
  · intro g hg
    rcases (mem g).1 hg with h | h | h | h
    · exact hG.ne g (hP g h).2.1
    · have := m1 g h; omega
    · have := m2 g h; omega
    · exact hG.ne g (hR g h).2.1
  · intro g hg
    have l1 := hG.lo gi (List.mem_of_getElem? hgi)
    rcases (mem g).1 hg with h | h | h | h
    · exact hG.lo g (hP g h).2.1
    · have := m1 g h; omega
    · have := m2 g h; omega
    · exact hG.lo g (hR g h).2.1
  · obtain ⟨gl, hl, e1, e2⟩ := hG.last
    rcases Nat.lt_or_ge (j + 1) gs.length with c | c
    · refine ⟨gl, ?_, e1, e2⟩
      rw [List.getLast?_append, List.getLast?_drop, if_neg (by omega), hl]
      rfl
    · have hjj : j + 1 = gs.length := by omega
      rw [List.getLast?_eq_getElem?, ← hjj, Nat.add_sub_cancel, hgj] at hl
      injection hl with hl
      subst hl
      have hd : gs.drop (j + 1) = [] := List.drop_eq_nil_of_le (by omega)
      rw [hd, List.append_nil]
      rcases h2 with ⟨c, b, rfl⟩ | ⟨c, rfl⟩
      · exact ⟨⟨b, z, gj.e⟩, by rw [List.getLast?_append]; rfl, e1, hz⟩
      · omega
  · constructor
    · rintro ⟨g, hg, x1, x2⟩
      rcases (mem g).1 hg with h | h | h | h
      · have := hP g h; exact ⟨⟨g, this.2.1, x1, x2⟩, by omega⟩
      · have := m1 g h; have := hi.2.1; exact ⟨⟨gi, List.mem_of_getElem? hgi, by omega, by omega⟩, by omega⟩
      · have := m2 g h; exact ⟨⟨gj, List.mem_of_getElem? hgj, by omega, by omega⟩, by omega⟩
      · have := hR g h; exact ⟨⟨g, this.2.1, x1, x2⟩, by omega⟩
    · rintro ⟨⟨g, hg, x1, x2⟩, hx⟩
      obtain ⟨k, hk⟩ := List.mem_iff_getElem?.1 hg
      rcases Nat.lt_or_ge k i with c | c
      · exact ⟨g, (mem g).2 (.inl (List.mem_of_getElem? (by rw [List.getElem?_take, if_pos c]; exact hk))), x1, x2⟩
      · rcases Nat.lt_or_ge j k with c2 | c2
        · exact ⟨g, (mem g).2 (.inr (.inr (.inr (List.mem_of_getElem? (i := k - (j + 1)) (by rw [List.getElem?_drop, show j + 1 + (k - (j + 1)) = k from by omega]; exact hk))))), x1, x2⟩
        · obtain ⟨y1, y2, y3, y4⟩ := hM k g hk c c2
          rcases Nat.lt_or_ge x a with c3 | c3
          · have hki : k = i := by rcases y3 with y3 | y3; exact y3; omega
            subst hki
            have := Option.some.inj (hgi.symm.trans hk)
            subst this
            rcases h1 with ⟨c4, b, rfl⟩ | ⟨c4, rfl⟩
            · exact ⟨_, (mem _).2 (.inr (.inl (List.mem_singleton.2 rfl))), x1, c3⟩
            · omega
          · have hkj : k = j := by rcases y4 with y4 | y4; exact y4; omega
            subst hkj
            have := Option.some.inj (hgj.symm.trans hk)
            subst this
            rcases h2 with ⟨c4, b, rfl⟩ | ⟨c4, rfl⟩
            · exact ⟨_, (mem _).2 (.inr (.inr (.inl (List.mem_singleton.2 rfl)))), by show z ≤ x; omega, x2⟩
            · omega
end Go.Proofs.YtdhhccpeikhilaaDoor
