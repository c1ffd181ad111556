/- Small facts for the walk of the frame sorter's push. -/
import Derived.Test.YtdhhccpeikhilaaDoorS4
import Derived.Deep.CutBlock
namespace Go.Proofs.YtdhhccpeikhilaaDoor
open Go.RowKit

/-- Two elements' addresses, compared: by their places in the list. -/
theorem eqlGap {w : World} {bL : Nat} {gs : List Gap} (hL : ListAt w bL gs) {i j : Nat} {g h : Gap} (hg : gs[i]? = some g) (hh : gs[j]? = some h) :
    (binOp .eql 121 (pt g.b) (pt h.b)).run Tryd.prog w = .ok (.bool (decide (i = j))) w := by
  by_cases e : i = j
  · subst e
    have hb : g.b = h.b := same_gap hg hh
    rw [hb, ptrE_eql_same, decide_eq_true rfl]
  · have hne : g.b ≠ h.b := fun eb => e (hL.inj i j g h hg hh eb)
    rw [ptrE_eql_other hne (hL.node i g hg) (hL.node j h hh), decide_eq_false e]

/-- The next element's address, or nil. -/
def nxv (gs : List Gap) (i : Nat) : Value := match gs[i + 1]? with | some q => pt q.b | none => .pointer none
theorem next_call' {w : World} {bL : Nat} {gs : List Gap} (hL : ListAt w bL gs) {i : Nat} {g : Gap} (hg : gs[i]? = some g) :
    Calls Tryd.prog 68 #[pt g.b] w fun e w' => e = .returned (nxv gs i) ∧ w = w' := by
  unfold nxv
  cases h : gs[i + 1]? with
  | some q => exact next_call hL hg h
  | none => exact next_call_nil hL hg (by simpa using h)

theorem slice26 (w : World) : (sizeOf 5).run Tryd.prog w = .ok 1 w := by kernel_rfl
theorem run_sliceTo (w : World) (p : Option Addr) (n c k : Nat) (h : k ≤ c) : (Instr.slice 26 (.slice p n c) none (some (.int .i64 (k : Int))) none).run Tryd.prog w = .ok (.slice p k c) w := by
  cases p <;> simp [Instr.slice, run_underlying Tryd.underlying26, Instr.sliceBounds, Instr.sliceBound, asIntOf, Addr.add] <;> (intro; omega)
theorem run_sliceFrom (w : World) (p : Option Addr) (n c k : Nat) (h : k ≤ n) : (Instr.slice 26 (.slice p n c) (some (.int .i64 (k : Int))) none none).run Tryd.prog w = .ok (.slice (if c = k then p else p.map (·.add k)) (n - k) (c - k)) w := by
  cases p <;> simp [Instr.slice, run_underlying Tryd.underlying26, Instr.sliceBounds, Instr.sliceBound, asIntOf] <;> (intro; omega)

theorem Rd.take {w : World} {p : Option Addr} {n c : Nat} {l : List UInt8} (h : Rd w (.slice p n c) l) (k : Nat) (hk : k ≤ l.length) : Rd w (.slice p k c) (l.take k) := by
  obtain ⟨p', c', e, h1, h2, h3⟩ := h
  injection e with e1 e2 e3
  subst e1; subst e2; subst e3
  refine ⟨p, c, by rw [List.length_take, Nat.min_eq_left hk], by rw [List.length_take]; omega, h2, fun hne => ?_⟩
  obtain ⟨b, o, rfl, hr⟩ := h3 (fun e => hne (by simp [e]))
  refine ⟨b, o, rfl, hr.1, fun i x hx => hr.2 i x ?_⟩
  rw [List.getElem?_take] at hx
  split at hx
  · exact hx
  · cases hx
theorem Rd.drop {w : World} {p : Option Addr} {n c : Nat} {l : List UInt8} (h : Rd w (.slice p n c) l) (k : Nat) (hk : k ≤ l.length) : Rd w (.slice (if c = k then p else p.map (·.add k)) (n - k) (c - k)) (l.drop k) := by
  obtain ⟨p', c', e, h1, h2, h3⟩ := h
  injection e with e1 e2 e3
  subst e1; subst e2; subst e3
  refine ⟨_, _, by rw [List.length_drop], by rw [List.length_drop]; omega, by omega, fun hne => ?_⟩
  have hlt : k < l.length := by
    rcases Nat.lt_or_ge k l.length with h | h
    · exact h
    · exact (hne (List.drop_eq_nil_of_le h)).elim
  obtain ⟨b, o, rfl, hr⟩ := h3 (fun e => by rw [e] at hlt; simp at hlt)
  rw [if_neg (by omega)]
  refine ⟨b, o + k, ?_, hr.1, fun i x hx => ?_⟩
  · simp only [Option.map_some, Addr.add]; split
    · subst_vars; rfl
    · rfl
  · rw [List.getElem?_drop] at hx
    have := hr.2 (k + i) x hx
    rwa [show o + k + i = o + (k + i) from by omega]

/-- The error that a frame with nothing new is told by. -/
abbrev dupV : Value := .iface 123 (.string { data := #[100, 117, 112, 108, 105, 99, 97, 116, 101, 32, 115, 116, 114, 101, 97, 109, 32, 100, 97, 116, 97] })

/-- What the search for the end says, in one form. -/
def EndAt (gs : List Gap) (i0 z j : Nat) (g : Gap) (inE : Bool) : Prop := gs[j]? = some g ∧
  ((inE = true ∧ i0 ≤ j ∧ g.s ≤ z ∧ z < g.e ∧ ∀ (k : Nat) (h : Gap), i0 ≤ k → k < j → gs[k]? = some h → h.e ≤ z) ∨
   (inE = false ∧ i0 ≤ j + 1 ∧ (∃ h, gs[j + 1]? = some h ∧ z < h.s) ∧ ∀ (k : Nat) (h : Gap), i0 ≤ k → k ≤ j → gs[k]? = some h → h.e ≤ z))

theorem findEnd' (w : World) (bS bL : Nat) (gs : List Gap) (z i0 : Nat) (zi : Int) (hz : zi = (z : Int)) (g0 : Gap) (hL : ListAt w bL gs) (hg0 : gs[i0]? = some g0)
    (hex : ∃ (i : Nat) (g : Gap), gs[i]? = some g ∧ i0 ≤ i ∧ z < g.e) (hb : ∀ g ∈ gs, g.e ≤ 4611686018427387903 ∧ g.s ≤ g.e)
    (hfirst : ∀ g, gs[0]? = some g → g.s ≤ z) :
    Calls Tryd.prog 67 #[pt bS, pt g0.b, .int .i64 zi] w fun e w' => ∃ j gj inE, EndAt gs i0 z j gj inE ∧ e = .returned (.tuple #[pt gj.b, .bool inE]) ∧ w = w' := by
  subst hz
  refine (findEnd_any w bS bL gs z i0 g0 hL hg0 hex hb hfirst).mono ?_
  rintro e w' ⟨rfl, i, g, ⟨h1, h2, h3, h4⟩, h | ⟨h5, j, q, rfl, hq, h6⟩⟩
  · exact ⟨i, g, true, ⟨h1, .inl ⟨rfl, h2, h.1, h3, h4⟩⟩, h.2, rfl⟩
  · exact ⟨j, q, false, ⟨hq, .inr ⟨rfl, h2, ⟨g, h1, h5⟩, fun k h hk hkj hh => h4 k h hk (by omega) hh⟩⟩, h6, rfl⟩

/-- Gaps lie one behind the other. -/
def Sorted (gs : List Gap) : Prop := (∀ (i : Nat) (g : Gap), gs[i]? = some g → g.s < g.e) ∧ ∀ (i j : Nat) (g h : Gap), gs[i]? = some g → gs[j]? = some h → i < j → g.e < h.s

theorem StartGap.unique {gs : List Gap} {x i j : Nat} {g h : Gap} (h1 : StartGap gs x i g) (h2 : StartGap gs x j h) : i = j := by
  obtain ⟨a1, a2, a3⟩ := h1
  obtain ⟨b1, b2, b3⟩ := h2
  rcases Nat.lt_trichotomy i j with c | c | c
  · have := b3 i g c a1; omega
  · exact c
  · have := a3 j h c b1; omega

theorem findStart_det (w : World) (bS bL : Nat) (gs : List Gap) (x : Nat) {c : Array Value} {T : TypeId} (hS : Blk w bS c T) (h2 : c[2]? = some (pt bL)) (hL : ListAt w bL gs)
    (hb : ∀ g ∈ gs, g.e ≤ 4611686018427387903 ∧ g.s ≤ g.e) {i : Nat} {gi : Gap} (hsg : StartGap gs x i gi) :
    Calls Tryd.prog 66 #[pt bS, .int .i64 (x : Int)] w fun e w' => e = .returned (.tuple #[pt gi.b, .bool (decide (gi.s ≤ x))]) ∧ w = w' := by
  refine (findStart_any w bS bL gs x hS h2 hL ⟨i, gi, hsg.1, hsg.2.1⟩ hb).mono ?_
  rintro e w' ⟨j, g, hj, rfl, rfl⟩
  have e1 := hj.unique hsg
  subst e1
  have : some g = some gi := hj.1.symm.trans hsg.1
  injection this with this
  subst this
  exact ⟨rfl, rfl⟩

theorem EndAt.unique {gs : List Gap} {i0 z j k : Nat} {g h : Gap} {b b' : Bool} (hs : Sorted gs) (h1 : EndAt gs i0 z j g b) (h2 : EndAt gs i0 z k h b') : j = k ∧ b = b' := by
  obtain ⟨a1, a2⟩ := h1
  obtain ⟨b1, b2⟩ := h2
  rcases a2 with ⟨rfl, x1, x2, x3, x4⟩ | ⟨rfl, x1, ⟨gx, x2, x3⟩, x4⟩ <;> rcases b2 with ⟨rfl, y1, y2, y3, y4⟩ | ⟨rfl, y1, ⟨gy, y2, y3⟩, y4⟩
  · refine ⟨?_, rfl⟩
    rcases Nat.lt_trichotomy j k with c | c | c
    · have := y4 j g x1 c a1; omega
    · exact c
    · have := x4 k h y1 c b1; omega
  · exfalso
    rcases Nat.lt_or_ge k j with c | c
    · rcases Nat.lt_or_ge (k + 1) j with d | d
      · have := x4 (k + 1) gy y1 d y2; have := hs.1 _ _ y2; omega
      · have e : k + 1 = j := by omega
        subst e
        rw [a1] at y2; injection y2 with y2; subst y2; omega
    · have := y4 j g x1 c a1; omega
  · exfalso
    rcases Nat.lt_or_ge j k with c | c
    · rcases Nat.lt_or_ge (j + 1) k with d | d
      · have := y4 (j + 1) gx x1 d x2; have := hs.1 _ _ x2; omega
      · have e : j + 1 = k := by omega
        subst e
        rw [b1] at x2; injection x2 with x2; subst x2; omega
    · have := x4 k h y1 c b1; omega
  · refine ⟨?_, rfl⟩
    rcases Nat.lt_trichotomy j k with c | c | c
    · rcases Nat.lt_or_ge (j + 1) (k + 1) with d | d
      · have := y4 (j + 1) gx x1 (by omega) x2; have := hs.1 _ _ x2; omega
      · omega
    · exact c
    · have := x4 (k + 1) gy y1 (by omega) y2; have := hs.1 _ _ y2; omega

theorem findEnd_det (w : World) (bS bL : Nat) (gs : List Gap) (z i0 : Nat) (zi : Int) (hz : zi = (z : Int)) (g0 : Gap) (hL : ListAt w bL gs) (hg0 : gs[i0]? = some g0)
    (hb : ∀ g ∈ gs, g.e ≤ 4611686018427387903 ∧ g.s ≤ g.e) (hs : Sorted gs) (hfirst : ∀ g, gs[0]? = some g → g.s ≤ z) {j : Nat} {gj : Gap} {inE : Bool} (he : EndAt gs i0 z j gj inE) :
    Calls Tryd.prog 67 #[pt bS, pt g0.b, .int .i64 zi] w fun e w' => e = .returned (.tuple #[pt gj.b, .bool inE]) ∧ w = w' := by
  refine (findEnd' w bS bL gs z i0 zi hz g0 hL hg0 ?_ hb hfirst).mono ?_
  · obtain ⟨h1, h2⟩ := he
    rcases h2 with ⟨_, x1, x2, x3, _⟩ | ⟨_, x1, ⟨gx, x2, x3⟩, _⟩
    · exact ⟨j, gj, h1, x1, x3⟩
    · exact ⟨j + 1, gx, x2, x1, by have := hs.1 _ _ x2; omega⟩
  · rintro e w' ⟨k, g, b, hk, rfl, rfl⟩
    obtain ⟨rfl, rfl⟩ := hk.unique hs he
    have : some g = some gj := hk.1.symm.trans he.1
    injection this with this
    subst this
    exact ⟨rfl, rfl⟩
end Go.Proofs.YtdhhccpeikhilaaDoor
