/- The frame sorter's searches in its list of gaps. -/
import Derived.Test.YtdhhccpeikhilaaDoorL3
import Derived.Deep.LoopGhost
import Derived.Deep.DeepCutAuto
namespace Go.Proofs.YtdhhccpeikhilaaDoor
open Go.RowKit

theorem ne_nil (b : Nat) (w : World) : (binOp .neq 121 (pt b) (.pointer none)).run Tryd.prog w = .ok (.bool true) w := by
  have := run_neq_pointer_nil (P := Tryd.prog) w 121 (some ⟨b, 0, none⟩) (by simp [Program.pointee, Tryd.underlying121])
  simpa using this

/-- Gap i is the first one that ends at x or behind it. -/
def StartGap (gs : List Gap) (x i : Nat) (g : Gap) : Prop := gs[i]? = some g ∧ x ≤ g.e ∧ ∀ (j : Nat) (h : Gap), j < i → gs[j]? = some h → h.e < x

set_option maxHeartbeats 1000000 in
theorem findStart_any (w : World) (bS bL : Nat) (gs : List Gap) (x : Nat) {c : Array Value} {T : TypeId} (hS : Blk w bS c T) (h2 : c[2]? = some (pt bL)) (hL : ListAt w bL gs)
    (hex : ∃ (i : Nat) (g : Gap), gs[i]? = some g ∧ x ≤ g.e) (hb : ∀ g ∈ gs, g.e ≤ 4611686018427387903 ∧ g.s ≤ g.e) :
    Calls Tryd.prog 66 #[pt bS, .int .i64 (x : Int)] w fun e w' => ∃ (i : Nat) (g : Gap), StartGap gs x i g ∧ e = .returned (.tuple #[pt g.b, .bool (decide (g.s ≤ x))]) ∧ w = w' := by
  have c2 := hS.cellAt 2 _ h2
  obtain ⟨n, gl, hgl, hxl⟩ := hex
  have hlen : n < gs.length := (List.getElem?_eq_some_iff.1 hgl).1
  obtain ⟨g0, hg0⟩ : ∃ g0, gs[0]? = some g0 := ⟨_, List.getElem?_eq_getElem (by omega)⟩
  go_enter Tryd.func66, Tryd.ntmps66
  go_wp2_with fail
  refine (front_call hL hg0).mono ?_
  rintro e w' ⟨rfl, rfl⟩
  go_wp2_with fail
  go_loopg [6] gs.length (fun k s6 wr => w = wr ∧ ∃ (i : Nat) (g : Gap), gs[i]? = some g ∧ s6 = pt g.b ∧ k + i = gs.length ∧ ∀ (j : Nat) (h : Gap), j < i → gs[j]? = some h → h.e < x)
  case atStart => exact ⟨rfl, 0, g0, hg0, rfl, by omega, fun j h hj => by omega⟩
  case round =>
    obtain ⟨rfl, i, g, hg, rfl, hk, hlt⟩ := hrel
    have hbg := hb g (List.mem_of_getElem? hg)
    have hn := hL.node i g hg
    have f3 := hn.cellAt 3 _ rfl
    have f4 := hn.cellAt 4 _ rfl
    have hnn := ne_nil g.b
    by_cases hs : g.s ≤ x
    · by_cases he : x ≤ g.e
      · go_wp2_with fail
        go_ret2
        exact ⟨i, g, ⟨hg, he, hlt⟩, by simp [hs], rfl⟩
      · have hi : i + 1 < gs.length := by
          rcases Nat.lt_or_ge (i + 1) gs.length with h | h
          · exact h
          · exfalso
            have : n ≤ i := by omega
            rcases Nat.lt_or_ge n i with h1 | h1
            · have := hlt n gl h1 hgl; omega
            · have e : n = i := by omega
              subst e
              rw [hgl] at hg; have := Option.some.inj hg; subst this; omega
        obtain ⟨q, hq⟩ : ∃ q, gs[i + 1]? = some q := ⟨_, List.getElem?_eq_getElem hi⟩
        go_wp2_with fail
        refine (next_call hL hg hq).mono ?_
        rintro e w' ⟨rfl, rfl⟩
        go_wp2_with fail
        go_roundg (gk - 1)
        case measure => omega
        case rel =>
          refine ⟨rfl, i + 1, q, hq, rfl, by omega, fun j h hj hh => ?_⟩
          rcases Nat.lt_or_ge j i with h1 | h1
          · exact hlt j h h1 hh
          · have e : j = i := by omega
            subst e
            rw [hg] at hh; have := Option.some.inj hh; subst this; omega
    · go_wp2_with fail
      go_ret2
      exact ⟨i, g, ⟨hg, by omega, hlt⟩, by simp [hs], rfl⟩

/-- Where the search for the end stops: gap i is the first one from i0 on that ends behind z. -/
def EndGap (gs : List Gap) (i0 z i : Nat) (g : Gap) : Prop := gs[i]? = some g ∧ i0 ≤ i ∧ z < g.e ∧ ∀ (j : Nat) (h : Gap), i0 ≤ j → j < i → gs[j]? = some h → h.e ≤ z

set_option maxHeartbeats 1000000 in
theorem findEnd_any (w : World) (bS bL : Nat) (gs : List Gap) (z i0 : Nat) (g0 : Gap) (hL : ListAt w bL gs) (hg0 : gs[i0]? = some g0)
    (hex : ∃ (i : Nat) (g : Gap), gs[i]? = some g ∧ i0 ≤ i ∧ z < g.e) (hb : ∀ g ∈ gs, g.e ≤ 4611686018427387903 ∧ g.s ≤ g.e)
    (hfirst : ∀ g, gs[0]? = some g → g.s ≤ z) :
    Calls Tryd.prog 67 #[pt bS, pt g0.b, .int .i64 (z : Int)] w fun e w' => w = w' ∧ ∃ (i : Nat) (g : Gap), EndGap gs i0 z i g ∧
      ((g.s ≤ z ∧ e = .returned (.tuple #[pt g.b, .bool true])) ∨ (z < g.s ∧ ∃ (j : Nat) (q : Gap), i = j + 1 ∧ gs[j]? = some q ∧ e = .returned (.tuple #[pt q.b, .bool false]))) := by
  obtain ⟨n, gl, hgl, hnl, hxl⟩ := hex
  have hlen : n < gs.length := (List.getElem?_eq_some_iff.1 hgl).1
  go_enter Tryd.func67, Tryd.ntmps67
  go_wp2_with fail
  go_loopg [8] (gs.length - i0) (fun k s8 wr => w = wr ∧ ∃ (i : Nat) (g : Gap), gs[i]? = some g ∧ s8 = pt g.b ∧ k + i = gs.length ∧ i0 ≤ i ∧ ∀ (j : Nat) (h : Gap), i0 ≤ j → j < i → gs[j]? = some h → h.e ≤ z)
  case atStart =>
    have : i0 < gs.length := (List.getElem?_eq_some_iff.1 hg0).1
    exact ⟨rfl, i0, g0, hg0, rfl, by omega, by omega, fun j h hj0 hj => by omega⟩
  case round =>
    obtain ⟨rfl, i, g, hg, rfl, hk, hi0, hlt⟩ := hrel
    have hbg := hb g (List.mem_of_getElem? hg)
    have hn := hL.node i g hg
    have f3 := hn.cellAt 3 _ rfl
    have f4 := hn.cellAt 4 _ rfl
    have hnn := ne_nil g.b
    by_cases hs : g.s ≤ z
    · by_cases he : z < g.e
      · go_wp2_with fail
        go_ret2
        exact ⟨rfl, i, g, ⟨hg, hi0, he, hlt⟩, .inl ⟨hs, rfl⟩⟩
      · have hi : i + 1 < gs.length := by
          rcases Nat.lt_or_ge (i + 1) gs.length with h | h
          · exact h
          · exfalso
            rcases Nat.lt_or_ge n i with h1 | h1
            · have := hlt n gl hnl h1 hgl; omega
            · have e : n = i := by omega
              subst e
              rw [hgl] at hg; have := Option.some.inj hg; subst this; omega
        obtain ⟨q, hq⟩ : ∃ q, gs[i + 1]? = some q := ⟨_, List.getElem?_eq_getElem hi⟩
        go_wp2_with fail
        refine (next_call hL hg hq).mono ?_
        rintro e w' ⟨rfl, rfl⟩
        go_wp2_with fail
        go_roundg (gk - 1)
        case measure => omega
        case rel =>
          refine ⟨rfl, i + 1, q, hq, rfl, by omega, by omega, fun j h hj0 hj hh => ?_⟩
          rcases Nat.lt_or_ge j i with h1 | h1
          · exact hlt j h hj0 h1 hh
          · have e : j = i := by omega
            subst e
            rw [hg] at hh; have := Option.some.inj hh; subst this; omega
    · obtain ⟨j, rfl⟩ : ∃ j, i = j + 1 := by
        rcases Nat.eq_zero_or_pos i with h | h
        · subst h; have := hfirst g hg; omega
        · exact ⟨i - 1, by omega⟩
      obtain ⟨q, hq⟩ : ∃ q, gs[j]? = some q := ⟨_, List.getElem?_eq_getElem (by have := (List.getElem?_eq_some_iff.1 hg).1; omega)⟩
      go_wp2_with fail
      refine (prev_call hL hg hq).mono ?_
      rintro e w' ⟨rfl, rfl⟩
      go_wp2_with fail
      go_ret2
      exact ⟨rfl, j + 1, g, ⟨hg, hi0, by omega, hlt⟩, .inr ⟨by omega, j, q, rfl, hq, rfl⟩⟩
end Go.Proofs.YtdhhccpeikhilaaDoor
