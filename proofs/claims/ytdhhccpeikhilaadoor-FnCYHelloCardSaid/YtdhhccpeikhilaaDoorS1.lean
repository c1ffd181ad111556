/- The linked list's functions, told by the whole list. The frame sorter's searches in its list of gaps. -/
import Derived.Test.YtdhhccpeikhilaaDoorL2
import Derived.Deep.LoopGhost
import Derived.Deep.DeepCutAuto
namespace Go.Proofs.YtdhhccpeikhilaaDoor
open Go.RowKit

section
variable {w : World} {bL : Nat} {ns : List Gap}

theorem ListAt.lkBlk (h : ListAt w bL ns) (i : Nat) : ∃ c T, Blk w (lk bL ns i) c T ∧ (∃ v, c[1]? = some v) ∧ (∃ v, c[0]? = some v) := by
  unfold lk
  cases hi : ns[i]? with
  | none => exact ⟨_, _, h.root, ⟨_, rfl⟩, ⟨_, rfl⟩⟩
  | some g => exact ⟨_, _, h.node i g hi, ⟨_, rfl⟩, ⟨_, rfl⟩⟩
theorem ListAt.lkpBlk (h : ListAt w bL ns) (i : Nat) : ∃ c T, Blk w (lkp bL ns i) c T ∧ (∃ v, c[1]? = some v) ∧ (∃ v, c[0]? = some v) := by
  unfold lkp; split
  · exact ⟨_, _, h.root, ⟨_, rfl⟩, ⟨_, rfl⟩⟩
  · exact h.lkBlk _
theorem listS_lk (i : Nat) : listS bL ns (lk bL ns i) := by
  unfold lk
  cases hi : ns[i]? with
  | none => exact .inl rfl
  | some g => exact .inr ⟨g, List.mem_of_getElem? hi, rfl⟩
theorem listS_lkp (i : Nat) : listS bL ns (lkp bL ns i) := by
  unfold lkp; split
  · exact .inl rfl
  · exact listS_lk _
theorem listS_mem {i : Nat} {g : Gap} (h : ns[i]? = some g) : listS bL ns g.b := .inr ⟨g, List.mem_of_getElem? h, rfl⟩

theorem Fr.remW {S : Nat → Prop} {b bP bN : Nat} {len : Int} (h1 : S bP) (h2 : S bN) (h3 : S b) (h4 : S bL) : Fr S w (remW w bL b bP bN len) := by
  unfold Go.Proofs.YtdhhccpeikhilaaDoor.remW
  exact ((((((Fr.refl S w).setCell _ _ (.inl h1)).setCell _ _ (.inl h2)).setCell _ _ (.inl h3)).setCell _ _ (.inl h3)).setCell _ _ (.inl h3)).setCell _ _ (.inl h4)
theorem Fr.insAW {S : Nat → Prop} {bA bX : Nat} {len s e : Int} (h1 : S bA) (h2 : S bX) (h4 : S bL) : Fr S w (insAW w bL bA bX len s e) := by
  unfold Go.Proofs.YtdhhccpeikhilaaDoor.insAW insVW insW
  refine Fr.setCell (Fr.setCell (Fr.setCell (Fr.setCell (Fr.setCell (Fr.setCell ?_ _ _ (.inr ?_)) _ _ (.inr ?_)) _ _ (.inl h1)) _ _ (.inl h2)) _ _ (.inr ?_)) _ _ (.inl h4)
  · exact (((Fr.refl S w).alloc _).alloc _).alloc _
  all_goals (simp only [World.size_alloc]; omega)

theorem same_two (w : World) (a b : Obj) {k : Nat} (h : k < w.heap.size) : (((w.alloc a).alloc b).drew.drew).heap[k]? = w.heap[k]? :=
  (Below.heap_alloc (w.alloc a) b k (by simp only [World.size_alloc]; omega)).trans (Below.heap_alloc w a k h)

theorem rem_call (h : ListAt w bL ns) {i : Nat} {g : Gap} (hg : ns[i]? = some g) (hi : i + 1 < ns.length) (hl : ns.length ≤ 100000) :
    Calls Tryd.prog 69 #[pt bL, pt g.b] w fun e w' => e = .returned (.agg #[.int .i64 (g.s : Int), .int .i64 (g.e : Int)]) ∧ ListAt w' bL (ns.eraseIdx i) ∧ Fr (listS bL ns) w w' := by
  obtain ⟨cP, TP, hP, _, ⟨p0, hp0⟩⟩ := h.lkpBlk i
  obtain ⟨cN, TN, hN, ⟨n1, hn1⟩, _⟩ := h.lkBlk (i + 1)
  have hb := h.node i g hg
  have x1 : g.b ≠ lkp bL ns i := fun e => by have := (h.lkp_inj hg i).1 e; omega
  have x2 : g.b ≠ lk bL ns (i + 1) := fun e => by have := (h.lk_inj hg (i + 1)).1 e; omega
  refine (Remove_any w bL g.b (lkp bL ns i) (lk bL ns (i + 1)) ns.length g.s g.e p0 n1 hb.lt hP.lt hN.lt h.root.lt x1 x2 (h.ne hg)
    (hb.cellAt 0 _ rfl) (hb.cellAt 1 _ rfl) (hb.cellAt 2 _ rfl) (hb.cellAt 3 _ rfl) (hb.cellAt 4 _ rfl) (hP.cellAt 0 _ hp0) (hN.cellAt 1 _ hn1) (h.root.cellAt 5 _ rfl)
    hb.free hP.free hN.free h.root.free (by omega) (by omega)).mono ?_
  rintro e w' ⟨rfl, rfl⟩
  have he := h.erase hg hi
  have hf : Fr (listS bL ns) w (remW w bL g.b (lkp bL ns i) (lk bL ns (i + 1)) ns.length) := Fr.remW (listS_lkp _) (listS_lk _) (listS_mem hg) (.inl rfl)
  refine ⟨rfl, ?_, (((hf.alloc _).alloc _).drew).drew⟩
  refine he.same (same_two _ _ _ he.root.lt) (fun q hq => ?_)
  obtain ⟨j, hj⟩ := List.mem_iff_getElem?.1 hq
  exact same_two _ _ _ (he.node j q hj).lt

theorem ins_call (h : ListAt w bL ns) {i : Nat} {g : Gap} (hg : ns[i]? = some g) (hl : ns.length ≤ 100000) (s e : Nat) :
    Calls Tryd.prog 71 #[pt bL, .agg #[.int .i64 (s : Int), .int .i64 (e : Int)], pt g.b] w fun e' w' => e' = .returned (pt (w.heap.size + 2)) ∧ ListAt w' bL (ns.insertIdx (i + 1) ⟨w.heap.size + 2, s, e⟩) ∧ Fr (listS bL ns) w w' := by
  obtain ⟨cN, TN, hN, ⟨n1, hn1⟩, _⟩ := h.lkBlk (i + 1)
  have hb := h.node i g hg
  refine (insertAfter_any w bL g.b (lk bL ns (i + 1)) ns.length s e n1 hb.lt hN.lt h.root.lt (hb.cellAt 0 _ rfl) (hb.cellAt 2 _ rfl) (hN.cellAt 1 _ hn1) (h.root.cellAt 5 _ rfl)
    hb.free hN.free h.root.free (by omega) (by omega)).mono ?_
  rintro e' w' ⟨rfl, rfl⟩
  exact ⟨rfl, h.insert hg s e, Fr.insAW (listS_mem hg) (listS_lk _) (.inl rfl)⟩

theorem ListAt.drew (h : ListAt w bL ns) : ListAt w.drew bL ns := ⟨h.root, h.node, h.inj⟩
theorem push_list (h : ListAt w bL []) (s e : Nat) : ListAt (insAW w bL bL bL 0 s e) bL [⟨w.heap.size + 2, s, e⟩] := by
  have hlt := h.root.lt
  have hr : Blk w bL (rootC bL bL 0) 138 := h.root
  refine ⟨?_, fun j q hq => ?_, fun j k p q hp hq _ => ?_⟩
  · have := hr.insA (bL := bL) (bA := bL) (bX := bL) (len := 0) (s := s) (e := e)
    simp only [if_true] at this
    simpa [lk, lkp, rootC] using this
  · cases j with
    | zero =>
      have hq : q = ⟨w.heap.size + 2, s, e⟩ := by simpa using hq.symm
      subst hq
      exact Blk.insNew (w := w) (bL := bL) (bA := bL) (bX := bL) (len := 0) (s := s) (e := e) hlt hlt hlt
    | succ j => simp at hq
  · cases j <;> cases k <;> simp at hp hq ⊢
theorem insVW_drew (w : World) (a b c : Nat) (n s e : Int) : insVW (w.alloc (pairO s e)).drew a b c n s e = (insAW w a b c n s e).drew := by
  unfold insAW insVW insW
  simp only [World.setCell_drew, World.alloc_drew, World.size_drew]
theorem push_call (h : ListAt w bL []) (s e : Nat) :
    Calls Tryd.prog 55 #[pt bL, .agg #[.int .i64 (s : Int), .int .i64 (e : Int)]] w fun e' w' => e' = .returned (pt (w.heap.size + 2)) ∧ ListAt w' bL [⟨w.heap.size + 2, s, e⟩] ∧ Fr (listS bL []) w w' := by
  refine (PushFront_any w bL s e h.root.lt (h.root.cellAt 0 _ rfl) (h.root.cellAt 1 _ rfl) (h.root.cellAt 5 _ rfl) h.root.free).mono ?_
  rintro e' w' ⟨rfl, rfl⟩
  rw [insVW_drew]
  have hl := push_list h s e
  have hf : Fr (listS bL []) w (insAW w bL bL bL 0 s e) := Fr.insAW (.inl rfl) (.inl rfl) (.inl rfl)
  exact ⟨rfl, hl.drew, hf.drew⟩

theorem front_call (h : ListAt w bL ns) {g : Gap} (hg : ns[0]? = some g) :
    Calls Tryd.prog 57 #[pt bL] w fun e w' => e = .returned (pt g.b) ∧ w = w' := by
  have hlt : 0 < ns.length := (List.getElem?_eq_some_iff.1 hg).1
  exact front_some w bL ns.length (by omega) _ (by have := h.root.cellAt 0 _ rfl; rwa [lk_some hg] at this) (h.root.cellAt 5 _ rfl)
theorem len_call (h : ListAt w bL ns) :
    Calls Tryd.prog 72 #[pt bL] w fun e w' => e = .returned (.int .i64 (ns.length : Int)) ∧ w = w' := listLen_any w bL _ (h.root.cellAt 5 _ rfl)
theorem next_call (h : ListAt w bL ns) {i : Nat} {g q : Gap} (hg : ns[i]? = some g) (hq : ns[i + 1]? = some q) :
    Calls Tryd.prog 68 #[pt g.b] w fun e w' => e = .returned (pt q.b) ∧ w = w' :=
  next_some w bL g.b q.b (h.ne hq) (h.node _ _ hq) h.root (by have := (h.node i g hg).cellAt 0 _ rfl; rwa [lk_some hq] at this) ((h.node i g hg).cellAt 2 _ rfl)
theorem next_call_nil (h : ListAt w bL ns) {i : Nat} {g : Gap} (hg : ns[i]? = some g) (hq : ns.length ≤ i + 1) :
    Calls Tryd.prog 68 #[pt g.b] w fun e w' => e = .returned (.pointer none) ∧ w = w' :=
  next_nil w bL g.b (by have := (h.node i g hg).cellAt 0 _ rfl; rwa [lk_none hq] at this) ((h.node i g hg).cellAt 2 _ rfl)
theorem prev_call (h : ListAt w bL ns) {i : Nat} {g q : Gap} (hg : ns[i + 1]? = some g) (hq : ns[i]? = some q) :
    Calls Tryd.prog 84 #[pt g.b] w fun e w' => e = .returned (pt q.b) ∧ w = w' :=
  prev_some w bL g.b q.b (h.ne hq) (h.node _ _ hq) h.root (by have := (h.node _ g hg).cellAt 1 _ rfl; unfold lkp at this; rwa [if_neg (by omega), Nat.add_sub_cancel, lk_some hq] at this) ((h.node _ g hg).cellAt 2 _ rfl)
end
end Go.Proofs.YtdhhccpeikhilaaDoor
namespace Go.Proofs.YtdhhccpeikhilaaDoor
open Go.RowKit

theorem ne_nil (b : Nat) (w : World) : (binOp .neq 121 (pt b) (.pointer none)).run Tryd.prog w = .ok (.bool true) w := by
  have := run_neq_pointer_nil (P := Tryd.prog) w 121 (some ⟨b, 0, none⟩) (by simp [Program.pointee, Tryd.underlying121])
  simpa using this

/-- Gap i is the first one that ends at x or behind it. -/
def StartGap (gs : List Gap) (x i : Nat) (g : Gap) : Prop := gs[i]? = some g ∧ x ≤ g.e ∧ ∀ (j : Nat) (h : Gap), j < i → gs[j]? = some h → h.e < x

set_option maxHeartbeats 1000000 in
theorem findStart_any (w : World) (bS bL : Nat) (gs : List Gap) (x : Nat) {c : Array Value} {T : TypeId} (hS : Blk w bS c T) (h2 : c[2]? = some (pt bL)) (hL : ListAt w bL gs)
    (hex : ∃ (i : Nat) (g : Gap), gs[i]? = some g ∧ x ≤ g.e) (hb : ∀ g ∈ gs, g.e ≤ 4611686018427387903 ∧ g.s ≤ g.e) :
    Calls Tryd.prog 66 #[pt bS, .int .i64 (x : Int)] w fun e w' => ∃ (i : Nat) (g : Gap), StartGap gs x i g ∧ e = .returned (.tuple #[pt g.b, .bool (decide (g.s ≤ x))]) ∧ w = w' := by
  have c2 := hS.cellAt 2 _ h2
  obtain ⟨n, gl, hgl, hxl⟩ := hex
  have hlen : n < gs.length := (List.getElem?_eq_some_iff.1 hgl).1
  obtain ⟨g0, hg0⟩ : ∃ g0, gs[0]? = some g0 := ⟨_, List.getElem?_eq_getElem (by omega)⟩
  go_enter Tryd.func66, Tryd.ntmps66
  go_wp2_with fail
  refine (front_call hL hg0).mono ?_
  rintro e w' ⟨rfl, rfl⟩
  go_wp2_with fail
  go_loopg [6] gs.length (fun k s6 wr => w = wr ∧ ∃ (i : Nat) (g : Gap), gs[i]? = some g ∧ s6 = pt g.b ∧ k + i = gs.length ∧ ∀ (j : Nat) (h : Gap), j < i → gs[j]? = some h → h.e < x)
  case atStart => exact ⟨rfl, 0, g0, hg0, rfl, by omega, fun j h hj => by omega⟩
  case round =>
    obtain ⟨rfl, i, g, hg, rfl, hk, hlt⟩ := hrel
    have hbg := hb g (List.mem_of_getElem? hg)
    have hn := hL.node i g hg
    have f3 := hn.cellAt 3 _ rfl
    have f4 := hn.cellAt 4 _ rfl
    have hnn := ne_nil g.b
    by_cases hs : g.s ≤ x
    · by_cases he : x ≤ g.e
      · go_wp2_with fail
        go_ret2
        exact ⟨i, g, ⟨hg, he, hlt⟩, by simp [hs], rfl⟩
      · have hi : i + 1 < gs.length := by
          rcases Nat.lt_or_ge (i + 1) gs.length with h | h
          · exact h
          · exfalso
            have : n ≤ i := by omega
            rcases Nat.lt_or_ge n i with h1 | h1
            · have := hlt n gl h1 hgl; omega
            · have e : n = i := by omega
              subst e
              rw [hgl] at hg; have := Option.some.inj hg; subst this; omega
        obtain ⟨q, hq⟩ : ∃ q, gs[i + 1]? = some q := ⟨_, List.getElem?_eq_getElem hi⟩
        go_wp2_with fail
        refine (next_call hL hg hq).mono ?_
        rintro e w' ⟨rfl, rfl⟩
        go_wp2_with fail
        go_roundg (gk - 1)
        case measure => omega
        case rel =>
          refine ⟨rfl, i + 1, q, hq, rfl, by omega, fun j h hj hh => ?_⟩
          rcases Nat.lt_or_ge j i with h1 | h1
          · exact hlt j h h1 hh
          · have e : j = i := by omega
            subst e
            rw [hg] at hh; have := Option.some.inj hh; subst this; omega
    · go_wp2_with fail
      go_ret2
      exact ⟨i, g, ⟨hg, by omega, hlt⟩, by simp [hs], rfl⟩

/-- Where the search for the end stops: gap i is the first one from i0 on that ends behind z. -/
def EndGap (gs : List Gap) (i0 z i : Nat) (g : Gap) : Prop := gs[i]? = some g ∧ i0 ≤ i ∧ z < g.e ∧ ∀ (j : Nat) (h : Gap), i0 ≤ j → j < i → gs[j]? = some h → h.e ≤ z

set_option maxHeartbeats 1000000 in
theorem findEnd_any (w : World) (bS bL : Nat) (gs : List Gap) (z i0 : Nat) (g0 : Gap) (hL : ListAt w bL gs) (hg0 : gs[i0]? = some g0)
    (hex : ∃ (i : Nat) (g : Gap), gs[i]? = some g ∧ i0 ≤ i ∧ z < g.e) (hb : ∀ g ∈ gs, g.e ≤ 4611686018427387903 ∧ g.s ≤ g.e)
    (hfirst : ∀ g, gs[0]? = some g → g.s ≤ z) :
    Calls Tryd.prog 67 #[pt bS, pt g0.b, .int .i64 (z : Int)] w fun e w' => w = w' ∧ ∃ (i : Nat) (g : Gap), EndGap gs i0 z i g ∧
      ((g.s ≤ z ∧ e = .returned (.tuple #[pt g.b, .bool true])) ∨ (z < g.s ∧ ∃ (j : Nat) (q : Gap), i = j + 1 ∧ gs[j]? = some q ∧ e = .returned (.tuple #[pt q.b, .bool false]))) := by
  obtain ⟨n, gl, hgl, hnl, hxl⟩ := hex
  have hlen : n < gs.length := (List.getElem?_eq_some_iff.1 hgl).1
  go_enter Tryd.func67, Tryd.ntmps67
  go_wp2_with fail
  go_loopg [8] (gs.length - i0) (fun k s8 wr => w = wr ∧ ∃ (i : Nat) (g : Gap), gs[i]? = some g ∧ s8 = pt g.b ∧ k + i = gs.length ∧ i0 ≤ i ∧ ∀ (j : Nat) (h : Gap), i0 ≤ j → j < i → gs[j]? = some h → h.e ≤ z)
  case atStart =>
    have : i0 < gs.length := (List.getElem?_eq_some_iff.1 hg0).1
    exact ⟨rfl, i0, g0, hg0, rfl, by omega, by omega, fun j h hj0 hj => by omega⟩
  case round =>
    obtain ⟨rfl, i, g, hg, rfl, hk, hi0, hlt⟩ := hrel
    have hbg := hb g (List.mem_of_getElem? hg)
    have hn := hL.node i g hg
    have f3 := hn.cellAt 3 _ rfl
    have f4 := hn.cellAt 4 _ rfl
    have hnn := ne_nil g.b
    by_cases hs : g.s ≤ z
    · by_cases he : z < g.e
      · go_wp2_with fail
        go_ret2
        exact ⟨rfl, i, g, ⟨hg, hi0, he, hlt⟩, .inl ⟨hs, rfl⟩⟩
      · have hi : i + 1 < gs.length := by
          rcases Nat.lt_or_ge (i + 1) gs.length with h | h
          · exact h
          · exfalso
            rcases Nat.lt_or_ge n i with h1 | h1
            · have := hlt n gl hnl h1 hgl; omega
            · have e : n = i := by omega
              subst e
              rw [hgl] at hg; have := Option.some.inj hg; subst this; omega
        obtain ⟨q, hq⟩ : ∃ q, gs[i + 1]? = some q := ⟨_, List.getElem?_eq_getElem hi⟩
        go_wp2_with fail
        refine (next_call hL hg hq).mono ?_
        rintro e w' ⟨rfl, rfl⟩
        go_wp2_with fail
        go_roundg (gk - 1)
        case measure => omega
        case rel =>
          refine ⟨rfl, i + 1, q, hq, rfl, by omega, by omega, fun j h hj0 hj hh => ?_⟩
          rcases Nat.lt_or_ge j i with h1 | h1
          · exact hlt j h hj0 h1 hh
          · have e : j = i := by omega
            subst e
            rw [hg] at hh; have := Option.some.inj hh; subst this; omega
    · obtain ⟨j, rfl⟩ : ∃ j, i = j + 1 := by
        rcases Nat.eq_zero_or_pos i with h | h
        · subst h; have := hfirst g hg; omega
        · exact ⟨i - 1, by omega⟩
      obtain ⟨q, hq⟩ : ∃ q, gs[j]? = some q := ⟨_, List.getElem?_eq_getElem (by have := (List.getElem?_eq_some_iff.1 hg).1; omega)⟩
      go_wp2_with fail
      refine (prev_call hL hg hq).mono ?_
      rintro e w' ⟨rfl, rfl⟩
      go_wp2_with fail
      go_ret2
      exact ⟨rfl, j + 1, g, ⟨hg, hi0, by omega, hlt⟩, .inr ⟨by omega, j, q, rfl, hq, rfl⟩⟩
end Go.Proofs.YtdhhccpeikhilaaDoor
