/- The stream of the Initial packets: its cells, made, and behind its door; base.Pop and base.HasData on whatever block. base.PopCryptoFrame on whatever block, where the buffer is only read. -/
import Derived.Test.YtdhhccpeikhilaaDoorF1
import Derived.Deep.LoopGhost
import Derived.BigQuiet
import Derived.Lib.Hide
namespace Go.Proofs.YtdhhccpeikhilaaDoor
open Go.RowKit

abbrev iniC (r bL wo : Nat) (wb : Value) (scr : Bool) (e c0 c1 c2 c3 : Int) : Array Value :=
  #[.map (some r), .int .i64 0, pt bL, .int .i64 0, .bool false, .int .i64 (wo : Int), wb, .bool scr, .int .i64 e, .int .i64 c0, .int .i64 c1, .int .i64 c2, .int .i64 c3]

theorem has_gen (w : World) (b : Nat) (c : Array Value) (T : TypeId) (wb : Value) (l : List UInt8) (hb : Blk w b c T) (hc6 : c[6]? = some wb) (hr : Rd w wb l) :
    Calls Tryd.prog 44 #[pt b] w fun e w' => e = .returned (.bool (decide (0 < l.length))) ∧ w = w' := by
  obtain ⟨p, cap, rfl, _⟩ := hr
  have c6 : w.cell? ⟨b, 6, none⟩ = some (.slice p l.length cap) := hb.cellAt 6 _ hc6
  have hlt := hb.lt
  go_enter Tryd.func44, Tryd.ntmps44
  go_wp2_with fail
  go_ret
  exact ⟨ret_bool (by simp), rfl⟩

set_option maxRecDepth 100000 in
set_option maxHeartbeats 2000000 in
theorem newIni (w : World) (s : Bool) :
    Calls Tryd.prog 33 #[.bool s] w fun e w' => Grow w w' ∧ ∃ b r bL : Nat, e = .returned (pt b) ∧ w.heap.size ≤ b ∧ Blk w' b (iniC r bL 0 (.slice none 0 0) s 0 (-1) (-1) (-1) (-1)) 108 := by
  go_enter Tryd.func33, Tryd.ntmps33
  go_upto_region 2 with (go_at_call 46; refine (newSorter_any w).mono ?_; rintro e w1 ⟨hg, bS, r, bL, g, rfl, h1, h2, h3, h4, hB, hL, hq⟩; have b0 : w1.cell? ⟨bS, 0, none⟩ = some (.map (some r)) := hB.cellAt 0 _ rfl; have b1 : w1.cell? ⟨bS, 1, none⟩ = some (.int .i64 0) := hB.cellAt 1 _ rfl; have b2 : w1.cell? ⟨bS, 2, none⟩ = some (pt bL) := hB.cellAt 2 _ rfl; have hlt := hB.lt)
  have hB2 : Blk (w1.alloc (.cells (iniC r bL 0 (.slice none 0 0) s 0 0 0 0 0) 108)) w1.heap.size (iniC r bL 0 (.slice none 0 0) s 0 0 0 0 0) 108 := Blk.new w1 _ _
  have hG2 : Grow w (w1.alloc (.cells (iniC r bL 0 (.slice none 0 0) s 0 0 0 0 0) 108)) := hg.alloc _
  have hsz := hg.size
  have HB2 := Lib.hid hB2
  have HG2 := Lib.hid hG2
  clear b0 b1 b2 hB hL hq hlt hB2 hG2
  generalize w1.heap.size = b at *
  go_wp2_with fail
  go_loopg [4, 12] 2 (fun k s4 s12 wr => ∃ (i : Nat) (d0 d1 d2 d3 : Int), k + i = 2 ∧ s12 = .int .i64 (i : Int) ∧ (0 < i → d0 = -1 ∧ d1 = -1) ∧ (1 < i → d2 = -1 ∧ d3 = -1) ∧ Hid (Grow w wr ∧ Blk wr b (iniC r bL 0 (.slice none 0 0) s 0 d0 d1 d2 d3) 108))
  case atStart => exact ⟨0, 0, 0, 0, 0, rfl, rfl, (by omega), (by omega), Lib.hid ⟨HG2.out, HB2.out⟩⟩
  case round =>
    obtain ⟨i, d0, d1, d2, d3, hk, rfl, hi0, hi1, HJ⟩ := hrel
    have hlt := HJ.out.2.lt
    have hfr := HJ.out.2.free
    have c9 : wr.cell? ⟨b, 9, none⟩ = some (.int .i64 d0) := HJ.out.2.cellAt 9 _ rfl
    have c10 : wr.cell? ⟨b, 10, none⟩ = some (.int .i64 d1) := HJ.out.2.cellAt 10 _ rfl
    have c11 : wr.cell? ⟨b, 11, none⟩ = some (.int .i64 d2) := HJ.out.2.cellAt 11 _ rfl
    have c12 : wr.cell? ⟨b, 12, none⟩ = some (.int .i64 d3) := HJ.out.2.cellAt 12 _ rfl
    rcases Nat.lt_or_ge i 1 with h0 | h0
    · obtain rfl : i = 0 := by omega
      go_wp2_with fail
      go_roundg (gk - 1)
      case measure => omega
      case rel => exact ⟨1, _, _, _, _, by omega, rfl, fun _ => ⟨rfl, rfl⟩, fun h => absurd h (by omega), Lib.hid ⟨(HJ.out.1.setCell _ _ (.inr hsz)).setCell _ _ (.inr hsz), (HJ.out.2.set 9 _).set 10 _⟩⟩
    · rcases Nat.lt_or_ge i 2 with h1 | h1
      · obtain rfl : i = 1 := by omega
        obtain ⟨rfl, rfl⟩ := hi0 (by omega)
        go_wp2_with fail
        go_roundg (gk - 1)
        case measure => omega
        case rel => exact ⟨2, _, _, _, _, by omega, rfl, fun _ => ⟨rfl, rfl⟩, fun _ => ⟨rfl, rfl⟩, Lib.hid ⟨(HJ.out.1.setCell _ _ (.inr hsz)).setCell _ _ (.inr hsz), (HJ.out.2.set 11 _).set 12 _⟩⟩
      · obtain rfl : i = 2 := by omega
        obtain ⟨rfl, rfl⟩ := hi0 (by omega)
        obtain ⟨rfl, rfl⟩ := hi1 (by omega)
        go_wp2_with fail
        go_ret
        exact ⟨HJ.out.1, b, rfl, hsz, r, bL, HJ.out.2⟩

/-- A STREAM OF THE INITIAL PACKETS, made. -/
theorem new_ini (w : World) (s : Bool) :
    Calls Tryd.prog 24 #[.bool true, .bool s] w fun e w' => Grow w w' ∧ ∃ x b r bL : Nat, e = .returned (pt x) ∧ w.heap.size ≤ x ∧ w.heap.size ≤ b ∧ Blk w' x #[pt b, .pointer none] 86 ∧ Blk w' b (iniC r bL 0 (.slice none 0 0) s 0 (-1) (-1) (-1) (-1)) 108 := by
  go_enter Tryd.func24, Tryd.ntmps24
  go_wp2_with (go_at_call 33; refine (newIni w s).mono ?_; rintro e w1 ⟨hg, b, r, bL, rfl, h1, hC⟩)
  go_ret
  exact ⟨hg.alloc _, w1.heap.size, b, r, bL, rfl, hg.size, h1, Blk.new w1 _ _, hC.alloc _⟩

theorem neq82p (w : World) (b : Nat) : (binOp .neq 82 (pt b) (.pointer none)).run Tryd.prog w = .ok (.bool true) w := by
  go_simp

theorem Has_ofI (w : World) (x b : Nat) (hx : Blk w x #[pt b, .pointer none] 86) {R : Ending → World → Prop} (h : Calls Tryd.prog 43 #[pt b] w R) (hr : ∀ e w', R e w' → ∃ v, e = .returned v) :
    Calls Tryd.prog 30 #[pt x] w R := by
  have x0 : w.cell? ⟨x, 0, none⟩ = some (pt b) := hx.cellAt 0 _ rfl
  have hlt := hx.lt
  go_enter Tryd.func30, Tryd.ntmps30
  go_wp2_with (go_at_call 43; refine h.mono ?_; intro e w' hR; obtain ⟨v, rfl⟩ := hr e w' hR)
  exact hR
theorem Pop_ofI (w : World) (x b : Nat) (m : Value) (hx : Blk w x #[pt b, .pointer none] 86) {R : Ending → World → Prop} (h : Calls Tryd.prog 41 #[pt b, m] w R) (hr : ∀ e w', R e w' → ∃ v, e = .returned v) :
    Calls Tryd.prog 29 #[pt x, m] w R := by
  have x0 : w.cell? ⟨x, 0, none⟩ = some (pt b) := hx.cellAt 0 _ rfl
  have hlt := hx.lt
  go_enter Tryd.func29, Tryd.ntmps29
  go_wp2_with (go_at_call 41; refine h.mono ?_; intro e w' hR; obtain ⟨v, rfl⟩ := hr e w' hR)
  exact hR
theorem Write_ofI (w : World) (x b : Nat) (d : Value) (hx : Blk w x #[pt b, .pointer none] 86) {R : World → Prop} (h : Calls Tryd.prog 39 #[pt b, d] w fun e w' => (∃ n : Int, e = .returned (.tuple #[.int .i64 n, .nilIface])) ∧ R w') :
    Calls Tryd.prog 28 #[pt x, d] w fun e w' => e = .returned .nilIface ∧ R w' := by
  have x0 : w.cell? ⟨x, 0, none⟩ = some (pt b) := hx.cellAt 0 _ rfl
  have hlt := hx.lt
  go_enter Tryd.func28, Tryd.ntmps28
  go_wp2_with (go_at_call 39; refine h.mono ?_; rintro e w' ⟨⟨n, rfl⟩, hR⟩)
  go_ret
  exact ⟨rfl, hR⟩

set_option maxRecDepth 100000 in
theorem ini_has_scr (w : World) (b r bL wo : Nat) (wb : Value) (e c0 c1 c2 c3 : Int) (l : List UInt8) (hb : Blk w b (iniC r bL wo wb true e c0 c1 c2 c3) 108) (hr : Rd w wb l) (h : ¬ (wo = 0 ∧ c0 = -1)) :
    Calls Tryd.prog 43 #[pt b] w fun e w' => e = .returned (.bool (decide (0 < l.length))) ∧ w = w' := by
  have c5 : w.cell? ⟨b, 5, none⟩ = some (.int .i64 (wo : Int)) := hb.cellAt 5 _ rfl
  have c7 : w.cell? ⟨b, 7, none⟩ = some (.bool true) := hb.cellAt 7 _ rfl
  have c9 : w.cell? ⟨b, 9, none⟩ = some (.int .i64 c0) := hb.cellAt 9 _ rfl
  have hlt := hb.lt
  have HH := Lib.hid (has_gen w b _ 108 wb l hb rfl hr)
  clear hb
  by_cases h0 : wo = 0
  · have h1 : ¬ c0 = -1 := fun e => h ⟨h0, e⟩
    subst h0
    clear h
    go_enter Tryd.func43, Tryd.ntmps43
    go_wp2_with (go_at_call 44; refine HH.out.mono ?_; rintro e w' ⟨rfl, rfl⟩)
    go_ret
    exact ⟨rfl, rfl⟩
  · clear h
    go_enter Tryd.func43, Tryd.ntmps43
    go_wp2_with (go_at_call 44; refine HH.out.mono ?_; rintro e w' ⟨rfl, rfl⟩)
    go_ret
    exact ⟨rfl, rfl⟩
set_option maxRecDepth 100000 in
theorem ini_has_not (w : World) (b r bL : Nat) (wb : Value) (e c1 c2 c3 : Int) (hb : Blk w b (iniC r bL 0 wb true e (-1) c1 c2 c3) 108) :
    Calls Tryd.prog 43 #[pt b] w fun e w' => e = .returned (.bool false) ∧ w = w' := by
  have c5 : w.cell? ⟨b, 5, none⟩ = some (.int .i64 0) := hb.cellAt 5 _ rfl
  have c7 : w.cell? ⟨b, 7, none⟩ = some (.bool true) := hb.cellAt 7 _ rfl
  have c9 : w.cell? ⟨b, 9, none⟩ = some (.int .i64 (-1)) := hb.cellAt 9 _ rfl
  have hlt := hb.lt
  clear hb
  go_enter Tryd.func43, Tryd.ntmps43
  go_wp2_with fail
  go_ret
  exact ⟨rfl, rfl⟩
set_option maxRecDepth 100000 in
theorem ini_has_plain (w : World) (b r bL wo : Nat) (wb : Value) (e c0 c1 c2 c3 : Int) (l : List UInt8) (hb : Blk w b (iniC r bL wo wb false e c0 c1 c2 c3) 108) (hr : Rd w wb l) :
    Calls Tryd.prog 43 #[pt b] w fun e w' => e = .returned (.bool (decide (0 < l.length))) ∧ w = w' := by
  have c7 : w.cell? ⟨b, 7, none⟩ = some (.bool false) := hb.cellAt 7 _ rfl
  have hlt := hb.lt
  have HH := Lib.hid (has_gen w b _ 108 wb l hb rfl hr)
  clear hb
  go_enter Tryd.func43, Tryd.ntmps43
  go_wp2_with (go_at_call 44; refine HH.out.mono ?_; rintro e w' ⟨rfl, rfl⟩)
  go_ret
  exact ⟨rfl, rfl⟩
end Go.Proofs.YtdhhccpeikhilaaDoor
namespace Go.Proofs.YtdhhccpeikhilaaDoor
open Go.RowKit

set_option maxRecDepth 100000 in
set_option maxHeartbeats 1000000 in
theorem popn_gen (w : World) (b wo m : Nat) (c : Array Value) (T : TypeId) (wb : Value) (l : List UInt8) (hb : Blk w b c T) (hc5 : c[5]? = some (.int .i64 (wo : Int))) (hc6 : c[6]? = some wb) (hr : Rd w wb l) (hwo : wo ≤ 1000000000) (hm : m ≤ 1000000) (hl : l.length ≤ 1000000) (hn : min (room wo m) l.length = 0) :
    Calls Tryd.prog 42 #[pt b, .int .i64 (m : Int)] w fun e w' => e = .returned (.pointer none) ∧ Grow w w' := by
  obtain ⟨p, cap, rfl, _⟩ := hr
  have hb1 := hb.alloc (.cells #[.int .i64 (wo : Int), .slice none 0 0] 69)
  have hf1 := Blk.new w #[.int .i64 (wo : Int), .slice none 0 0] 69
  have hG : Grow w (w.alloc (.cells #[.int .i64 (wo : Int), .slice none 0 0] 69)) := (Fr.refl _ _).alloc _
  have c5 : w.cell? ⟨b, 5, none⟩ = some (.int .i64 (wo : Int)) := hb.cellAt 5 _ hc5
  have hlt := hb.lt
  have hmin : ((room wo m : Nat) : Int) ≤ 0 ∨ ((l.length : Nat) : Int) ≤ 0 := by omega
  go_enter Tryd.func42, Tryd.ntmps42
  go_upto_region 2 with fail
  generalize w.alloc (.cells #[.int .i64 (wo : Int), .slice none 0 0] 69) = w1 at *
  have c6 : w1.cell? ⟨b, 6, none⟩ = some (.slice p l.length cap) := hb1.cellAt 6 _ hc6
  have hlt1 := hb1.lt
  go_quiet (first | (go_at_call 53; refine Calls.quiet_of_same (flip_world (maxDataLen_any _ _ wo m _ hf1 hwo hm))))
  have hite : (if l.length < room wo m then (l.length : Int) else (room wo m : Int)) = 0 := by split <;> omega
  rw [hite]
  have hG2 : Grow w (w1.drewN nq) := hG.trans (drewN_grow w1 nq)
  clear hite
  go_wp2_with fail
  go_ret
  exact ⟨rfl, hG2⟩

set_option maxRecDepth 100000 in
set_option maxHeartbeats 1000000 in
theorem pop_gen (w : World) (b wo m : Nat) (c : Array Value) (T : TypeId) (wb : Value) (l : List UInt8) (hT : T ≠ 5) (hb : Blk w b c T) (hc5 : c[5]? = some (.int .i64 (wo : Int))) (hc6 : c[6]? = some wb) (ho : Rd w wb l) (hwo : wo ≤ 1000000000) (hm : m ≤ 1000000) (hl : l.length ≤ 1000000) (k : Nat) (hk : min (room wo m) l.length = k) (hpos : 0 < k) :
    Calls Tryd.prog 42 #[pt b, .int .i64 (m : Int)] w fun e w' => ∃ bf s wb', e = .returned (pt bf) ∧ w.heap.size ≤ bf ∧ Blk w' bf #[.int .i64 (wo : Int), s] 69 ∧ Rd w' s (l.take k) ∧ Blk w' b ((c.setIfInBounds 6 wb').setIfInBounds 5 (.int .i64 ((wo + k : Nat) : Int))) T ∧ Rd w' wb' (l.drop k) ∧ Fr (fun j => j = b) w w' := by
  obtain ⟨p, cap, rfl, hlc, hcm, hro⟩ := id ho
  have hb1 := hb.alloc (.cells #[.int .i64 (wo : Int), .slice none 0 0] 69)
  have hf1 := Blk.new w #[.int .i64 (wo : Int), .slice none 0 0] 69
  have hG : Grow w (w.alloc (.cells #[.int .i64 (wo : Int), .slice none 0 0] 69)) := (Fr.refl _ _).alloc _
  have c5 : w.cell? ⟨b, 5, none⟩ = some (.int .i64 (wo : Int)) := hb.cellAt 5 _ hc5
  have hlt := hb.lt
  have HB := Lib.hid hb
  go_enter Tryd.func42, Tryd.ntmps42
  go_upto_region 2 with fail
  generalize w.alloc (.cells #[.int .i64 (wo : Int), .slice none 0 0] 69) = w1 at *
  have c6 : w1.cell? ⟨b, 6, none⟩ = some (.slice p l.length cap) := hb1.cellAt 6 _ hc6
  have hlt1 := hb1.lt
  go_quiet (first | (go_at_call 53; refine Calls.quiet_of_same (flip_world (maxDataLen_any _ _ wo m _ hf1 hwo hm))))
  have hite : (if l.length < room wo m then (l.length : Int) else (room wo m : Int)) = (k : Int) := by
    rw [← hk]
    rcases Nat.lt_or_ge l.length (room wo m) with c | c
    · rw [if_pos c, Nat.min_eq_right (by omega)]
    · rw [if_neg (by omega), Nat.min_eq_left c]
  rw [hite]
  clear hite c5 c6 hlt1
  have hb2 : Blk (w1.drewN nq) b c T := hb1
  have hf2 : Blk (w1.drewN nq) w.heap.size #[.int .i64 (wo : Int), .slice none 0 0] 69 := hf1
  have hG2 : Grow w (w1.drewN nq) := hG.trans (drewN_grow w1 nq)
  clear hb1 hf1 hG hb
  generalize w1.drewN nq = w2 at *
  have c5 : w2.cell? ⟨b, 5, none⟩ = some (.int .i64 (wo : Int)) := hb2.cellAt 5 _ hc5
  have c6 : w2.cell? ⟨b, 6, none⟩ = some (.slice p l.length cap) := hb2.cellAt 6 _ hc6
  have f1 : w2.cell? ⟨w.heap.size, 1, none⟩ = some (.slice none 0 0) := hf2.cellAt 1 _ rfl
  have hlt2 := hb2.lt
  have hltf := hf2.lt
  have hbf := hb2.free
  have hff := hf2.free
  have hne : b ≠ w.heap.size := by omega
  have hkl : k ≤ l.length := by omega
  have hcast : ((wo : Int) + (k : Int)) = ((wo + k : Nat) : Int) := by omega
  have hdrop := ho.drop k hkl
  have HF : Hid (∀ wb' : Value, Rd w wb' (l.drop k) →
      Blk (((w2.setCell ⟨w.heap.size, 1, none⟩ (.slice p k cap)).setCell ⟨b, 6, none⟩ wb').setCell ⟨b, 5, none⟩ (.int .i64 ((wo : Int) + (k : Int)))) w.heap.size #[.int .i64 (wo : Int), .slice p k cap] 69 ∧
      Rd (((w2.setCell ⟨w.heap.size, 1, none⟩ (.slice p k cap)).setCell ⟨b, 6, none⟩ wb').setCell ⟨b, 5, none⟩ (.int .i64 ((wo : Int) + (k : Int)))) (.slice p k cap) (l.take k) ∧
      Blk (((w2.setCell ⟨w.heap.size, 1, none⟩ (.slice p k cap)).setCell ⟨b, 6, none⟩ wb').setCell ⟨b, 5, none⟩ (.int .i64 ((wo : Int) + (k : Int)))) b ((c.setIfInBounds 6 wb').setIfInBounds 5 (.int .i64 ((wo + k : Nat) : Int))) T ∧
      Rd (((w2.setCell ⟨w.heap.size, 1, none⟩ (.slice p k cap)).setCell ⟨b, 6, none⟩ wb').setCell ⟨b, 5, none⟩ (.int .i64 ((wo : Int) + (k : Int)))) wb' (l.drop k) ∧
      Fr (fun j => j = b) w (((w2.setCell ⟨w.heap.size, 1, none⟩ (.slice p k cap)).setCell ⟨b, 6, none⟩ wb').setCell ⟨b, 5, none⟩ (.int .i64 ((wo : Int) + (k : Int))))) := Lib.hid (fun wb' h1 => by
    rw [hcast]
    have hF : Fr (fun j => j = b) w (((w2.setCell ⟨w.heap.size, 1, none⟩ (.slice p k cap)).setCell ⟨b, 6, none⟩ wb').setCell ⟨b, 5, none⟩ (.int .i64 ((wo + k : Nat) : Int))) :=
      ((((hG2.to (S := fun j => j = b)).setCell ⟨w.heap.size, 1, none⟩ _ (.inr (Nat.le_refl _))).setCell ⟨b, 6, none⟩ _ (.inl rfl)).setCell ⟨b, 5, none⟩ _ (.inl rfl))
    have hnb : ∀ j, j = b → ¬ BytesBlk w j := fun j hj => by rw [show j = b from hj]; exact HB.out.noBytes hT
    exact ⟨((hf2.set 1 (.slice p k cap)).setOther _ _ (Ne.symm hne)).setOther _ _ (Ne.symm hne), (ho.take k hkl).keep (hF.bytes hnb), ((hb2.setOther _ _ hne).set 6 wb').set 5 _, h1.keep (hF.bytes hnb), hF⟩)
  have HD := Lib.hid hdrop
  clear hdrop hcast hro ho
  go_wp2_with fail
  · go_ret
    rename_i h
    subst h
    have hd := HD.out
    rw [if_pos rfl] at hd
    obtain ⟨r1, r2, r3, r4, r5⟩ := HF.out _ hd
    first
      | exact ⟨w.heap.size, rfl, Nat.le_refl _, _, r1, r2, _, r3, r4, r5⟩
      | (rw [Nat.sub_self] at r1 r2 r3 r4 r5; exact ⟨w.heap.size, rfl, Nat.le_refl _, _, r1, r2, _, r3, r4, r5⟩)
  · go_ret
    rename_i h
    have hd := HD.out
    rw [if_neg h] at hd
    obtain ⟨r1, r2, r3, r4, r5⟩ := HF.out _ hd
    exact ⟨w.heap.size, rfl, Nat.le_refl _, _, r1, r2, _, r3, r4, r5⟩
end Go.Proofs.YtdhhccpeikhilaaDoor
