/- A CRYPTO stream that receives: HandleCryptoFrame. -/
import Derived.Test.YtdhhccpeikhilaaDoorS14
import Derived.StillTailTactics
namespace Go.Proofs.YtdhhccpeikhilaaDoor
open Go.RowKit

abbrev cryC (r bL rp hi : Nat) (fin : Bool) (wo : Nat) (wb : Value) : Array Value := #[.map (some r), .int .i64 (rp : Int), pt bL, .int .i64 (hi : Int), .bool fin, .int .i64 (wo : Int), wb]

/-- A CRYPTO stream at block b. -/
structure CryAt (w : World) (b r bL rp hi : Nat) (fin : Bool) (wo : Nat) (wb : Value) (gs : List Gap) (q : Q) : Prop where
  blk : Blk w b (cryC r bL rp hi fin wo wb) 99
  L : ListAt w bL gs
  Q : QAt w r q

set_option maxRecDepth 100000 in
set_option maxHeartbeats 1000000 in
theorem handle_far (w : World) (b bf a n : Nat) (p : Option Addr) (cap : Nat) (hf : Blk w bf #[.int .i64 (a : Int), .slice p n cap] 69) (ha : a ≤ 1000000) (hn : n ≤ 1000000) (hfar : 16384 < a + n) :
    Calls Tryd.prog 36 #[pt b, pt bf] w fun e w' => Grow w w' ∧ ∃ be c, e = .returned (.iface 74 (pt be)) ∧ Blk w' be c 79 ∧ c[1]? = some (.int .u64 13) := by
  have f0 := hf.cellAt 0 _ rfl
  have f1 := hf.cellAt 1 _ rfl
  have hlt := hf.lt
  go_enter Tryd.func36, Tryd.ntmps36
  go_wp2_with fail
  go_quiet (fail)
  generalize hwq : w.drewN nq = wd
  have hG : Grow w wd := hwq ▸ drewN_grow w nq
  clear hwq
  go_wp2_with fail
  go_ret
  exact ⟨hG.alloc _, wd.heap.size, _, rfl, Blk.new wd _ _, rfl⟩

set_option maxRecDepth 100000 in
set_option maxHeartbeats 1000000 in
theorem handle_late (w : World) (b r bL rp hi wo bf a n : Nat) (wb : Value) (p : Option Addr) (cap : Nat) (hb : Blk w b (cryC r bL rp hi true wo wb) 99) (hf : Blk w bf #[.int .i64 (a : Int), .slice p n cap] 69) (hz : a + n ≤ 16384) (hfar : hi < a + n) :
    Calls Tryd.prog 36 #[pt b, pt bf] w fun e w' => Grow w w' ∧ ∃ be c, e = .returned (.iface 74 (pt be)) ∧ Blk w' be c 79 ∧ c[1]? = some (.int .u64 10) := by
  have f0 := hf.cellAt 0 _ rfl
  have f1 := hf.cellAt 1 _ rfl
  have hlt := hf.lt
  go_enter Tryd.func36, Tryd.ntmps36
  go_wp2_with fail
  go_quiet (fail)
  have hbd : Blk (w.drewN nq) b (cryC r bL rp hi true wo wb) 99 := hb
  have hG : Grow w (w.drewN nq) := drewN_grow w nq
  clear f0 f1 hlt
  generalize w.drewN nq = wd at *
  have c3 := hbd.cellAt 3 _ rfl
  have c4 := hbd.cellAt 4 _ rfl
  have hlt := hbd.lt
  go_wp2_with fail
  go_ret
  exact ⟨hG.alloc _, wd.heap.size, _, rfl, Blk.new wd _ _, rfl⟩

set_option maxRecDepth 100000 in
set_option maxHeartbeats 1000000 in
theorem handle_old (w : World) (b r bL rp hi wo bf a n : Nat) (wb : Value) (p : Option Addr) (cap : Nat) (hb : Blk w b (cryC r bL rp hi true wo wb) 99) (hf : Blk w bf #[.int .i64 (a : Int), .slice p n cap] 69) (hz : a + n ≤ 16384) (hfar : a + n ≤ hi) :
    Calls Tryd.prog 36 #[pt b, pt bf] w fun e w' => e = .returned .nilIface ∧ Grow w w' := by
  have f0 := hf.cellAt 0 _ rfl
  have f1 := hf.cellAt 1 _ rfl
  have hlt := hf.lt
  go_enter Tryd.func36, Tryd.ntmps36
  go_wp2_with fail
  go_quiet (fail)
  have hbd : Blk (w.drewN nq) b (cryC r bL rp hi true wo wb) 99 := hb
  have hG : Grow w (w.drewN nq) := drewN_grow w nq
  clear f0 f1 hlt
  generalize w.drewN nq = wd at *
  have c3 := hbd.cellAt 3 _ rfl
  have c4 := hbd.cellAt 4 _ rfl
  have hlt := hbd.lt
  go_wp2_with fail
  go_ret
  exact ⟨rfl, hG⟩

set_option maxRecDepth 100000 in
set_option maxHeartbeats 1000000 in
theorem handle_push (w : World) (b r bL rp hi wo bf a n : Nat) (wb : Value) (p : Option Addr) (cap : Nat) (gs : List Gap) (q : Q) (l : List UInt8) (hC : CryAt w b r bL rp hi false wo wb gs q) (hf : Blk w bf #[.int .i64 (a : Int), .slice p n cap] 69) (hz : a + n ≤ 16384)
    (hG : Good rp gs q) (hl : Rd w (.slice p n cap) l) (hn : l.length = n) (hnp : 0 < n) (hlen : gs.length ≤ 900) :
    Calls Tryd.prog 36 #[pt b, pt bf] w fun e w' => e = .returned .nilIface ∧ ∃ gs6 q6, Took rp a n l q gs6 q6 ∧ Fresh w.heap.size gs gs6 ∧ Exact rp a n l q q6 ∧ gs6.length ≤ gs.length + 1 ∧ CryAt w' b r bL rp (max hi (a + n)) false wo wb gs6 q6 ∧ Fr (fun k => k = b ∨ pushS r bL gs k) w w' := by
  obtain ⟨hb, hL, hq⟩ := hC
  have f0 := hf.cellAt 0 _ rfl
  have f1 := hf.cellAt 1 _ rfl
  have hlt := hf.lt
  go_enter Tryd.func36, Tryd.ntmps36
  go_wp2_with fail
  go_quiet (fail)
  have hbd : Blk (w.drewN nq) b (cryC r bL rp hi false wo wb) 99 := hb
  have hfd : Blk (w.drewN nq) bf #[.int .i64 (a : Int), .slice p n cap] 69 := hf
  have hLd := hL.drewN nq
  have hqd := hq.drewN nq
  have hld : Rd (w.drewN nq) (.slice p n cap) l := hl.keep (fun _ _ => rfl)
  have hGd : Grow w (w.drewN nq) := drewN_grow w nq
  clear f0 f1 hlt
  generalize w.drewN nq = wd at *
  have c3 := hbd.cellAt 3 _ rfl
  have c4 := hbd.cellAt 4 _ rfl
  have hlt := hbd.lt
  have hfr := hbd.free
  go_upto_region 10 with fail
  have hmax : (if (hi : Int) < (a : Int) + (n : Int) then (a : Int) + (n : Int) else (hi : Int)) = ((max hi (a + n) : Nat) : Int) := by split <;> omega
  rw [hmax]
  clear hmax
  have hb3 : Blk (wd.setCell ⟨b, 3, none⟩ (.int .i64 ((max hi (a + n) : Nat) : Int))) b (cryC r bL rp (max hi (a + n)) false wo wb) 99 := hbd.set 3 _
  have hbne : ∀ k, b = k → ¬ listS bL gs k := fun k e hk => pushS_ne hqd hLd hbd (by decide) (by decide) (e ▸ .inr hk)
  have hF3 : Fr (fun k => k = b) wd (wd.setCell ⟨b, 3, none⟩ (.int .i64 ((max hi (a + n) : Nat) : Int))) := (Fr.refl _ _).setCell _ _ (.inl rfl)
  have hL3 := hLd.fr hF3 (fun k hk => hbne k hk.symm)
  have hq3 := hqd.setCell ⟨b, 3, none⟩ (.int .i64 ((max hi (a + n) : Nat) : Int)) hbd (by decide)
  have hf3 := hfd.setOther ⟨b, 3, none⟩ (.int .i64 ((max hi (a + n) : Nat) : Int)) (hfd.ne_of_type hbd (by decide))
  have hl3 := hld.keep (hF3.bytes (fun k hk => by rw [show k = b from hk]; exact hbd.noBytes (by decide)))
  have hFw := (hGd.to (S := fun k => k = b ∨ pushS r bL gs k)).trans (hF3.mono (fun k _ hk => .inl hk))
  clear c3 c4 hlt hfr hLd hqd hld hfd hF3 hGd hbd
  generalize wd.setCell ⟨b, 3, none⟩ (.int .i64 ((max hi (a + n) : Nat) : Int)) = w3 at *
  have f0 : w3.cell? ⟨bf, 0, none⟩ = some (.int .i64 (a : Int)) := hf3.cellAt 0 _ rfl
  have f1 : w3.cell? ⟨bf, 1, none⟩ = some (.slice p n cap) := hf3.cellAt 1 _ rfl
  have hlt := hb3.lt
  have hltf := hf3.lt
  go_still_tail 11, (by kernel_rfl)
  have hl4 : Rd w3.drew (.slice p n cap) l := hl3.keep (fun _ _ => rfl)
  have hFd : Fr (fun k => k = b ∨ pushS r bL gs k) w w3.drew := hFw.drew
  have hb4 := hb3.drew
  have hL4 := hL3.drew
  have hq4 := hq3.drew
  change wpList _ _ _ _ _ w3.drew
  clear f0 f1 hlt hltf hb3 hL3 hq3 hf3 hl3 hFw
  generalize w3.drew = w4 at *
  go_wp2_with (go_at_call 47; refine (Push_call _ b r bL rp a n cap p gs q l _ 99 hb4 rfl rfl (by decide) (by decide) (by decide) hL4 hq4 hG hl4 hn hnp hz hlen).mono ?_; rintro e w5 ⟨rfl, gs6, q6, hT, hN6, hX6, hlen6, hL6, hq6, hF6⟩)
  go_ret
  exact ⟨rfl, gs6, q6, hT, fun g hg => (hN6 g hg).imp id (fun h => Nat.le_trans hFd.size h), hX6, hlen6, ⟨hF6.blk hb4 (fun e => pushS_ne hq4 hL4 hb4 (by decide) (by decide) e), hL6, hq6⟩, hFd.trans (hF6.mono (fun k _ hk => .inr hk))⟩
end Go.Proofs.YtdhhccpeikhilaaDoor
