/- A CRYPTO stream that sends: Write, HasData. -/
import Derived.Test.YtdhhccpeikhilaaDoorC4
namespace Go.Proofs.YtdhhccpeikhilaaDoor
open Go.RowKit

theorem Own.block {w : World} {v : Value} {e : TypeId} {size n : Nat} {xs : List Value} (h : Own w v e size n xs) (hn : 0 < n) : ∃ b off cur, v.ownBlock = some b ∧ w.heap[b]? = some (.cells cur e (0, 0)) ∧ off + n * size ≤ cur.size := by
  obtain ⟨_, p, cap, rfl, h2, _, h4⟩ := h
  rcases h4 with h4 | ⟨b, off, cur, rfl, h5, h6, _⟩
  · omega
  · exact ⟨b, off, cur, rfl, h5, by have := Nat.mul_le_mul_right size h2; omega⟩

theorem has_plain (w : World) (b r bL rp hi wo : Nat) (fin : Bool) (wb : Value) (l : List UInt8) (hb : Blk w b (cryC r bL rp hi fin wo wb) 99) (ho : OwnB w wb l) :
    Calls Tryd.prog 44 #[pt b] w fun e w' => e = .returned (.bool (decide (0 < l.length))) ∧ w = w' := by
  obtain ⟨_, p, cap, rfl, _⟩ := ho
  have c6 : w.cell? ⟨b, 6, none⟩ = some (.slice p l.length cap) := hb.cellAt 6 _ rfl
  have hlt := hb.lt
  go_enter Tryd.func44, Tryd.ntmps44
  go_wp2_with fail
  go_ret
  exact ⟨ret_bool (by simp), rfl⟩

set_option maxRecDepth 100000 in
theorem write_plain (w : World) (b r bL rp hi wo : Nat) (fin : Bool) (wb dv : Value) (l m : List UInt8) (hb : Blk w b (cryC r bL rp hi fin wo wb) 99) (ho : OwnB w wb l) (hd : Rd w dv m) (hlen : l.length + m.length ≤ 1000000) (hne : ∀ k, wb.ownBlock = some k → k ≠ b) :
    Calls Tryd.prog 40 #[pt b, dv] w fun e w' => e = .returned (.tuple #[.int .i64 (m.length : Int), .nilIface]) ∧ ∃ wb', Blk w' b (cryC r bL rp hi fin wo wb') 99 ∧ OwnB w' wb' (l ++ m) ∧ Fr (fun k => k = b ∨ wb.ownBlock = some k) w w' ∧ (∀ k, wb'.ownBlock = some k → wb.ownBlock = some k ∨ w.heap.size ≤ k) := by
  have c6 : w.cell? ⟨b, 6, none⟩ = some wb := hb.cellAt 6 _ rfl
  have hlt := hb.lt
  obtain ⟨pd, cd, rfl, _⟩ := id hd
  go_enter Tryd.func40, Tryd.ntmps40
  go_wp2_with (at_builtin; refine wpList_appendB _ rfl _ _ rfl wb _ l m ho hd hlen rfl rfl ?_; intro v' w1 ho1 hF1 hfr1; obtain ⟨_, pv, cv, rfl, _⟩ := id ho1; have hb1 := hF1.blk hb (fun e => hne _ e rfl); have c61 : w1.cell? ⟨b, 6, none⟩ = some wb := hb1.cellAt 6 _ rfl; have hlt1 := hb1.lt; have hf1 := hb1.free)
  go_ret2
  have e : l.length + m.length = (l ++ m).length := List.length_append.symm
  rw [e]
  have hb2 := hb1.set 6 (.slice pv (l ++ m).length cv)
  have hF2 : Fr (fun k => k = b ∨ wb.ownBlock = some k) w (w1.setCell ⟨b, 6, none⟩ (.slice pv (l ++ m).length cv)) := (hF1.mono (fun k _ hk => .inr hk)).setCell _ _ (.inl (.inl rfl))
  refine ⟨rfl, _, hb2, ho1.keep (fun k hk => Below.heap_setCell _ _ _ _ (fun e => ?_)), hF2, hfr1⟩
  have e : k = b := e
  subst e
  rcases hfr1 _ hk with h | h
  · exact hne _ h rfl
  · omega
end Go.Proofs.YtdhhccpeikhilaaDoor
