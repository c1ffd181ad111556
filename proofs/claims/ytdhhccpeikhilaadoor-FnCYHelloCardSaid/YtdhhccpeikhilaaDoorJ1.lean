/- What the stream of the Initial packets does, act by act: a machine of its own words, and the acts' contracts. -/
import Derived.Test.YtdhhccpeikhilaaDoorI5
import Derived.Test.YtdhhccpeikhilaaDoorF2
namespace Go.Proofs.YtdhhccpeikhilaaDoor
open Go.RowKit

/-- A hello: is it cut; the name; how much ahead, behind. -/
structure HP where
  scr : Bool
  host : List UInt8
  a : Nat
  c : Nat

abbrev HP.H (P : HP) : List UInt8 := hello P.host P.a P.c
abbrev HP.p (P : HP) : Nat := namePos P.a + P.host.length / 2
abbrev HP.q (P : HP) : Nat := namePos P.a + P.host.length
abbrev HP.N (P : HP) : Nat := (hello P.host P.a P.c).length
def HP.Ok (P : HP) : Prop := P.a < 256 ∧ P.c < 256 ∧ P.host.length ≤ 60 ∧ 0 < P.host.length

theorem HP.Ok.bounds {P : HP} (h : P.Ok) : 0 < P.p ∧ P.p < P.q ∧ P.q + 4 ≤ P.N ∧ P.N ≤ 700 ∧ namePos P.a ≤ 400 ∧ 60 ≤ P.N := by
  obtain ⟨h1, h2, h3, h4⟩ := h
  have e : P.N = 47 + extsLen P.host.length P.a P.c := hello_length _ _ _
  have e2 : extsLen P.host.length P.a P.c = aheadLen P.a + (P.host.length + 9) + (P.c + 4) := rfl
  have hA : aheadLen P.a ≤ 259 := by unfold aheadLen; split <;> omega
  have e3 : namePos P.a = 56 + aheadLen P.a := rfl
  have e4 : P.p = namePos P.a + P.host.length / 2 := rfl
  have e5 : P.q = namePos P.a + P.host.length := rfl
  omega

/-- Written; plain: how much was sent, what waits; the parts ahead of and behind the cut: up to where; the part that was left out: from where. -/
inductive HS where
  | wr (l : List UInt8)
  | plain (off : Nat) (l : List UInt8)
  | seg (wo : Nat)
  | cut (v : Nat)

def HS.has (P : HP) : HS → Bool
  | .wr l => !P.scr && decide (0 < l.length)
  | .plain _ l => decide (0 < l.length)
  | .seg _ => true
  | .cut _ => true
def HS.off : HS → Nat
  | .wr _ => 0
  | .plain off _ => off
  | .seg wo => wo
  | .cut v => v
/-- What may come next in one piece. -/
def HS.rest (P : HP) : HS → List UInt8
  | .wr l => l
  | .plain _ l => l
  | .seg wo => (P.H.drop wo).take ((if wo < P.p then P.p else P.N) - wo)
  | .cut v => (P.H.drop v).take (P.q - v)
def HS.num (P : HP) (s : HS) (m : Nat) : Nat := min (room s.off m) (s.rest P).length
def HS.popped (P : HP) (n : Nat) : HS → HS
  | .wr l => .plain n (l.drop n)
  | .plain off l => .plain (off + n) (l.drop n)
  | .seg wo => if wo + n = P.p then .seg P.q else if wo + n = P.N then .cut P.p else .seg (wo + n)
  | .cut v => if v + n < P.q then .cut (v + n) else .plain P.N []
def hnext (P : HP) (s : HS) (x : Stp) : HS :=
  if x.kind = 3 then (match s with
    | .wr l => if P.scr = true ∧ l ++ x.data = P.H then .seg 0 else .wr (l ++ x.data)
    | s => s)
  else if x.kind = 4 ∧ 0 < s.num P x.most then s.popped P (s.num P x.most) else s
def hseen (P : HP) (s : HS) (x : Stp) : Sn :=
  if x.kind = 4 ∧ 0 < s.num P x.most then ⟨true, (hnext P s x).has P, s.off, (s.rest P).take (s.num P x.most), 0⟩ else ⟨false, (hnext P s x).has P, 0, [], 0⟩
def HInv (P : HP) : HS → Prop
  | .wr l => l.length ≤ 5000 ∧ (P.scr = true → l.length < P.N)
  | .plain off l => off + l.length ≤ 5000
  | .seg wo => wo < P.N ∧ P.scr = true
  | .cut v => v < P.q ∧ P.scr = true
def HOk (P : HP) (s : HS) (x : Stp) : Prop :=
  x.most ≤ 1400 ∧ x.data.length ≤ 1000 ∧
    ((x.kind = 3 ∧ ∃ l, s = .wr l ∧ l.length + x.data.length ≤ 5000 ∧ (P.scr = true → l ++ x.data = P.H.take (l ++ x.data).length)) ∨
      (x.kind = 4 ∧ (∀ l, s = .wr l → P.scr = false) ∧ (s.num P x.most = 0 → (s.rest P).length = 0)) ∨ x.kind = 5)

def hcells (P : HP) (r bL : Nat) (wb : Value) : HS → Array Value
  | .wr _ => iniC r bL 0 wb P.scr 0 (-1) (-1) (-1) (-1)
  | .plain off _ => iniC r bL off wb false (if P.scr then -1 else 0) (-1) (-1) (-1) (-1)
  | .seg wo => iniC r bL wo wb true (P.N : Int) (P.p : Int) (P.q : Int) (-1) (-1)
  | .cut v => iniC r bL P.N wb true (P.N : Int) (v : Int) (P.q : Int) (-1) (-1)
def HBuf (P : HP) (w : World) (wb : Value) : HS → Prop
  | .wr l => OwnB w wb l
  | .plain _ l => Rd w wb l
  | .seg _ => Rd w wb P.H
  | .cut _ => Rd w wb P.H

/-- The buffer, as long as it is appended to. -/
def HS.own (wb : Value) : HS → Value
  | .wr _ => wb
  | _ => .slice none 0 0

structure HIn (P : HP) (w0 w : World) (x b r bL : Nat) (wb : Value) (s : HS) : Prop where
  grow : Grow w0 w
  ok : Blk w w0.heap.size #[.bool false] 4
  door : Blk w x #[pt b, .pointer none] 86
  blk : Blk w b (hcells P r bL wb s) 108
  buf : HBuf P w wb s
  nb : w0.heap.size < x ∧ w0.heap.size < b
  wbn : ∀ k, (s.own wb).ownBlock = some k → w0.heap.size < k ∧ k < w.heap.size ∧ k ≠ b ∧ k ≠ x
  inv : HInv P s

theorem HBuf.keep {P : HP} {w w' : World} {wb : Value} {s : HS} (h : HBuf P w wb s) {S : Nat → Prop} (hF : Fr S w w') (hl : ∀ k, (s.own wb).ownBlock = some k → k < w.heap.size) (hw : ∀ k, (s.own wb).ownBlock = some k → ¬ S k) (hS : ∀ k, S k → ¬ BytesBlk w k) : HBuf P w' wb s := by
  cases s with
  | wr l => exact Own.keep h (fun k hk => hF.block k (hl k hk) (hw k hk))
  | plain off l => exact Rd.keep h (hF.bytes hS)
  | seg wo => exact Rd.keep h (hF.bytes hS)
  | cut v => exact Rd.keep h (hF.bytes hS)
theorem HIn.keepF {P : HP} {w0 w w' : World} {x b r bL : Nat} {wb : Value} {s : HS} (h : HIn P w0 w x b r bL wb s) {S : Nat → Prop} (hF : Fr S w w') (h0 : ∀ k, S k → w0.heap.size < k) (hx : ¬ S x) (hb : ¬ S b) (hw : ∀ k, (s.own wb).ownBlock = some k → ¬ S k) (hS : ∀ k, S k → ¬ BytesBlk w k) : HIn P w0 w' x b r bL wb s :=
  ⟨Grow.trans' h.grow hF (fun k hk => Nat.le_of_lt (h0 k hk)), hF.blk h.ok (fun e => Nat.lt_irrefl _ (h0 _ e)), hF.blk h.door hx, hF.blk h.blk hb, h.buf.keep hF (fun k hk => (h.wbn k hk).2.1) hw hS, h.nb,
    fun k hk => ⟨(h.wbn k hk).1, Nat.lt_of_lt_of_le (h.wbn k hk).2.1 hF.size, (h.wbn k hk).2.2⟩, h.inv⟩
theorem HIn.keepG {P : HP} {w0 w w' : World} {x b r bL : Nat} {wb : Value} {s : HS} (h : HIn P w0 w x b r bL wb s) (hg : Grow w w') : HIn P w0 w' x b r bL wb s :=
  h.keepF hg (fun _ e => e.elim) (fun e => e) (fun e => e) (fun _ _ e => e) (fun _ e => e.elim)

theorem find_pre (w : World) (v ev : Value) (host : List UInt8) (a c : Nat) (l : List UInt8) (hr : Rd w v l) (hl : l = (hello host a c).take l.length) (hlt : l.length < (hello host a c).length) (ha : a < 256) (hc : c < 256) (hn : host.length ≤ 60) (g0 : w.cell? ⟨0, 0, none⟩ = some ev) :
    Calls Tryd.prog 50 #[v] w fun e w' => e = .returned (.tuple #[.int .i64 0, .int .i64 0, .int .i64 0, ev]) ∧ Grow w w' := by
  have hA : aheadLen a ≤ 259 := by unfold aheadLen; split <;> omega
  have hE : extsLen host.length a c = aheadLen a + (host.length + 9) + (c + 4) := rfl
  rw [hello_length] at hlt
  rcases Nat.lt_or_ge l.length 4 with h4 | h4
  · exact find_short w v ev l hr h4 g0
  · have e : ∃ r, l = 1 :: 0 :: hb1 (extsLen host.length a c + 43) :: hb2 (extsLen host.length a c + 43) :: r := by
      obtain ⟨k, hk⟩ : ∃ k, l.length = k + 4 := ⟨l.length - 4, by omega⟩
      rw [hk] at hl
      exact ⟨_, hl⟩
    obtain ⟨r, rfl⟩ := e
    simp only [List.length_cons] at hlt h4
    have hv := hb_val (extsLen host.length a c + 43) (by omega)
    exact find_part w v ev _ _ r hr (by omega) (by omega) g0

theorem h_write (P : HP) (hP : P.Ok) (w0 w : World) (x b r bL : Nat) (wb dv : Value) (a : Addr) (l D : List UInt8) (h : HIn P w0 w x b r bL wb (.wr l)) (hd : Rd w dv D) (hl : l.length + D.length ≤ 5000) (hpre : P.scr = true → l ++ D = P.H.take (l ++ D).length)
    (g0 : w0.cell? ⟨0, 0, none⟩ = some (.iface 145 (.pointer (some a)))) (h0s : 0 < w0.heap.size) :
    Calls Tryd.prog 28 #[pt x, dv] w fun e w' => e = .returned .nilIface ∧ ∃ wb', HIn P w0 w' x b r bL wb' (if P.scr = true ∧ l ++ D = P.H then .seg 0 else .wr (l ++ D)) ∧ Fr (fun k => k = b ∨ wb.ownBlock = some k) w w' ∧ (∀ k, wb'.ownBlock = some k → wb.ownBlock = some k ∨ w.heap.size ≤ k) := by
  refine Write_ofI w x b dv h.door (R := fun w' => ∃ wb', HIn P w0 w' x b r bL wb' (if P.scr = true ∧ l ++ D = P.H then .seg 0 else .wr (l ++ D)) ∧ Fr (fun k => k = b ∨ wb.ownBlock = some k) w w' ∧ (∀ k, wb'.ownBlock = some k → wb.ownBlock = some k ∨ w.heap.size ≤ k)) ?_
  have hbx : b ≠ x := h.blk.ne_of_type h.door (by decide)
  have hbd := hP.bounds
  have gw : w.cell? ⟨0, 0, none⟩ = some (.iface 145 (.pointer (some a))) := (h.grow.cell h0s).trans g0
  have hsw : 0 < w.heap.size := Nat.lt_of_lt_of_le h0s h.grow.size
  have h0b : 0 < b := by have := h.nb.2; omega
  have h0w : ∀ k, wb.ownBlock = some k → 0 < k := fun k hk => by have := (h.wbn k hk).1; omega
  have hne : ∀ k, wb.ownBlock = some k → k ≠ b ∧ k < w.heap.size := fun k hk => ⟨(h.wbn k hk).2.2.1, (h.wbn k hk).2.1⟩
  have fin : ∀ w' wb' s', Blk w' b (hcells P r bL wb' s') 108 → Wrote w w' b wb wb' (l ++ D) → HBuf P w' wb' s' → HInv P s' → HIn P w0 w' x b r bL wb' s' ∧ Fr (fun k => k = b ∨ wb.ownBlock = some k) w w' ∧ (∀ k, wb'.ownBlock = some k → wb.ownBlock = some k ∨ w.heap.size ≤ k) := by
    rintro w' wb' s' hB ⟨hO, hF, hfr, hnb⟩ hbuf hinv
    refine ⟨⟨?_, hF.blk h.ok ?_, hF.blk h.door ?_, hB, hbuf, h.nb, fun k hk2 => ?_, hinv⟩, hF, fun k hk => (hfr k hk).1⟩
    · exact Grow.trans' h.grow hF (by
        rintro k (rfl | hk)
        · exact Nat.le_of_lt h.nb.2
        · exact Nat.le_of_lt (h.wbn k hk).1)
    · rintro (e | e)
      · have := h.nb.2; omega
      · have := (h.wbn _ e).1; omega
    · rintro (e | e)
      · exact hbx e.symm
      · exact (h.wbn _ e).2.2.2 rfl
    · have hk : wb'.ownBlock = some k := by
        cases s' with
        | wr l => exact hk2
        | plain off l => cases hk2
        | seg wo => cases hk2
        | cut v => cases hk2
      refine ⟨?_, (hfr k hk).2, hnb k hk, ?_⟩
      · rcases (hfr k hk).1 with e | e
        · exact (h.wbn k e).1
        · have := h.ok.lt; omega
      · rcases (hfr k hk).1 with e | e
        · exact (h.wbn k e).2.2.2
        · have := h.door.lt; omega
  by_cases hs : P.scr = true
  · have hblk : Blk w b (iniC r bL 0 wb true 0 (-1) (-1) (-1) (-1)) 108 := by have := h.blk; unfold hcells at this; rw [hs] at this; exact this
    by_cases hw : l ++ D = P.H
    · rw [if_pos ⟨hs, hw⟩]
      refine (iwrite_whole w b r bL (namePos P.a) P.host.length wb dv a l D hblk h.buf hd (by omega) hne (by omega) (by have := hP.2.2.1; omega) (fun w' v' hr => by rw [hw] at hr; exact find_whole w' v' P.host P.a P.c hr hP.1 hP.2.1 hP.2.2.1 hP.2.2.2) gw h0b h0w hsw).mono ?_
      rintro e w' ⟨rfl, wb', hB, hW⟩
      rw [hw] at hB
      have hO := hW.1
      rw [hw] at hO
      exact ⟨⟨_, rfl⟩, wb', fin w' wb' (.seg 0) hB hW hO.rd ⟨by omega, hs⟩⟩
    · rw [if_neg (fun e => hw e.2)]
      have hpr := hpre hs
      have hlt : (l ++ D).length < P.H.length := by
        rcases Nat.lt_or_ge (l ++ D).length P.H.length with h1 | h1
        · exact h1
        · rw [List.take_of_length_le h1] at hpr; exact absurd hpr hw
      refine (iwrite_part w b r bL wb dv a l D hblk h.buf hd (by omega) hne (fun w' v' hr g => find_pre w' v' _ P.host P.a P.c _ hr hpr hlt hP.1 hP.2.1 hP.2.2.1 g) gw h0b h0w hsw).mono ?_
      rintro e w' ⟨rfl, wb', hB, hW⟩
      exact ⟨⟨_, rfl⟩, wb', fin w' wb' (.wr (l ++ D)) (by unfold hcells; rw [hs]; exact hB) hW hW.1 ⟨by rw [List.length_append]; exact hl, fun _ => hlt⟩⟩
  · have hsf : P.scr = false := by simpa using hs
    rw [if_neg (fun e => hs e.1)]
    have hblk : Blk w b (iniC r bL 0 wb false 0 (-1) (-1) (-1) (-1)) 108 := by have := h.blk; unfold hcells at this; rw [hsf] at this; exact this
    refine (iwrite_plain w b r bL 0 wb dv 0 (-1) (-1) (-1) (-1) l D hblk h.buf hd (by omega) hne).mono ?_
    rintro e w' ⟨rfl, wb', hB, hW⟩
    exact ⟨⟨_, rfl⟩, wb', fin w' wb' (.wr (l ++ D)) (by unfold hcells; rw [hsf]; exact hB) hW hW.1 ⟨by rw [List.length_append]; exact hl, fun e => absurd e hs⟩⟩

theorem h_has (P : HP) (hP : P.Ok) (w0 w : World) (x b r bL : Nat) (wb : Value) (s : HS) (h : HIn P w0 w x b r bL wb s) :
    Calls Tryd.prog 30 #[pt x] w fun e w' => e = .returned (.bool (s.has P)) ∧ w = w' := by
  refine Has_ofI w x b h.door (R := fun e w' => e = .returned (.bool (s.has P)) ∧ w = w') ?_ (fun e w' h => ⟨_, h.1⟩)
  have hbd := hP.bounds
  have hb := h.blk
  have hu := h.buf
  have hi := h.inv
  cases s with
  | wr l =>
    by_cases hs : P.scr = true
    · unfold hcells at hb
      rw [hs] at hb
      refine (ini_has_not w b r bL wb 0 (-1) (-1) (-1) hb).mono ?_
      rintro e w' ⟨rfl, rfl⟩
      exact ⟨by unfold HS.has; rw [hs]; rfl, rfl⟩
    · have hsf : P.scr = false := by simpa using hs
      unfold hcells at hb
      rw [hsf] at hb
      refine (ini_has_plain w b r bL 0 wb 0 (-1) (-1) (-1) (-1) l hb (Own.rd hu)).mono ?_
      rintro e w' ⟨rfl, rfl⟩
      exact ⟨by unfold HS.has; rw [hsf]; simp, rfl⟩
  | plain off l => exact ini_has_plain w b r bL off wb _ (-1) (-1) (-1) (-1) l hb hu
  | seg wo =>
    refine (ini_has_scr w b r bL wo wb _ _ _ _ _ P.H hb hu (by omega)).mono ?_
    rintro e w' ⟨rfl, rfl⟩
    exact ⟨ret_bool (decide_eq_true (show 0 < P.N by omega)), rfl⟩
  | cut v =>
    refine (ini_has_scr w b r bL P.N wb _ _ _ _ _ P.H hb hu (by omega)).mono ?_
    rintro e w' ⟨rfl, rfl⟩
    exact ⟨ret_bool (decide_eq_true (show 0 < P.N by omega)), rfl⟩

/-- NOTHING COMES. -/
theorem h_pop_none (P : HP) (hP : P.Ok) (w0 w : World) (x b r bL m : Nat) (wb : Value) (s : HS) (h : HIn P w0 w x b r bL wb s) (hm : m ≤ 1400) (hn : s.num P m = 0) (hr : (s.rest P).length = 0) (hw : ∀ l, s = .wr l → P.scr = false) :
    Calls Tryd.prog 29 #[pt x, .int .i64 (m : Int)] w fun e w' => e = .returned (.pointer none) ∧ Grow w w' := by
  refine Pop_ofI w x b _ h.door (R := fun e w' => e = .returned (.pointer none) ∧ Grow w w') ?_ (fun e w' h => ⟨_, h.1⟩)
  have hbd := hP.bounds
  have hb := h.blk
  have hu := h.buf
  have hi := h.inv
  have e1 : P.H.length = P.N := rfl
  cases s with
  | wr l =>
    have hsf := hw l rfl
    unfold hcells at hb
    rw [hsf] at hb
    exact pop41_plain w b r bL 0 wb _ 0 (-1) (-1) (-1) (-1) hb (popn_gen w b 0 m _ 108 wb l hb rfl rfl (Own.rd hu) (by omega) (by omega) (by have := hi.1; omega) hn) (fun e w' h => ⟨_, h.1⟩)
  | plain off l =>
    have hi : off + l.length ≤ 5000 := hi
    exact pop41_plain w b r bL off wb _ _ (-1) (-1) (-1) (-1) hb (popn_gen w b off m _ 108 wb l hb rfl rfl hu (by omega) (by omega) (by omega) hn) (fun e w' h => ⟨_, h.1⟩)
  | seg wo =>
    have hwo := hi.1
    unfold HS.rest at hr
    rw [List.length_take, List.length_drop] at hr
    split at hr <;> omega
  | cut v =>
    have hv := hi.1
    unfold HS.rest at hr
    rw [List.length_take, List.length_drop] at hr
    omega

/-- SOME COMES. -/
theorem h_pop_some (P : HP) (hP : P.Ok) (w0 w : World) (x b r bL m n : Nat) (wb : Value) (s : HS) (h : HIn P w0 w x b r bL wb s) (hm : m ≤ 1400) (hn : s.num P m = n) (hpos : 0 < n) (hw : ∀ l, s = .wr l → P.scr = false) :
    Calls Tryd.prog 29 #[pt x, .int .i64 (m : Int)] w fun e w' => ∃ bf sv wb', e = .returned (pt bf) ∧ w.heap.size ≤ bf ∧ Blk w' bf #[.int .i64 (s.off : Int), sv] 69 ∧ Rd w' sv ((s.rest P).take n) ∧ HIn P w0 w' x b r bL wb' (s.popped P n) ∧ Fr (fun j => j = b) w w' := by
  refine Pop_ofI w x b _ h.door (R := fun e w' => ∃ bf sv wb', e = .returned (pt bf) ∧ w.heap.size ≤ bf ∧ Blk w' bf #[.int .i64 (s.off : Int), sv] 69 ∧ Rd w' sv ((s.rest P).take n) ∧ HIn P w0 w' x b r bL wb' (s.popped P n) ∧ Fr (fun j => j = b) w w') ?_ (fun e w' ⟨bf, _, _, h, _⟩ => ⟨_, h⟩)
  have hbd := hP.bounds
  have hb := h.blk
  have hu := h.buf
  have hi := h.inv
  have e1 : P.H.length = P.N := rfl
  have hbx : b ≠ x := h.blk.ne_of_type h.door (by decide)
  have fin : ∀ w' wb' s', Fr (fun j => j = b) w w' → Blk w' b (hcells P r bL wb' s') 108 → HBuf P w' wb' s' → (∀ k, (s'.own wb').ownBlock ≠ some k) → HInv P s' → HIn P w0 w' x b r bL wb' s' := by
    intro w' wb' s' hF hB hbuf hown hinv
    exact ⟨Grow.trans' h.grow hF (by rintro k rfl; exact Nat.le_of_lt h.nb.2), hF.blk h.ok (fun e => by have := h.nb.2; omega), hF.blk h.door (fun e => hbx e.symm), hB, hbuf, h.nb, fun j hj => absurd hj (hown j), hinv⟩
  cases s with
  | wr l =>
    have hsf := hw l rfl
    unfold hcells at hb
    rw [hsf] at hb
    have hl := hi.1
    refine pop41_plain w b r bL 0 wb _ 0 (-1) (-1) (-1) (-1) hb ?_ (fun e w' ⟨bf, _, _, h, _⟩ => ⟨_, h⟩)
    refine (pop_gen w b 0 m _ 108 wb l (by decide) hb rfl rfl (Own.rd hu) (by omega) (by omega) (by omega) n hn hpos).mono ?_
    rintro e w' ⟨bf, sv, wb', rfl, h1, h2, h3, h4, h5, hF⟩
    refine ⟨bf, sv, wb', rfl, h1, h2, h3, fin w' wb' (.plain n (l.drop n)) hF ?_ h5 (fun k e => nomatch e) ?_, hF⟩
    · unfold hcells
      rw [hsf]
      rw [Nat.zero_add] at h4
      exact h4
    · show n + (l.drop n).length ≤ 5000
      have : n ≤ l.length := by rw [← hn]; exact Nat.min_le_right _ _
      rw [List.length_drop]; omega
  | plain off l =>
    have hi : off + l.length ≤ 5000 := hi
    refine pop41_plain w b r bL off wb _ _ (-1) (-1) (-1) (-1) hb ?_ (fun e w' ⟨bf, _, _, h, _⟩ => ⟨_, h⟩)
    refine (pop_gen w b off m _ 108 wb l (by decide) hb rfl rfl hu (by omega) (by omega) (by omega) n hn hpos).mono ?_
    rintro e w' ⟨bf, sv, wb', rfl, h1, h2, h3, h4, h5, hF⟩
    refine ⟨bf, sv, wb', rfl, h1, h2, h3, fin w' wb' (.plain (off + n) (l.drop n)) hF h4 h5 (fun k e => nomatch e) ?_, hF⟩
    show off + n + (l.drop n).length ≤ 5000
    have : n ≤ l.length := by rw [← hn]; exact Nat.min_le_right _ _
    rw [List.length_drop]; omega
  | seg wo =>
    obtain ⟨hwo, hs⟩ := hi
    have hrest : (HS.seg wo).rest P = (P.H.drop wo).take ((if wo < P.p then P.p else P.N) - wo) := rfl
    have hoff : (HS.seg wo).off = wo := rfl
    have hlen : ((P.H.drop wo).take ((if wo < P.p then P.p else P.N) - wo)).length = (if wo < P.p then P.p else P.N) - wo := by
      rw [List.length_take, List.length_drop, e1]; split <;> omega
    have hn2 : min (room wo m) ((if wo < P.p then P.p else P.N) - wo) = n := by
      have := hn
      unfold HS.num at this
      rw [hrest, hoff, hlen] at this
      exact this
    have hle : n ≤ (if wo < P.p then P.p else P.N) - wo := by rw [← hn2]; exact Nat.min_le_right _ _
    have htk : ((P.H.drop wo).take ((if wo < P.p then P.p else P.N) - wo)).take n = (P.H.drop wo).take n := by rw [List.take_take, Nat.min_eq_left hle]
    rw [hrest, hoff, htk]
    by_cases hlow : wo < P.p
    · rw [if_pos hlow] at hn2 hle
      refine (pop41_low w b r bL wo P.N P.p P.q m n wb P.H hb hu rfl (by omega) (by omega) hlow hbd.2.1 (by omega) hn2 hpos _ rfl).mono ?_
      rintro e w' ⟨bf, sv, rfl, h1, h2, h3, h4, h5, hF⟩
      refine ⟨bf, sv, wb, rfl, h1, h2, h3, ?_, hF⟩
      show HIn P w0 w' x b r bL wb (if wo + n = P.p then .seg P.q else if wo + n = P.N then .cut P.p else .seg (wo + n))
      by_cases hp : wo + n = P.p
      · rw [if_pos hp] at h4 ⊢
        exact fin w' wb (.seg P.q) hF h4 h5 (fun k e => nomatch e) ⟨by omega, hs⟩
      · rw [if_neg hp] at h4 ⊢
        rw [if_neg (by omega)]
        exact fin w' wb (.seg (wo + n)) hF h4 h5 (fun k e => nomatch e) ⟨by omega, hs⟩
    · rw [if_neg hlow] at hn2 hle
      refine (pop41_high w b r bL wo P.N P.p P.q m n wb P.H hb hu rfl (by omega) (by omega) (by omega) hwo hn2 hpos _ rfl).mono ?_
      rintro e w' ⟨bf, sv, rfl, h1, h2, h3, h4, h5, hF⟩
      refine ⟨bf, sv, wb, rfl, h1, h2, h3, ?_, hF⟩
      show HIn P w0 w' x b r bL wb (if wo + n = P.p then .seg P.q else if wo + n = P.N then .cut P.p else .seg (wo + n))
      rw [if_neg (by omega)]
      by_cases hp : wo + n = P.N
      · rw [if_pos hp]
        rw [hp] at h4
        exact fin w' wb (.cut P.p) hF h4 h5 (fun k e => nomatch e) ⟨by omega, hs⟩
      · rw [if_neg hp]
        exact fin w' wb (.seg (wo + n)) hF h4 h5 (fun k e => nomatch e) ⟨by omega, hs⟩
  | cut v =>
    obtain ⟨hv, hs⟩ := hi
    have hrest : (HS.cut v).rest P = (P.H.drop v).take (P.q - v) := rfl
    have hoff : (HS.cut v).off = v := rfl
    have hlen : ((P.H.drop v).take (P.q - v)).length = P.q - v := by
      rw [List.length_take, List.length_drop, e1]; omega
    have hn2 : min (room v m) (P.q - v) = n := by
      have := hn
      unfold HS.num at this
      rw [hrest, hoff, hlen] at this
      exact this
    have hle : n ≤ P.q - v := by rw [← hn2]; exact Nat.min_le_right _ _
    have htk : ((P.H.drop v).take (P.q - v)).take n = (P.H.drop v).take n := by rw [List.take_take, Nat.min_eq_left hle]
    rw [hrest, hoff, htk]
    refine (pop41_cut w b r bL P.N v P.q m n wb P.H hb hu rfl (by omega) (by omega) hv (by omega) hn2 hpos).mono ?_
    rintro e w' ⟨bf, sv, rfl, h1, h2, h3, ⟨h4, h5⟩, hF⟩
    by_cases hq : v + n < P.q
    · obtain ⟨h6, h7⟩ := h4 hq
      refine ⟨bf, sv, wb, rfl, h1, h2, h3, ?_, hF⟩
      show HIn P w0 w' x b r bL wb (if v + n < P.q then .cut (v + n) else .plain P.N [])
      rw [if_pos hq]
      exact fin w' wb (.cut (v + n)) hF h6 h7 (fun k e => nomatch e) ⟨hq, hs⟩
    · obtain ⟨wb', h6, h7⟩ := h5 (by omega)
      refine ⟨bf, sv, wb', rfl, h1, h2, h3, ?_, hF⟩
      show HIn P w0 w' x b r bL wb' (if v + n < P.q then .cut (v + n) else .plain P.N [])
      rw [if_neg hq]
      exact fin w' wb' (.plain P.N []) hF (by unfold hcells; rw [hs]; exact h6) h7 (fun k e => nomatch e) (by show P.N + 0 ≤ 5000; omega)
end Go.Proofs.YtdhhccpeikhilaaDoor
