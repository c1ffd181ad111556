/- slices.SortFunc on the two cuts, of which the second one is none: nothing is moved. binary.BigEndian.Uint16, and findSNIAndECH on a part of a ClientHello. findSNIAndECH on a part of a ClientHello: io.ErrUnexpectedEOF. A ClientHello with a server's name, as bytes. -/
import Derived.Test.YtdhhccpeikhilaaDoorI2b
import Derived.Deep.RegionHeld3
import Derived.BigQuiet
import Derived.Laws.BitsAllLaws
import Derived.Deep.QuietTactic
import Derived.IntWalk
namespace Go.Proofs.YtdhhccpeikhilaaDoor
open Go.RowKit

set_option maxRecDepth 100000 in
theorem len64_two (w : World) : Calls Tryd.prog 82 #[.int .u64 2] w fun e w' => e = .returned (.int .i64 2) ∧ w = w' := by
  go_enter Tryd.func82, Tryd.ntmps82
  go_wp2_with fail
  go_ret
  exact ⟨by kernel_rfl, rfl⟩

set_option maxRecDepth 100000 in
theorem len_two (w : World) : Calls Tryd.prog 61 #[.int .u64 2] w fun e w' => e = .returned (.int .i64 2) ∧ w = w' := by
  go_enter Tryd.func61, Tryd.ntmps61
  go_wp2_with (go_at_call 82; refine (len64_two _).mono ?_; rintro e w' ⟨rfl, rfl⟩)
  go_ret
  exact ⟨rfl, rfl⟩

theorem cmp_none (w : World) (a1 b0 b1 : Value) :
    Calls Tryd.prog 52 #[.agg #[.int .i64 (-1), a1], .agg #[b0, b1]] w fun e w' => e = .returned (.int .i64 1) ∧ Grow w w' := by
  go_enter Tryd.func52, Tryd.ntmps52
  go_wp2_with fail
  go_ret
  exact ⟨rfl, ((Fr.refl _ w).alloc _).alloc _⟩

abbrev cmpV : Value := .func (.func 52) #[] #[]

set_option maxRecDepth 100000 in
set_option maxHeartbeats 2000000 in
theorem insertion (w : World) (b r bL wo : Nat) (wb : Value) (e c0 c1 : Int) (hb : Blk w b (iniC r bL wo wb true e c0 c1 (-1) (-1)) 108) :
    Calls Tryd.prog 73 #[.slice (some ⟨b, 9, none⟩) 2 2, .int .i64 0, .int .i64 2, cmpV] w fun e w' => e = .returned (.tuple #[]) ∧ Grow w w' := by
  have HB := Lib.hid hb
  clear hb
  go_enter Tryd.func73, Tryd.ntmps73
  go_wp2_with fail
  go_loopg [8, 9, 15, 16, 12, 13, 14] 1 (fun k s8 s9 s15 s16 s12 s13 s14 wr => ∃ i : Nat, k + i = 1 ∧ s8 = .int .i64 ((1 + i : Nat) : Int) ∧ Hid (Grow w wr))
  case atStart => exact ⟨0, rfl, rfl, Lib.hid (Fr.refl _ _)⟩
  case round =>
    obtain ⟨i, hk, rfl, HJ⟩ := hrel
    rcases Nat.lt_or_ge i 1 with hi0 | hi0
    · obtain rfl : i = 0 := by omega
      obtain rfl : gk = 1 := by omega
      go_wp2_with fail
      go_loopg [9] 1 (fun k s9 ww => s9 = .int .i64 1 ∧ ww = wr)
      case atStart => exact ⟨rfl, rfl⟩
      case round =>
        obtain ⟨rfl, rfl⟩ := hrel
        rename_i ww
        have hB := HJ.out.blk HB.out (fun e => e)
        have hlt := hB.lt
        have c9 : wr.cell? ⟨b, 9, none⟩ = some (.int .i64 c0) := hB.cellAt 9 _ rfl
        have c10 : wr.cell? ⟨b, 10, none⟩ = some (.int .i64 c1) := hB.cellAt 10 _ rfl
        have c11 : wr.cell? ⟨b, 11, none⟩ = some (.int .i64 (-1)) := hB.cellAt 11 _ rfl
        have c12 : wr.cell? ⟨b, 12, none⟩ = some (.int .i64 (-1)) := hB.cellAt 12 _ rfl
        have HBr := Lib.hid hB
        have HS : Hid (∀ w', Grow wr w' → w'.cell? ⟨b, 9, none⟩ = some (.int .i64 c0) ∧ w'.cell? ⟨b, 10, none⟩ = some (.int .i64 c1) ∧ w'.cell? ⟨b, 11, none⟩ = some (.int .i64 (-1)) ∧ w'.cell? ⟨b, 12, none⟩ = some (.int .i64 (-1))) := Lib.hid (fun w' hg => ⟨(hg.cell hlt).trans c9, (hg.cell hlt).trans c10, (hg.cell hlt).trans c11, (hg.cell hlt).trans c12⟩)
        clear hB
        have ws : IntKind.i64.wrap (0 : Int) = 0 := by decide
        go_upto_region 4 with fail
        go_region_held3 (fun w' => w'.cell? ⟨b, 9, none⟩ = some (.int .i64 c0) ∧ w'.cell? ⟨b, 10, none⟩ = some (.int .i64 c1) ∧ w'.cell? ⟨b, 11, none⟩ = some (.int .i64 (-1)) ∧ w'.cell? ⟨b, 12, none⟩ = some (.int .i64 (-1)))
          (first | exact HS.out _ (by repeat (first | exact Fr.refl _ _ | assumption | apply Fr.drew | apply Fr.alloc | refine Fr.trans ?_ (by assumption))))
          (first | (go_at_call 52; refine (cmp_none _ (.int .i64 (-1)) (.int .i64 c0) (.int .i64 c1)).mono ?_; rintro e w3 ⟨rfl, hG3⟩))
        all_goals
          go_wp2_with fail
          go_roundg 0
          case measure => omega
          case rel => exact ⟨1, rfl, rfl, Lib.hid (HJ.out.trans (by repeat (first | exact Fr.refl _ _ | assumption | apply Fr.drew | apply Fr.alloc | refine Fr.trans ?_ (by assumption))))⟩
    · obtain rfl : i = 1 := by omega
      go_wp2_with fail
      go_end0
      exact ⟨rfl, HJ.out⟩

set_option maxRecDepth 100000 in
set_option maxHeartbeats 2000000 in
theorem pdq (w : World) (b r bL wo : Nat) (wb : Value) (e c0 c1 : Int) (hb : Blk w b (iniC r bL wo wb true e c0 c1 (-1) (-1)) 108) :
    Calls Tryd.prog 60 #[.slice (some ⟨b, 9, none⟩) 2 2, .int .i64 0, .int .i64 2, .int .i64 2, cmpV] w fun e w' => e = .returned (.tuple #[]) ∧ Grow w w' := by
  have H := Lib.hid (insertion w b r bL wo wb e c0 c1 hb)
  clear hb
  go_enter Tryd.func60, Tryd.ntmps60
  go_wp2_with fail
  go_loopg [1, 2, 3, 10, 11, 12] 1 (fun k s1 s2 s3 s10 s11 s12 ww => s1 = .int .i64 0 ∧ s2 = .int .i64 2 ∧ s3 = .int .i64 2 ∧ ww = w)
  case atStart => exact ⟨rfl, rfl, rfl, rfl⟩
  case round =>
    obtain ⟨rfl, rfl, rfl, rfl⟩ := hrel
    go_wp2_with (go_at_call 73; refine H.out.mono ?_; rintro e w' ⟨rfl, hG⟩)
    refine bodyPost_ret (results_none rfl _ _ _) rfl ?_
    exact ⟨rfl, hG⟩

set_option maxRecDepth 100000 in
theorem sort_func (w : World) (b r bL wo : Nat) (wb : Value) (e c0 c1 : Int) (hb : Blk w b (iniC r bL wo wb true e c0 c1 (-1) (-1)) 108) :
    Calls Tryd.prog 51 #[.slice (some ⟨b, 9, none⟩) 2 2, cmpV] w fun e w' => e = .returned (.tuple #[]) ∧ Grow w w' := by
  have H := Lib.hid (pdq w b r bL wo wb e c0 c1 hb)
  clear hb
  go_enter Tryd.func51, Tryd.ntmps51
  go_wp2_with (first
    | (go_at_call 61; refine (len_two _).mono ?_; rintro e w' ⟨rfl, rfl⟩)
    | (go_at_call 60; refine H.out.mono ?_; rintro e w' ⟨rfl, hG⟩))
  go_end0
  exact ⟨rfl, hG⟩
end Go.Proofs.YtdhhccpeikhilaaDoor
namespace Go.Proofs.YtdhhccpeikhilaaDoor
open Go.RowKit

theorem or16 (x y : Nat) (hx : x < 256) (hy : y < 256) : bits .or .u16 (y : Int) ((x : Int) * 256) = ((x * 256 + y : Nat) : Int) := by
  rw [show ((x : Int) * 256) = ((x * 256 : Nat) : Int) from by omega, u16_or_nat y (x * 256) (by omega) (by omega), Nat.or_comm]
  have := Nat.shiftLeft_add_eq_or_of_lt (i := 8) (show y < 2 ^ 8 from hy) x
  rw [Nat.shiftLeft_eq] at this
  rw [show x * 256 = x * 2 ^ 8 from rfl, this]

theorem Rd.two {w : World} {v : Value} {x y : UInt8} {l : List UInt8} (h : Rd w v (x :: y :: l)) : ∃ b o n c, v = .slice (some ⟨b, o, none⟩) n c ∧ 2 ≤ n ∧ n ≤ c ∧ b < w.heap.size ∧ w.cell? ⟨b, o, none⟩ = some (u8 x) ∧ w.cell? ⟨b, o + 1, none⟩ = some (u8 y) := by
  obtain ⟨p, c, rfl, h1, h2, h3⟩ := h
  obtain ⟨b, o, rfl, hr⟩ := h3 (by simp)
  exact ⟨b, o, _, c, rfl, by simp, h1, hr.1.lt, hr.2 0 x rfl, hr.2 1 y rfl⟩

theorem u16_any (w : World) (v : Value) (x y : UInt8) (l : List UInt8) (h : Rd w v (x :: y :: l)) :
    Calls Tryd.prog 59 #[.agg #[], v] w fun e w' => e = .returned (.int .u16 (x.toNat * 256 + y.toNat : Nat)) ∧ Grow w w' := by
  obtain ⟨b, o, n, c, rfl, h1, h2, hlt, c0, c1⟩ := h.two
  have i0 : (0 : Int) < (n : Int) := by omega
  have i1 : (1 : Int) < (n : Int) := by omega
  have x1 : (x.toNat : Int) < 256 := by have := x.toNat_lt; omega
  have y1 : (y.toNat : Int) < 256 := by have := y.toNat_lt; omega
  have x0 : 0 ≤ (x.toNat : Int) := by omega
  have y0 : 0 ≤ (y.toNat : Int) := by omega
  go_enter Tryd.func59, Tryd.ntmps59
  go_upto_region 2 with fail
  go_quiet (fail)
  go_wp2_with fail
  go_ret
  refine ⟨?_, ((Fr.refl _ w).alloc _).trans (drewN_grow _ nq)⟩
  have h16 := or16 x.toNat y.toNat (by omega) (by omega)
  exact congrArg (fun z => Ending.returned (.int .u16 z)) h16
end Go.Proofs.YtdhhccpeikhilaaDoor
namespace Go.Proofs.YtdhhccpeikhilaaDoor
open Go.RowKit

theorem or64 (a b : Nat) (ha : a < 65536) (hb : b < 65536) : bits .or .i64 (a : Int) (b : Int) = ((a ||| b : Nat) : Int) := by
  have hx : a ||| b < 2 ^ 16 := Nat.or_lt_two_pow (by omega) (by omega)
  have h1 : ∀ a : Nat, a < 65536 → (BitVec.ofInt 64 (a : Int)).toNat = a := fun a ha => by
    rw [BitVec.ofInt_natCast, BitVec.toNat_ofNat]; exact Nat.mod_eq_of_lt (by omega)
  show IntKind.i64.wrap ((BitVec.ofInt 64 (a : Int) ||| BitVec.ofInt 64 (b : Int)).toNat : Int) = _
  rw [BitVec.toNat_or, h1 a ha, h1 b hb]
  exact IntWalk.i64_in _ (by omega)
theorem or64a (x : Nat) (hx : x < 256) : bits .or .i64 0 ((x : Int) * 256) = (x : Int) * 256 := by
  rw [show ((x : Int) * 256) = ((x * 256 : Nat) : Int) from by omega, show (0 : Int) = ((0 : Nat) : Int) from rfl, or64 0 _ (by omega) (by omega), Nat.zero_or]
theorem or64b (x y : Nat) (hx : x < 256) (hy : y < 256) : bits .or .i64 ((x : Int) * 256) (y : Int) = (x : Int) * 256 + (y : Int) := by
  rw [show ((x : Int) * 256) = ((x * 256 : Nat) : Int) from by omega, or64 (x * 256) y (by omega) (by omega)]
  have := Nat.shiftLeft_add_eq_or_of_lt (i := 8) (show y < 2 ^ 8 from hy) x
  rw [Nat.shiftLeft_eq] at this
  rw [show x * 256 = x * 2 ^ 8 from rfl, ← this]; omega

set_option maxRecDepth 100000 in
theorem find_short (w : World) (v ev : Value) (l : List UInt8) (h : Rd w v l) (hl : l.length < 4) (g0 : w.cell? ⟨0, 0, none⟩ = some ev) :
    Calls Tryd.prog 50 #[v] w fun e w' => e = .returned (.tuple #[.int .i64 0, .int .i64 0, .int .i64 0, ev]) ∧ Grow w w' := by
  obtain ⟨p, c, rfl, h1, h2, _⟩ := h
  go_enter Tryd.func50, Tryd.ntmps50
  go_upto_region 2 with fail
  go_quiet (fail)
  go_wp2_with fail
  exact bodyPost_ret (v := .tuple #[.int .i64 0, .int .i64 0, .int .i64 0, ev]) (by simp [results, Tryd.results50, go_sem]) rfl ⟨rfl, drewN_grow _ nq⟩

set_option maxRecDepth 100000 in
theorem find_part (w : World) (v ev : Value) (hi lo : UInt8) (r : List UInt8) (h : Rd w v (1 :: 0 :: hi :: lo :: r)) (hl : r.length ≤ 100000) (hne : r.length ≠ hi.toNat * 256 + lo.toNat) (g0 : w.cell? ⟨0, 0, none⟩ = some ev) :
    Calls Tryd.prog 50 #[v] w fun e w' => e = .returned (.tuple #[.int .i64 0, .int .i64 0, .int .i64 0, ev]) ∧ Grow w w' := by
  obtain ⟨p, c, rfl, h1, h2, h3⟩ := h
  obtain ⟨b, o, rfl, hr⟩ := h3 (by simp)
  have c0 : w.cell? ⟨b, o, none⟩ = some (.int .u8 1) := hr.2 0 1 rfl
  have c1 : w.cell? ⟨b, o + 1, none⟩ = some (.int .u8 0) := hr.2 1 0 rfl
  have c2 : w.cell? ⟨b, o + 2, none⟩ = some (.int .u8 (hi.toNat : Int)) := hr.2 2 hi rfl
  have c3 : w.cell? ⟨b, o + 3, none⟩ = some (.int .u8 (lo.toNat : Int)) := hr.2 3 lo rfl
  have hlt := hr.1.lt
  have x1 : (hi.toNat : Int) < 256 := by have := hi.toNat_lt; omega
  have y1 : (lo.toNat : Int) < 256 := by have := lo.toNat_lt; omega
  have x0 : 0 ≤ (hi.toNat : Int) := by omega
  have y0 : 0 ≤ (lo.toNat : Int) := by omega
  have e1 := or64a hi.toNat (by omega)
  have e2 := or64b hi.toNat lo.toNat (by omega) (by omega)
  obtain ⟨n, hn⟩ : ∃ n, n = (1 :: 0 :: hi :: lo :: r).length := ⟨_, rfl⟩
  have hnr : n = r.length + 4 := by rw [hn]; rfl
  rw [← hn] at h1 ⊢
  clear hn h3 hr
  have n4 : ¬ ((n : Int) < 4) := by omega
  have k0 : (0 : Int) < (n : Int) := by omega
  have k1 : (1 : Int) < (n : Int) := by omega
  have k2 : (2 : Int) < (n : Int) := by omega
  have k3 : (3 : Int) < (n : Int) := by omega
  have hne2 : ¬ ((n : Int) = 4 + ((hi.toNat : Int) * 256 + (lo.toNat : Int))) := by omega
  have hn5 : n ≤ 100004 := by omega
  have HNE := Lib.hid hne2
  clear hne2 hnr hl hne
  go_enter Tryd.func50, Tryd.ntmps50
  go_upto_region 5 with fail
  go_quiet (fail)
  clear e1 e2
  have hne2 := HNE.out
  go_upto_region 7 with fail
  go_quiet (fail)
  go_wp2_with fail
  exact bodyPost_ret (v := .tuple #[.int .i64 0, .int .i64 0, .int .i64 0, ev]) (by simp [results, Tryd.results50, go_sem]) rfl ⟨rfl, drewN_grow w _⟩
end Go.Proofs.YtdhhccpeikhilaaDoor
namespace Go.Proofs.YtdhhccpeikhilaaDoor

/-- A number of two bytes. -/
def hb1 (n : Nat) : UInt8 := UInt8.ofNat (n / 256)
def hb2 (n : Nat) : UInt8 := UInt8.ofNat n
def aheadLen (a : Nat) : Nat := if 0 < a then 4 + a else 0
def aheadExt (a : Nat) : List UInt8 := if 0 < a then 0 :: 45 :: hb1 a :: hb2 a :: List.replicate a 0 else []
def hostExt (h : List UInt8) : List UInt8 := 0 :: 0 :: hb1 (h.length + 5) :: hb2 (h.length + 5) :: hb1 (h.length + 3) :: hb2 (h.length + 3) :: 0 :: hb1 h.length :: hb2 h.length :: h
def behindExt (c : Nat) : List UInt8 := 0 :: 51 :: hb1 c :: hb2 c :: List.replicate c 0
def exts (h : List UInt8) (a c : Nat) : List UInt8 := aheadExt a ++ (hostExt h ++ behindExt c)
def extsLen (n a c : Nat) : Nat := aheadLen a + (n + 9) + (c + 4)
def pre47 (hi lo eh el : UInt8) : List UInt8 :=
  [1, 0, hi, lo, 3, 3, 0, 0, 0, 0, 0, 0, 0, 0, 0, 0, 0, 0, 0, 0, 0, 0, 0, 0, 0, 0, 0, 0, 0, 0, 0, 0, 0, 0, 0, 0, 0, 0, 0, 0, 2, 19, 1, 1, 0, eh, el]
def hello (h : List UInt8) (a c : Nat) : List UInt8 :=
  pre47 (hb1 (extsLen h.length a c + 43)) (hb2 (extsLen h.length a c + 43)) (hb1 (extsLen h.length a c)) (hb2 (extsLen h.length a c)) ++ exts h a c
def namePos (a : Nat) : Nat := 56 + aheadLen a

theorem hb_val (n : Nat) (h : n < 65536) : (hb1 n).toNat * 256 + (hb2 n).toNat = n := by
  unfold hb1 hb2
  rw [UInt8.toNat_ofNat', UInt8.toNat_ofNat']
  omega
theorem aheadExt_length (a : Nat) : (aheadExt a).length = aheadLen a := by
  unfold aheadExt aheadLen; split <;> simp <;> omega
theorem hostExt_length (h : List UInt8) : (hostExt h).length = h.length + 9 := by unfold hostExt; simp
theorem behindExt_length (c : Nat) : (behindExt c).length = c + 4 := by unfold behindExt; simp
theorem exts_length (h : List UInt8) (a c : Nat) : (exts h a c).length = extsLen h.length a c := by
  unfold exts extsLen; rw [List.length_append, List.length_append, aheadExt_length, hostExt_length, behindExt_length]; omega
theorem hello_length (h : List UInt8) (a c : Nat) : (hello h a c).length = 47 + extsLen h.length a c := by
  unfold hello; rw [List.length_append, exts_length]; rfl
theorem hello_pre (h : List UInt8) (a c : Nat) {i : Nat} (hi : i < 47) : (hello h a c)[i]? = (pre47 (hb1 (extsLen h.length a c + 43)) (hb2 (extsLen h.length a c + 43)) (hb1 (extsLen h.length a c)) (hb2 (extsLen h.length a c)))[i]? :=
  List.getElem?_append_left hi
theorem hello_ext (h : List UInt8) (a c i : Nat) : (hello h a c)[47 + i]? = (exts h a c)[i]? := by
  unfold hello
  rw [List.getElem?_append_right (show 47 ≤ 47 + i by omega)]
  show (exts h a c)[47 + i - 47]? = _
  rw [Nat.add_sub_cancel_left]
theorem exts_ahead (h : List UInt8) (a c i : Nat) (hi : i < aheadLen a) : (exts h a c)[i]? = (aheadExt a)[i]? := by
  unfold exts; exact List.getElem?_append_left (by rw [aheadExt_length]; exact hi)
theorem exts_host (h : List UInt8) (a c i : Nat) (hi : i < h.length + 9) : (exts h a c)[aheadLen a + i]? = (hostExt h)[i]? := by
  unfold exts
  rw [List.getElem?_append_right (by rw [aheadExt_length]; omega), aheadExt_length, Nat.add_sub_cancel_left]
  exact List.getElem?_append_left (by rw [hostExt_length]; exact hi)
theorem exts_behind (h : List UInt8) (a c i : Nat) : (exts h a c)[aheadLen a + (h.length + 9) + i]? = (behindExt c)[i]? := by
  unfold exts
  rw [List.getElem?_append_right (by rw [aheadExt_length]; omega), aheadExt_length, List.getElem?_append_right (by rw [hostExt_length]; omega), hostExt_length]
  congr 1; omega
end Go.Proofs.YtdhhccpeikhilaaDoor
