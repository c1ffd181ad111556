/- The linked list's functions, each as it turns the world. The frame sorter's plain law: gaps and queued bytes, what a frame that comes turns in them. No program here. -/
import Derived.Test.YtdhhccpeikhilaaDoorB0
import Derived.Deep.QuietTactic
import Derived.BigQuiet
import Derived.LaidEqlPtr
import Derived.Deep.RegionWith
namespace Go.Proofs.YtdhhccpeikhilaaDoor
open Go.RowKit

/-- A pointer to the head of block b. -/
abbrev pt (b : Nat) : Value := .pointer (some ⟨b, 0, none⟩)

def insW (w : World) (bL bE bA bX : Nat) (len : Int) : World :=
  (((((w.setCell ⟨bE, 1, none⟩ (pt bA)).setCell ⟨bE, 0, none⟩ (pt bX)).setCell ⟨bA, 0, none⟩ (pt bE)).setCell ⟨bX, 1, none⟩ (pt bE)).setCell ⟨bE, 2, none⟩ (pt bL)).setCell ⟨bL, 5, none⟩ (.int .i64 (len + 1))

set_option maxHeartbeats 400000 in
theorem insert_any (w : World) (bL bE bA bX : Nat) (len : Int) (v0 v1 v2 x1 : Value)
    (hEA : bE ≠ bA) (hEX : bE ≠ bX) (hEL : bE ≠ bL)
    (e0 : w.cell? ⟨bE, 0, none⟩ = some v0) (e1 : w.cell? ⟨bE, 1, none⟩ = some v1) (e2 : w.cell? ⟨bE, 2, none⟩ = some v2)
    (a0 : w.cell? ⟨bA, 0, none⟩ = some (pt bX)) (x1c : w.cell? ⟨bX, 1, none⟩ = some x1) (l5 : w.cell? ⟨bL, 5, none⟩ = some (.int .i64 len))
    (fE : ∀ i, w.frozen? ⟨bE, i, none⟩ = false) (fA : ∀ i, w.frozen? ⟨bA, i, none⟩ = false) (fX : ∀ i, w.frozen? ⟨bX, i, none⟩ = false) (fL : ∀ i, w.frozen? ⟨bL, i, none⟩ = false)
    (h0 : 0 ≤ len) (h1 : len ≤ 100000) :
    Calls Tryd.prog 83 #[pt bL, pt bE, pt bA] w fun e w' => e = .returned (pt bE) ∧ w' = insW w bL bE bA bX len := by
  go_enter Tryd.func83, Tryd.ntmps83
  go_wp2
  go_ret
  exact ⟨rfl, rfl⟩

/-- The world behind insertValue: the value's box, the element's block, then the element's links. -/
def insVW (w : World) (bL bA bX : Nat) (len s e : Int) : World :=
  insW ((w.alloc (.cells #[.int .i64 s, .int .i64 e] 120)).alloc (.cells #[.pointer none, .pointer none, .pointer none, .int .i64 s, .int .i64 e] 128)) bL (w.heap.size + 1) bA bX len

set_option maxHeartbeats 400000 in
theorem insertValue_any (w : World) (bL bA bX : Nat) (len s e : Int) (x1 : Value)
    (hA : bA < w.heap.size) (hX : bX < w.heap.size) (hL : bL < w.heap.size)
    (a0 : w.cell? ⟨bA, 0, none⟩ = some (pt bX)) (x1c : w.cell? ⟨bX, 1, none⟩ = some x1) (l5 : w.cell? ⟨bL, 5, none⟩ = some (.int .i64 len))
    (fA : ∀ i, w.frozen? ⟨bA, i, none⟩ = false) (fX : ∀ i, w.frozen? ⟨bX, i, none⟩ = false) (fL : ∀ i, w.frozen? ⟨bL, i, none⟩ = false)
    (h0 : 0 ≤ len) (h1 : len ≤ 100000) :
    Calls Tryd.prog 65 #[pt bL, .agg #[.int .i64 s, .int .i64 e], pt bA] w fun e' w' => e' = .returned (pt (w.heap.size + 1)) ∧ w' = insVW w bL bA bX len s e := by
  go_enter Tryd.func65, Tryd.ntmps65
  go_wp2_with fail
  refine (insert_any _ bL (w.heap.size + 1) bA bX len (.pointer none) (.pointer none) (.pointer none) x1 (by omega) (by omega) (by omega) (by go_simp) (by go_simp) (by go_simp) (by go_simp) (by go_simp) (by go_simp) (by intro i; go_simp) (by intro i; go_simp) (by intro i; go_simp) (by intro i; go_simp) h0 h1).mono ?_
  rintro e' w' ⟨rfl, rfl⟩
  go_wp2
  go_ret
  exact ⟨rfl, rfl⟩

section
variable {P : Program} (w : World)
theorem run_neq_ptr_same' {tp te : TypeId} {j : TypeInfo} (a : Addr) (hp : P.underlying tp = some (.pointer te)) (hte : P.info? te = some j) :
    (binOp .neq tp (.pointer (some a)) (.pointer (some a))).run P w = .ok (.bool false) w := by
  have h : ∀ d : Nat, (Op.equalIn (d + 1) tp (.pointer (some a)) (.pointer (some a))).run P w = .ok true w := fun d => by
    simp [Op.equalIn, run_underlying hp, sizeOf, typeInfo, hte, run_sameAddr_same]
  simp only [binOp]
  simp [Op.equal, Op.maxDepth, h 9999]
theorem run_neq_ptr_other {tp te : TypeId} {j : TypeInfo} {a b : Addr} {ca cb : Array Value} {ta tb : TypeId} (hp : P.underlying tp = some (.pointer te)) (hte : P.info? te = some j) (hsz : j.size ≠ 0)
    (hne : a ≠ b) (ha : w.heap[a.block]? = some (.cells ca ta (0, 0))) (hb : w.heap[b.block]? = some (.cells cb tb (0, 0))) :
    (binOp .neq tp (.pointer (some a)) (.pointer (some b))).run P w = .ok (.bool true) w := by
  have h : ∀ d : Nat, (Op.equalIn (d + 1) tp (.pointer (some a)) (.pointer (some b))).run P w = .ok false w := fun d => by
    simp [Op.equalIn, run_underlying hp, sizeOf, typeInfo, hte, hsz, run_sameAddr_other w hne ha hb]
  simp only [binOp]
  simp [Op.equal, Op.maxDepth, h 9999]
end

theorem size128 : (Tryd.prog.info? 128).map (·.size) = some 5 := by kernel_rfl
theorem size138 : (Tryd.prog.info? 138).map (·.size) = some 6 := by kernel_rfl

theorem info_of {t n : Nat} (h : (Tryd.prog.info? t).map (·.size) = some n) : ∃ j, Tryd.prog.info? t = some j ∧ j.size = n := by
  simpa using h

theorem ptrE_neq_same (b : Nat) (w : World) : (binOp .neq 121 (pt b) (pt b)).run Tryd.prog w = .ok (.bool false) w := by
  obtain ⟨j, hj, _⟩ := info_of size128
  exact run_neq_ptr_same' w _ Tryd.underlying121 hj
theorem ptrE_eql_same (b : Nat) (w : World) : (binOp .eql 121 (pt b) (pt b)).run Tryd.prog w = .ok (.bool true) w := by
  obtain ⟨j, hj, _⟩ := info_of size128
  exact run_eql_ptr_same w _ Tryd.underlying121 hj
theorem ptrL_neq_same (b : Nat) (w : World) : (binOp .neq 93 (pt b) (pt b)).run Tryd.prog w = .ok (.bool false) w := by
  obtain ⟨j, hj, _⟩ := info_of size138
  exact run_neq_ptr_same' w _ Tryd.underlying93 hj
theorem ptrL_eql_same (b : Nat) (w : World) : (binOp .eql 93 (pt b) (pt b)).run Tryd.prog w = .ok (.bool true) w := by
  obtain ⟨j, hj, _⟩ := info_of size138
  exact run_eql_ptr_same w _ Tryd.underlying93 hj
theorem ptrE_neq_other {a b : Nat} {w : World} {ca cb : Array Value} {ta tb : TypeId} (hne : a ≠ b) (ha : Blk w a ca ta) (hb : Blk w b cb tb) :
    (binOp .neq 121 (pt a) (pt b)).run Tryd.prog w = .ok (.bool true) w := by
  obtain ⟨j, hj, hz⟩ := info_of size128
  exact run_neq_ptr_other w Tryd.underlying121 hj (by omega) (by intro e; injection e; contradiction) ha hb
theorem ptrE_eql_other {a b : Nat} {w : World} {ca cb : Array Value} {ta tb : TypeId} (hne : a ≠ b) (ha : Blk w a ca ta) (hb : Blk w b cb tb) :
    (binOp .eql 121 (pt a) (pt b)).run Tryd.prog w = .ok (.bool false) w := by
  obtain ⟨j, hj, hz⟩ := info_of size128
  exact run_eql_ptr_other w Tryd.underlying121 hj (by omega) (by intro e; injection e; contradiction) ha hb

set_option maxHeartbeats 400000 in
/-- InsertAfter -/
theorem insertAfter_any (w : World) (bL bA bX : Nat) (len s e : Int) (x1 : Value)
    (hA : bA < w.heap.size) (hX : bX < w.heap.size) (hL : bL < w.heap.size)
    (a0 : w.cell? ⟨bA, 0, none⟩ = some (pt bX)) (a2 : w.cell? ⟨bA, 2, none⟩ = some (pt bL)) (x1c : w.cell? ⟨bX, 1, none⟩ = some x1) (l5 : w.cell? ⟨bL, 5, none⟩ = some (.int .i64 len))
    (fA : ∀ i, w.frozen? ⟨bA, i, none⟩ = false) (fX : ∀ i, w.frozen? ⟨bX, i, none⟩ = false) (fL : ∀ i, w.frozen? ⟨bL, i, none⟩ = false)
    (h0 : 0 ≤ len) (h1 : len ≤ 100000) :
    Calls Tryd.prog 71 #[pt bL, .agg #[.int .i64 s, .int .i64 e], pt bA] w fun e' w' => e' = .returned (pt (w.heap.size + 2)) ∧ w' = insVW (w.alloc (.cells #[.int .i64 s, .int .i64 e] 120)) bL bA bX len s e := by
  have hq := ptrL_neq_same bL
  go_enter Tryd.func71, Tryd.ntmps71
  go_wp2_with fail
  refine (insertValue_any _ bL bA bX len s e x1 (by simp; omega) (by simp; omega) (by simp; omega) (by go_simp) (by go_simp) (by go_simp) (by intro i; go_simp) (by intro i; go_simp) (by intro i; go_simp) h0 h1).mono ?_
  rintro e' w' ⟨rfl, rfl⟩
  go_wp2
  go_ret
  exact ⟨by simp, rfl⟩

set_option maxHeartbeats 400000 in
theorem front_nil (w : World) (bL : Nat) (l5 : w.cell? ⟨bL, 5, none⟩ = some (.int .i64 0)) :
    Calls Tryd.prog 57 #[pt bL] w fun e w' => e = .returned (.pointer none) ∧ w = w' := by
  go_enter Tryd.func57, Tryd.ntmps57
  go_wp2
  go_ret
  exact ⟨rfl, rfl⟩
set_option maxHeartbeats 400000 in
theorem front_some (w : World) (bL : Nat) (len : Int) (h : 0 < len) (v : Value) (l0 : w.cell? ⟨bL, 0, none⟩ = some v) (l5 : w.cell? ⟨bL, 5, none⟩ = some (.int .i64 len)) :
    Calls Tryd.prog 57 #[pt bL] w fun e w' => e = .returned v ∧ w = w' := by
  have hb : (len == 0) = false := by simp; omega
  go_enter Tryd.func57, Tryd.ntmps57
  go_wp2
  go_ret
  exact ⟨rfl, rfl⟩
set_option maxHeartbeats 400000 in
theorem listLen_any (w : World) (bL : Nat) (len : Int) (l5 : w.cell? ⟨bL, 5, none⟩ = some (.int .i64 len)) :
    Calls Tryd.prog 72 #[pt bL] w fun e w' => e = .returned (.int .i64 len) ∧ w = w' := by
  go_enter Tryd.func72, Tryd.ntmps72
  go_wp2
  go_ret
  exact ⟨rfl, rfl⟩
set_option maxHeartbeats 400000 in
theorem next_some (w : World) (bL b n : Nat) (hne : n ≠ bL) {ca cb : Array Value} {ta tb : TypeId} (hn : Blk w n ca ta) (hL : Blk w bL cb tb) (e0 : w.cell? ⟨b, 0, none⟩ = some (pt n)) (e2 : w.cell? ⟨b, 2, none⟩ = some (pt bL)) :
    Calls Tryd.prog 68 #[pt b] w fun e w' => e = .returned (pt n) ∧ w = w' := by
  have hq := ptrE_neq_other hne hn hL
  go_enter Tryd.func68, Tryd.ntmps68
  go_wp2
  go_ret
  exact ⟨rfl, rfl⟩
set_option maxHeartbeats 400000 in
theorem next_nil (w : World) (bL b : Nat) (e0 : w.cell? ⟨b, 0, none⟩ = some (pt bL)) (e2 : w.cell? ⟨b, 2, none⟩ = some (pt bL)) :
    Calls Tryd.prog 68 #[pt b] w fun e w' => e = .returned (.pointer none) ∧ w = w' := by
  have hq := ptrE_neq_same bL
  go_enter Tryd.func68, Tryd.ntmps68
  go_wp2
  go_ret
  exact ⟨rfl, rfl⟩
set_option maxHeartbeats 400000 in
theorem prev_some (w : World) (bL b n : Nat) (hne : n ≠ bL) {ca cb : Array Value} {ta tb : TypeId} (hn : Blk w n ca ta) (hL : Blk w bL cb tb) (e1 : w.cell? ⟨b, 1, none⟩ = some (pt n)) (e2 : w.cell? ⟨b, 2, none⟩ = some (pt bL)) :
    Calls Tryd.prog 84 #[pt b] w fun e w' => e = .returned (pt n) ∧ w = w' := by
  have hq := ptrE_neq_other hne hn hL
  go_enter Tryd.func84, Tryd.ntmps84
  go_wp2
  go_ret
  exact ⟨rfl, rfl⟩

/-- remove -/
def remW (w : World) (bL b bP bN : Nat) (len : Int) : World :=
  (((((w.setCell ⟨bP, 0, none⟩ (pt bN)).setCell ⟨bN, 1, none⟩ (pt bP)).setCell ⟨b, 0, none⟩ (.pointer none)).setCell ⟨b, 1, none⟩ (.pointer none)).setCell ⟨b, 2, none⟩ (.pointer none)).setCell ⟨bL, 5, none⟩ (.int .i64 (len - 1))

set_option maxHeartbeats 1000000 in
theorem remove_any (w : World) (bL b bP bN : Nat) (len : Int) (p0 n1 : Value)
    (hP : b ≠ bP) (hN : b ≠ bN) (hL : b ≠ bL)
    (e0 : w.cell? ⟨b, 0, none⟩ = some (pt bN)) (e1 : w.cell? ⟨b, 1, none⟩ = some (pt bP)) (e2 : w.cell? ⟨b, 2, none⟩ = some (pt bL))
    (p0c : w.cell? ⟨bP, 0, none⟩ = some p0) (n1c : w.cell? ⟨bN, 1, none⟩ = some n1) (l5 : w.cell? ⟨bL, 5, none⟩ = some (.int .i64 len))
    (fE : ∀ i, w.frozen? ⟨b, i, none⟩ = false) (fP : ∀ i, w.frozen? ⟨bP, i, none⟩ = false) (fN : ∀ i, w.frozen? ⟨bN, i, none⟩ = false) (fL : ∀ i, w.frozen? ⟨bL, i, none⟩ = false)
    (h0 : 1 ≤ len) (h1 : len ≤ 100000) :
    Calls Tryd.prog 85 #[pt bL, pt b] w fun e w' => e = .returned (.tuple #[]) ∧ w' = (remW w bL b bP bN len).drew.drew := by
  go_enter Tryd.func85, Tryd.ntmps85
  go_wp2
  go_region
  all_goals go_wp2
  all_goals go_region
  all_goals go_wp2
  all_goals go_end0
  all_goals exact ⟨rfl, rfl⟩

/-- The box of a pair of numbers. -/
abbrev pairO (s e : Int) : Obj := .cells #[.int .i64 s, .int .i64 e] 120

set_option maxHeartbeats 400000 in
theorem Remove_any (w : World) (bL b bP bN : Nat) (len s e : Int) (p0 n1 : Value)
    (hb : b < w.heap.size) (hbP : bP < w.heap.size) (hbN : bN < w.heap.size) (hbL : bL < w.heap.size)
    (hP : b ≠ bP) (hN : b ≠ bN) (hL : b ≠ bL)
    (e0 : w.cell? ⟨b, 0, none⟩ = some (pt bN)) (e1 : w.cell? ⟨b, 1, none⟩ = some (pt bP)) (e2 : w.cell? ⟨b, 2, none⟩ = some (pt bL)) (e3 : w.cell? ⟨b, 3, none⟩ = some (.int .i64 s)) (e4 : w.cell? ⟨b, 4, none⟩ = some (.int .i64 e))
    (p0c : w.cell? ⟨bP, 0, none⟩ = some p0) (n1c : w.cell? ⟨bN, 1, none⟩ = some n1) (l5 : w.cell? ⟨bL, 5, none⟩ = some (.int .i64 len))
    (fE : ∀ i, w.frozen? ⟨b, i, none⟩ = false) (fP : ∀ i, w.frozen? ⟨bP, i, none⟩ = false) (fN : ∀ i, w.frozen? ⟨bN, i, none⟩ = false) (fL : ∀ i, w.frozen? ⟨bL, i, none⟩ = false)
    (h0 : 1 ≤ len) (h1 : len ≤ 100000) :
    Calls Tryd.prog 69 #[pt bL, pt b] w fun e' w' => e' = .returned (.agg #[.int .i64 s, .int .i64 e]) ∧ w' = (((remW w bL b bP bN len).alloc (pairO s e)).alloc (pairO s e)).drew.drew := by
  have hq := ptrL_eql_same bL
  go_enter Tryd.func69, Tryd.ntmps69
  go_wp2_with fail
  refine (remove_any _ bL b bP bN len p0 n1 hP hN hL (by go_simp) (by go_simp) (by go_simp) (by go_simp) (by go_simp) (by go_simp) (by intro i; go_simp) (by intro i; go_simp) (by intro i; go_simp) (by intro i; go_simp) h0 h1).mono ?_
  rintro e' w' ⟨rfl, rfl⟩
  unfold remW
  go_wp2
  exact bodyPost_ret (v := .agg #[.int .i64 s, .int .i64 e]) (by simp [results, Tryd.results69, go_sem]) rfl ⟨rfl, rfl⟩
set_option maxHeartbeats 400000 in
theorem Init_any (w : World) (bL : Nat) (v0 v1 v5 : Value)
   (l0 : w.cell? ⟨bL, 0, none⟩ = some v0) (l1 : w.cell? ⟨bL, 1, none⟩ = some v1) (l5 : w.cell? ⟨bL, 5, none⟩ = some v5) (fL : ∀ i, w.frozen? ⟨bL, i, none⟩ = false) :
    Calls Tryd.prog 63 #[pt bL] w fun e w' => e = .returned (pt bL) ∧ w' = ((w.setCell ⟨bL, 0, none⟩ (pt bL)).setCell ⟨bL, 1, none⟩ (pt bL)).setCell ⟨bL, 5, none⟩ (.int .i64 0) := by
  go_enter Tryd.func63, Tryd.ntmps63
  go_wp2
  go_ret
  exact ⟨rfl, rfl⟩
/-- An empty list's block. -/
abbrev rootO (a b : Nat) (n : Int) : Obj := .cells #[pt a, pt b, .pointer none, .int .i64 0, .int .i64 0, .int .i64 n] 138
set_option maxHeartbeats 400000 in
theorem New_any (w : World) :
    Calls Tryd.prog 54 #[] w fun e w' => e = .returned (pt w.heap.size) ∧ w' = w.alloc (rootO w.heap.size w.heap.size 0) := by
  go_enter Tryd.func54, Tryd.ntmps54
  go_wp2_with fail
  refine (Init_any _ w.heap.size (.pointer none) (.pointer none) (.int .i64 0) (by go_simp) (by go_simp) (by go_simp) (by intro i; go_simp)).mono ?_
  rintro e' w' ⟨rfl, rfl⟩
  go_wp2
  go_ret
  exact ⟨rfl, by simp⟩
set_option maxHeartbeats 400000 in
theorem lazyInit_any (w : World) (bL n : Nat) (l0 : w.cell? ⟨bL, 0, none⟩ = some (pt n)) :
    Calls Tryd.prog 64 #[pt bL] w fun e w' => e = .returned (.tuple #[]) ∧ w = w' := by
  go_enter Tryd.func64, Tryd.ntmps64
  go_wp2
  go_end0
  exact ⟨rfl, rfl⟩
set_option maxHeartbeats 400000 in
theorem PushFront_any (w : World) (bL : Nat) (s e : Int) (hL : bL < w.heap.size)
   (l0 : w.cell? ⟨bL, 0, none⟩ = some (pt bL)) (l1 : w.cell? ⟨bL, 1, none⟩ = some (pt bL)) (l5 : w.cell? ⟨bL, 5, none⟩ = some (.int .i64 0)) (fL : ∀ i, w.frozen? ⟨bL, i, none⟩ = false) :
    Calls Tryd.prog 55 #[pt bL, .agg #[.int .i64 s, .int .i64 e]] w fun e' w' => e' = .returned (pt (w.heap.size + 2)) ∧ w' = insVW (w.alloc (pairO s e)).drew bL bL bL 0 s e := by
  go_enter Tryd.func55, Tryd.ntmps55
  go_wp2_with fail
  refine (lazyInit_any _ bL bL (by go_simp)).mono ?_
  rintro e' w' ⟨rfl, rfl⟩
  go_wp2_with fail
  go_region_with (go_at_call 65; refine (insertValue_any _ bL bL bL 0 s e (pt bL) (by simp; omega) (by simp; omega) (by simp; omega) (by go_simp) (by go_simp) (by go_simp) (by intro i; go_simp) (by intro i; go_simp) (by intro i; go_simp) (by omega) (by omega)).mono ?_; rintro e' w' ⟨rfl, rfl⟩)
  all_goals go_wp2
  all_goals go_ret
  all_goals exact ⟨rfl, rfl⟩
end Go.Proofs.YtdhhccpeikhilaaDoor
namespace Go.Proofs.YtdhhccpeikhilaaDoor

/-- A gap: its element's block, where it starts and ends. -/
structure Gap where
  b : Nat
  s : Nat
  e : Nat

/-- The queue: what lies at an offset. -/
abbrev Q := Nat → Option (List UInt8)

def rmQ (q : Q) (k : Nat) : Q := fun j => if j = k then none else q j
def putQ (q : Q) (k : Nat) (l : List UInt8) : Q := fun j => if j = k then some l else q j

inductive DelC : Q → Nat → Q → Prop
  | stop {q p} (h : q p = none) : DelC q p q
  | step {q p d q'} (h : q p = some d) (h' : DelC (rmQ q p) (p + d.length) q') : DelC q p q'

/-- An entry covers a place. -/
def Cov (q : Q) (x : Nat) : Prop := ∃ k d, q k = some d ∧ k ≤ x ∧ x < k + d.length
/-- Entries are not empty and do not overlap. -/
structure Apart (q : Q) : Prop where
  ne : ∀ k d, q k = some d → d ≠ []
  apart : ∀ k d k' d', q k = some d → q k' = some d' → k < k' → k + d.length ≤ k'

theorem Apart.pos {q : Q} (h : Apart q) {k d} (hk : q k = some d) : 0 < d.length := List.length_pos_iff.2 (h.ne k d hk)

theorem rmQ_some {q : Q} {p k d} (h : rmQ q p k = some d) : k ≠ p ∧ q k = some d := by
  unfold rmQ at h; split at h
  · cases h
  · exact ⟨by assumption, h⟩
theorem rmQ_of {q : Q} {p k d} (hne : k ≠ p) (h : q k = some d) : rmQ q p k = some d := by unfold rmQ; rw [if_neg hne]; exact h

theorem Apart.rm {q : Q} (h : Apart q) (p : Nat) : Apart (rmQ q p) :=
  ⟨fun k d hk => h.ne k d (rmQ_some hk).2, fun k d k' d' hk hk' => h.apart k d k' d' (rmQ_some hk).2 (rmQ_some hk').2⟩

/-- An entry begins where a place is covered and the one ahead of it is not (or lies ahead of all entries). -/
theorem starts {q : Q} {x : Nat} (h : Cov q x) (hb : x = 0 ∨ ¬ Cov q (x - 1)) : ∃ d, q x = some d := by
  obtain ⟨k, d, hk, h1, h2⟩ := h
  rcases Nat.lt_or_ge k x with h3 | h3
  · exfalso
    rcases hb with hb | hb
    · omega
    · exact hb ⟨k, d, hk, by omega, by omega⟩
  · have : k = x := by omega
    subst this; exact ⟨d, hk⟩

/-- What goes from p on, where [p, s) is covered and s is not: the entries of [p, s), no others. -/
theorem del_range {q q' : Q} {p : Nat} (h : DelC q p q') : ∀ (s : Nat), Apart q → p ≤ s → (∀ x, p ≤ x → x < s → Cov q x) → ¬ Cov q s → (p = 0 ∨ ¬ Cov q (p - 1) ∨ p = s) →
    (∀ k d, q k = some d → k < p → k + d.length ≤ p) → (∀ k, q' k = if p ≤ k ∧ k < s then none else q k) := by
  induction h with
  | @stop q p hn =>
    intro s ha hps hc hs hb hl k
    have : p = s := by
      rcases Nat.lt_or_ge p s with h | h
      · exfalso
        obtain ⟨k', d, hk', h1, h2⟩ := hc p (Nat.le_refl _) h
        rcases Nat.lt_or_ge k' p with h3 | h3
        · have := hl k' d hk' h3; omega
        · have : k' = p := by omega
          subst this; rw [hn] at hk'; cases hk'
      · omega
    subst this
    rw [if_neg (by omega)]
  | @step q p d q' hd h' ih =>
    intro s ha hps hc hs hb hl k
    have hpos := ha.pos hd
    have hle : p + d.length ≤ s := by
      rcases Nat.lt_or_ge s (p + d.length) with h | h
      · exact (hs ⟨p, d, hd, hps, h⟩).elim
      · exact h
    have hl' : ∀ k e, rmQ q p k = some e → k < p + d.length → k + e.length ≤ p + d.length := by
      intro k e hk hlt
      obtain ⟨hne, hk⟩ := rmQ_some hk
      rcases Nat.lt_or_ge k p with h | h
      · have := hl k e hk h; omega
      · have := ha.apart p d k e hd hk (by omega); omega
    have hcov : ∀ x, Cov q x → (x < p ∨ p + d.length ≤ x) → Cov (rmQ q p) x := by
      rintro x ⟨k', e, hk', h1, h2⟩ hx
      have hne : k' ≠ p := fun e' => by
        subst e'; rw [hd] at hk'; injection hk' with hk'; subst hk'; omega
      exact ⟨k', e, rmQ_of hne hk', h1, h2⟩
    have := ih s (ha.rm p) hle (fun x h1 h2 => hcov x (hc x (by omega) h2) (.inr h1)) (fun ⟨k', e, hk', h1, h2⟩ => hs ⟨k', e, (rmQ_some hk').2, h1, h2⟩)
      (by
        rcases Nat.eq_zero_or_pos (p + d.length) with h0 | h0
        · exact .inl h0
        · refine .inr (.inl ?_)
          rintro ⟨k', e, hk', h1, h2⟩
          have := hl' k' e hk' (by omega)
          obtain ⟨hne, hk'⟩ := rmQ_some hk'
          rcases Nat.lt_or_ge k' p with h | h
          · have := hl k' e hk' h; omega
          · have := ha.apart p d k' e hd hk' (by omega); omega) hl' k
    rw [this]
    by_cases c : k = p
    · subst c
      have e1 : rmQ q k k = none := by unfold rmQ; rw [if_pos rfl]
      rw [e1]
      by_cases c2 : k < s
      · simp [c2]
      · omega
    · have e1 : rmQ q p k = q k := by unfold rmQ; rw [if_neg c]
      rw [e1]
      by_cases c2 : p + d.length ≤ k ∧ k < s
      · rw [if_pos c2, if_pos (by omega)]
      · rw [if_neg c2]
        by_cases c3 : p ≤ k ∧ k < s
        · rw [if_pos c3]
          cases hk : q k with
          | none => rfl
          | some e => have := ha.apart p d k e hd hk (by omega); omega
        · rw [if_neg c3]
end Go.Proofs.YtdhhccpeikhilaaDoor
