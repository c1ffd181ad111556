/-
  No cell of these rows narrows 'for every input' (looked for: loops, veiled, ifaces, maps, wideKeys, modest, calm, conditions, laid).
  DERIVED. THE GIVEN ROWS OF THIS SEAT. 2 by the template 'for every input the law returns true; each argument reads behind the call as it read before'; 0 by the template 'total and deterministic' (their statements: YtgdkbflhgcchfaaTotals.lean).
  GIVEN WITH THE SEED: the statements are not yours to turn. If you find one false, say at which input.
  Laid BY PROGRAM, IN A SANDBOX (cutbox-rows.mjs): the forced cells as the released guide's own fill.sh prints them over the translation 815bf7a11de240ba… (all of the seat's roots in one cut). By AI agents, Wed Nov 11 2026. No macro, syntax, notation, axiom, sorry.
-/
import Derived.Test.YtgdkbflhgcchfaaChecked
import GoSem.Claim
import GoSem.ClaimJoined
import GoSem.ClaimMapViews
import Derived.JoinedTies
import Derived.KernelRfl
namespace Go.Proofs.Ytgdkbflhgcchfaa
/- THE CELL 'sum', in the pinned program and in every row, IS THE sha256 OF THE DUMP (.gsa) THAT YtgdkbflhgcchfaaProg.lean LOADS. Nothing in Lean hashes anything: it is a label: what it is worth is what the hold of that sum in a sandbox is worth. -/
noncomputable def Try.pinned : Pinned := { name := "ytgdkbflhgcchfaa", sum := "815bf7a11de240ba2623354743bd74d23e34048e71dab2fcea7c061aec2ed4a9", checked := Try.checked }
namespace Rows
def none {H : Type} : Left H := { results := [], args := [] }

/-- 'laws.FnRQWhole': WHATEVER THE INPUT: true; the input reads as it did. -/
def fnRQWholeSpec : ChangeSpec := { name := "fnRQWhole", fn := fun _ => fun
  | [d] => { results := [.lit (.bool true)], args := [d] }
  | _ => none }
def fnRQWholeRow : OpenClaim := { program := "ytgdkbflhgcchfaa", sum := "815bf7a11de240ba2623354743bd74d23e34048e71dab2fcea7c061aec2ed4a9", func := "given.example/pub-hobbing/laws.FnRQWhole", spec := "fnRQWhole", unfollowed := true, recurses := true, plainKeys := false, apart := false }
def FnRQWholeSaid : Prop := fnRQWholeRow.holds Try.pinned (OpenSpec.ofChange fnRQWholeSpec)

/-- ITS FALSE NEIGHBOUR: 'it returns false'. Refute it at one input. -/
def fnRQWholeWrong : ChangeSpec := { name := "fnRQWhole", fn := fun _ => fun
  | [d] => { results := [.lit (.bool false)], args := [d] }
  | _ => none }
def FnRQWholeWrongFalsely : Prop := fnRQWholeRow.holds Try.pinned (OpenSpec.ofChange fnRQWholeWrong)

/-- 'laws.FnRQPlays': WHATEVER THE INPUT: true; the input reads as it did. -/
def fnRQPlaysSpec : ChangeSpec := { name := "fnRQPlays", fn := fun _ => fun
  | [d] => { results := [.lit (.bool true)], args := [d] }
  | _ => none }
def fnRQPlaysRow : OpenClaim := { program := "ytgdkbflhgcchfaa", sum := "815bf7a11de240ba2623354743bd74d23e34048e71dab2fcea7c061aec2ed4a9", func := "given.example/pub-hobbing/laws.FnRQPlays", spec := "fnRQPlays", unfollowed := true, recurses := true, plainKeys := false, apart := false }
def FnRQPlaysSaid : Prop := fnRQPlaysRow.holds Try.pinned (OpenSpec.ofChange fnRQPlaysSpec)

/-- ITS FALSE NEIGHBOUR: 'it returns false'. Refute it at one input. -/
def fnRQPlaysWrong : ChangeSpec := { name := "fnRQPlays", fn := fun _ => fun
  | [d] => { results := [.lit (.bool false)], args := [d] }
  | _ => none }
def FnRQPlaysWrongFalsely : Prop := fnRQPlaysRow.holds Try.pinned (OpenSpec.ofChange fnRQPlaysWrong)

/- THE SECOND FORM. 'bulk': how many values and letters a reading holds, each counted each time it is reached (what is shared counts as often as it is met; a slice's spare places count too). A statement '..UptoSaid' is the law's where the arguments, and the package variables that the reading takes, are together of bulk at most 1048576: NARROWER than '..Said'. Prove '..Said' where nothing that the law and all that it calls make is longer than what came in: it says more and counts as full. Else prove '..UptoSaid'. A law counts once. -/
mutual
def uptoBulk {H : Type} : DataW H → Nat
  | .lit (.string bytes) => bytes.length + 1
  | .lit _ => 1
  | .nil => 1
  | .ptr d => uptoBulk d + 1
  | .slice elems spare => uptoBulkAll elems + uptoBulkAll spare + 1
  | .agg parts => uptoBulkAll parts + 1
  | .iface _ d => uptoBulk d + 1
  | .map entries => uptoBulkEntries entries + 1
  | .held _ => 1
def uptoBulkAll {H : Type} : List (DataW H) → Nat
  | [] => 0
  | d :: r => uptoBulk d + uptoBulkAll r
def uptoBulkEntries {H : Type} : List (Lit × DataW H) → Nat
  | [] => 0
  | x :: r => uptoBulkEntry x + uptoBulkEntries r
def uptoBulkEntry {H : Type} : Lit × DataW H → Nat
  | (.string bytes, d) => bytes.length + uptoBulk d + 1
  | (_, d) => uptoBulk d + 1
 end
def uptoSmall : (H : Type) → List (DataW H) → Bool := fun _ ds => decide (uptoBulkAll ds ≤ 1048576)
def OpenSpec.upto (s : _root_.Go.ChangeSpec) : _root_.Go.OpenSpec := { _root_.Go.OpenSpec.ofChange s with cond := some uptoSmall }

/-- 'laws.FnRQWhole', WHERE WHAT IT READS IS OF BULK AT MOST 1048576: true; the input reads as it did. -/
def fnRQWholeUptoRow : OpenClaim := { program := "ytgdkbflhgcchfaa", sum := "815bf7a11de240ba2623354743bd74d23e34048e71dab2fcea7c061aec2ed4a9", func := "given.example/pub-hobbing/laws.FnRQWhole", spec := "fnRQWhole", unfollowed := true, recurses := true, plainKeys := false, apart := false, narrowed := true }
def FnRQWholeUptoSaid : Prop := fnRQWholeUptoRow.holds Try.pinned (OpenSpec.upto fnRQWholeSpec)

/-- 'laws.FnRQPlays', WHERE WHAT IT READS IS OF BULK AT MOST 1048576: true; the input reads as it did. -/
def fnRQPlaysUptoRow : OpenClaim := { program := "ytgdkbflhgcchfaa", sum := "815bf7a11de240ba2623354743bd74d23e34048e71dab2fcea7c061aec2ed4a9", func := "given.example/pub-hobbing/laws.FnRQPlays", spec := "fnRQPlays", unfollowed := true, recurses := true, plainKeys := false, apart := false, narrowed := true }
def FnRQPlaysUptoSaid : Prop := fnRQPlaysUptoRow.holds Try.pinned (OpenSpec.upto fnRQPlaysSpec)

end Rows
end Go.Proofs.Ytgdkbflhgcchfaa
