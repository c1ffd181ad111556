/-
  NARROWER THAN 'FOR EVERY INPUT', by the rows' own cells (each row's printed sentence says how): FnCYComes: laid · FnCYHello: laid · FnCYSends: laid.
  DERIVED. THE GIVEN ROWS OF THIS SEAT. 3 by the template 'for every input the law returns true; each argument reads behind the call as it read before'; 0 by the template 'total and deterministic' (their statements: YtdhhccpeikhilaaDoorTotals.lean).
  GIVEN WITH THE SEED: the statements are not yours to turn. If you find one false, say at which input.
  Laid BY PROGRAM, IN A SANDBOX (cutbox-rows.mjs): the forced cells as the released guide's own fill.sh prints them over the translation f24636e70ae03fe5… (all of the seat's roots in one cut). By AI agents, Wed Nov 11 2026. No macro, syntax, notation, axiom, sorry.
-/
import Derived.Test.YtdhhccpeikhilaaDoorChecked
import GoSem.Claim
import GoSem.ClaimJoined
import GoSem.ClaimMapViews
import Derived.JoinedTies
import Derived.KernelRfl
namespace Go.Proofs.YtdhhccpeikhilaaDoor
/- THE CELL 'sum', in the pinned program and in every row, IS THE sha256 OF THE DUMP (.gsa) THAT YtdhhccpeikhilaaDoorProg.lean LOADS. Nothing in Lean hashes anything: it is a label: what it is worth is what the hold of that sum in a sandbox is worth. -/
noncomputable def Tryd.pinned : Pinned := { name := "ytdhhccpeikhilaadoor", sum := "f24636e70ae03fe5a2148c970c39cf320a562d930b6df76e6a16992471f8fe74", checked := Tryd.checked }
namespace Rows
def none {H : Type} : Left H := { results := [], args := [] }

/- WHAT THE LISTED PACKAGE-LEVEL VARIABLES READ AS WHEN THE CALL BEGINS. Each datum BY PROGRAM (the guide's laid-datum.mjs) off the statement by which the dump's own 'gosem.cut.vars' lays the variable. In a bare row this is a premise. The card (YtdhhccpeikhilaaDoorCards.lean) ties it to the program's text. -/
def laid_io_ErrUnexpectedEOF {H : Type} : DataW H := .iface "*errors.errorString" (.ptr (.agg [.lit (.string [117, 110, 101, 120, 112, 101, 99, 116, 101, 100, 32, 69, 79, 70])]))

/-- 'laws.FnCYComes': WHATEVER THE INPUT: true; the input reads as it did. -/
def fnCYComesSpec : ChangeSpec := { name := "fnCYComes", fn := fun _ => fun
  | [d] => { results := [.lit (.bool true)], args := [d] }
  | _ => none }
def fnCYComesRow : OpenClaim := { program := "ytdhhccpeikhilaadoor", sum := "f24636e70ae03fe5a2148c970c39cf320a562d930b6df76e6a16992471f8fe74", func := "given.example/pub-hobbing/laws.FnCYComes", spec := "fnCYComes", unfollowed := true, recurses := true, named := ["io.ErrUnexpectedEOF", "encoding/binary.BigEndian"], apart := false, laid := [("io.ErrUnexpectedEOF", laid_io_ErrUnexpectedEOF)] }
def FnCYComesSaid : Prop := fnCYComesRow.holds Tryd.pinned (OpenSpec.ofChange fnCYComesSpec)

/-- ITS FALSE NEIGHBOUR: 'it returns false'. Refute it at one input. -/
def fnCYComesWrong : ChangeSpec := { name := "fnCYComes", fn := fun _ => fun
  | [d] => { results := [.lit (.bool false)], args := [d] }
  | _ => none }
def FnCYComesWrongFalsely : Prop := fnCYComesRow.holds Tryd.pinned (OpenSpec.ofChange fnCYComesWrong)

/-- 'laws.FnCYHello': WHATEVER THE INPUT: true; the input reads as it did. -/
def fnCYHelloSpec : ChangeSpec := { name := "fnCYHello", fn := fun _ => fun
  | [d1, d2, d3, d4, d5, d6] => { results := [.lit (.bool true)], args := [d1, d2, d3, d4, d5, d6] }
  | _ => none }
def fnCYHelloRow : OpenClaim := { program := "ytdhhccpeikhilaadoor", sum := "f24636e70ae03fe5a2148c970c39cf320a562d930b6df76e6a16992471f8fe74", func := "given.example/pub-hobbing/laws.FnCYHello", spec := "fnCYHello", unfollowed := true, recurses := true, named := ["io.ErrUnexpectedEOF", "encoding/binary.BigEndian"], apart := false, laid := [("io.ErrUnexpectedEOF", laid_io_ErrUnexpectedEOF)] }
def FnCYHelloSaid : Prop := fnCYHelloRow.holds Tryd.pinned (OpenSpec.ofChange fnCYHelloSpec)

/-- ITS FALSE NEIGHBOUR: 'it returns false'. Refute it at one input. -/
def fnCYHelloWrong : ChangeSpec := { name := "fnCYHello", fn := fun _ => fun
  | [d1, d2, d3, d4, d5, d6] => { results := [.lit (.bool false)], args := [d1, d2, d3, d4, d5, d6] }
  | _ => none }
def FnCYHelloWrongFalsely : Prop := fnCYHelloRow.holds Tryd.pinned (OpenSpec.ofChange fnCYHelloWrong)

/-- 'laws.FnCYSends': WHATEVER THE INPUT: true; the input reads as it did. -/
def fnCYSendsSpec : ChangeSpec := { name := "fnCYSends", fn := fun _ => fun
  | [d] => { results := [.lit (.bool true)], args := [d] }
  | _ => none }
def fnCYSendsRow : OpenClaim := { program := "ytdhhccpeikhilaadoor", sum := "f24636e70ae03fe5a2148c970c39cf320a562d930b6df76e6a16992471f8fe74", func := "given.example/pub-hobbing/laws.FnCYSends", spec := "fnCYSends", unfollowed := true, recurses := true, named := ["io.ErrUnexpectedEOF", "encoding/binary.BigEndian"], apart := false, laid := [("io.ErrUnexpectedEOF", laid_io_ErrUnexpectedEOF)] }
def FnCYSendsSaid : Prop := fnCYSendsRow.holds Tryd.pinned (OpenSpec.ofChange fnCYSendsSpec)

/-- ITS FALSE NEIGHBOUR: 'it returns false'. Refute it at one input. -/
def fnCYSendsWrong : ChangeSpec := { name := "fnCYSends", fn := fun _ => fun
  | [d] => { results := [.lit (.bool false)], args := [d] }
  | _ => none }
def FnCYSendsWrongFalsely : Prop := fnCYSendsRow.holds Tryd.pinned (OpenSpec.ofChange fnCYSendsWrong)

/- THE SECOND FORM. 'bulk': how many values and letters a reading holds, each counted each time it is reached (what is shared counts as often as it is met; a slice's spare places count too). A statement '..UptoSaid' is the law's where the arguments, and the package variables that the reading takes, are together of bulk at most 1048576: NARROWER than '..Said'. Prove '..Said' where nothing that the law and all that it calls make is longer than what came in: it says more and counts as full. Else prove '..UptoSaid'. A law counts once. -/
mutual
def uptoBulk {H : Type} : DataW H → Nat
  | .lit (.string bytes) => bytes.length + 1
  | .lit _ => 1
  | .nil => 1
  | .ptr d => uptoBulk d + 1
  | .slice elems spare => uptoBulkAll elems + uptoBulkAll spare + 1
  | .agg parts => uptoBulkAll parts + 1
  | .iface _ d => uptoBulk d + 1
  | .map entries => uptoBulkEntries entries + 1
  | .held _ => 1
def uptoBulkAll {H : Type} : List (DataW H) → Nat
  | [] => 0
  | d :: r => uptoBulk d + uptoBulkAll r
def uptoBulkEntries {H : Type} : List (Lit × DataW H) → Nat
  | [] => 0
  | x :: r => uptoBulkEntry x + uptoBulkEntries r
def uptoBulkEntry {H : Type} : Lit × DataW H → Nat
  | (.string bytes, d) => bytes.length + uptoBulk d + 1
  | (_, d) => uptoBulk d + 1
 end
def uptoSmall : (H : Type) → List (DataW H) → Bool := fun _ ds => decide (uptoBulkAll ds ≤ 1048576)
def OpenSpec.upto (s : _root_.Go.ChangeSpec) : _root_.Go.OpenSpec := { _root_.Go.OpenSpec.ofChange s with cond := some uptoSmall }

/-- 'laws.FnCYComes', WHERE WHAT IT READS IS OF BULK AT MOST 1048576: true; the input reads as it did. -/
def fnCYComesUptoRow : OpenClaim := { program := "ytdhhccpeikhilaadoor", sum := "f24636e70ae03fe5a2148c970c39cf320a562d930b6df76e6a16992471f8fe74", func := "given.example/pub-hobbing/laws.FnCYComes", spec := "fnCYComes", unfollowed := true, recurses := true, named := ["io.ErrUnexpectedEOF", "encoding/binary.BigEndian"], apart := false, laid := [("io.ErrUnexpectedEOF", laid_io_ErrUnexpectedEOF)], narrowed := true }
def FnCYComesUptoSaid : Prop := fnCYComesUptoRow.holds Tryd.pinned (OpenSpec.upto fnCYComesSpec)

/-- 'laws.FnCYHello', WHERE WHAT IT READS IS OF BULK AT MOST 1048576: true; the input reads as it did. -/
def fnCYHelloUptoRow : OpenClaim := { program := "ytdhhccpeikhilaadoor", sum := "f24636e70ae03fe5a2148c970c39cf320a562d930b6df76e6a16992471f8fe74", func := "given.example/pub-hobbing/laws.FnCYHello", spec := "fnCYHello", unfollowed := true, recurses := true, named := ["io.ErrUnexpectedEOF", "encoding/binary.BigEndian"], apart := false, laid := [("io.ErrUnexpectedEOF", laid_io_ErrUnexpectedEOF)], narrowed := true }
def FnCYHelloUptoSaid : Prop := fnCYHelloUptoRow.holds Tryd.pinned (OpenSpec.upto fnCYHelloSpec)

/-- 'laws.FnCYSends', WHERE WHAT IT READS IS OF BULK AT MOST 1048576: true; the input reads as it did. -/
def fnCYSendsUptoRow : OpenClaim := { program := "ytdhhccpeikhilaadoor", sum := "f24636e70ae03fe5a2148c970c39cf320a562d930b6df76e6a16992471f8fe74", func := "given.example/pub-hobbing/laws.FnCYSends", spec := "fnCYSends", unfollowed := true, recurses := true, named := ["io.ErrUnexpectedEOF", "encoding/binary.BigEndian"], apart := false, laid := [("io.ErrUnexpectedEOF", laid_io_ErrUnexpectedEOF)], narrowed := true }
def FnCYSendsUptoSaid : Prop := fnCYSendsUptoRow.holds Tryd.pinned (OpenSpec.upto fnCYSendsSpec)

end Rows
end Go.Proofs.YtdhhccpeikhilaaDoor
