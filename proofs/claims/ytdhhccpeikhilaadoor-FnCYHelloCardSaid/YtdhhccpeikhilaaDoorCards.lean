/-
  DERIVED. GIVEN WITH THE SEED: THE CARDS: each row of YtdhhccpeikhilaaDoorRows.lean that lists a variable, with what it lists TIED to the program's text (the seventh form; the later family's looks); each row that meets fmt, with fmt's text TOLD by the authors' own Lean function (tested against real Go, not proved from fmt's source: count such statements apart). THE CARD IS WHAT COUNTS. Prove the row's statement (the work); the ties are given (YtdhhccpeikhilaaDoorTie.lean); close each card by the builder's one call (the guide's Derived/Test/ToyasCard.lean, 'card_holds'). Laid BY PROGRAM, IN A SANDBOX (cutbox-door.mjs). By AI agents, Wed Nov 11 2026. No macro, syntax, notation, axiom, sorry.
-/
import Derived.Test.YtdhhccpeikhilaaDoorRows
import GoSem.ClaimSeven
namespace Go.Proofs.YtdhhccpeikhilaaDoor
namespace Rows

/-- THE TIED CARD OF 'laws.FnCYComes'. -/
def fnCYComesCard : Claim7 := { stood := { row := fnCYComesRow, standIns := [], harness := (true, "2be1ab44a58762811c5d3377f3d798d28671bcf534895ff22d519a71b112aeb1"), looks := true }, kinds := [], alts := [], laidByText := true, laidKinds := [.sentinel], laidTests := true, laidLooks := .later }
def FnCYComesCardSaid : Prop := Claim7.holds Tryd.pinned (.plain (OpenSpec.ofChange fnCYComesSpec)) fnCYComesCard

/-- THE TIED CARD OF 'laws.FnCYHello'. -/
def fnCYHelloCard : Claim7 := { stood := { row := fnCYHelloRow, standIns := [], harness := (true, "2be1ab44a58762811c5d3377f3d798d28671bcf534895ff22d519a71b112aeb1"), looks := true }, kinds := [], alts := [], laidByText := true, laidKinds := [.sentinel], laidTests := true, laidLooks := .later }
def FnCYHelloCardSaid : Prop := Claim7.holds Tryd.pinned (.plain (OpenSpec.ofChange fnCYHelloSpec)) fnCYHelloCard

/-- THE TIED CARD OF 'laws.FnCYSends'. -/
def fnCYSendsCard : Claim7 := { stood := { row := fnCYSendsRow, standIns := [], harness := (true, "2be1ab44a58762811c5d3377f3d798d28671bcf534895ff22d519a71b112aeb1"), looks := true }, kinds := [], alts := [], laidByText := true, laidKinds := [.sentinel], laidTests := true, laidLooks := .later }
def FnCYSendsCardSaid : Prop := Claim7.holds Tryd.pinned (.plain (OpenSpec.ofChange fnCYSendsSpec)) fnCYSendsCard

/-- THE SECOND FORM's CARD OF 'laws.FnCYComes'. -/
def fnCYComesUptoCard : Claim7 := { stood := { row := fnCYComesUptoRow, standIns := [], harness := (true, "2be1ab44a58762811c5d3377f3d798d28671bcf534895ff22d519a71b112aeb1"), looks := true }, kinds := [], alts := [], laidByText := true, laidKinds := [.sentinel], laidTests := true, laidLooks := .later }
def FnCYComesUptoCardSaid : Prop := Claim7.holds Tryd.pinned (.plain (OpenSpec.upto fnCYComesSpec)) fnCYComesUptoCard

/-- THE SECOND FORM's CARD OF 'laws.FnCYHello'. -/
def fnCYHelloUptoCard : Claim7 := { stood := { row := fnCYHelloUptoRow, standIns := [], harness := (true, "2be1ab44a58762811c5d3377f3d798d28671bcf534895ff22d519a71b112aeb1"), looks := true }, kinds := [], alts := [], laidByText := true, laidKinds := [.sentinel], laidTests := true, laidLooks := .later }
def FnCYHelloUptoCardSaid : Prop := Claim7.holds Tryd.pinned (.plain (OpenSpec.upto fnCYHelloSpec)) fnCYHelloUptoCard

/-- THE SECOND FORM's CARD OF 'laws.FnCYSends'. -/
def fnCYSendsUptoCard : Claim7 := { stood := { row := fnCYSendsUptoRow, standIns := [], harness := (true, "2be1ab44a58762811c5d3377f3d798d28671bcf534895ff22d519a71b112aeb1"), looks := true }, kinds := [], alts := [], laidByText := true, laidKinds := [.sentinel], laidTests := true, laidLooks := .later }
def FnCYSendsUptoCardSaid : Prop := Claim7.holds Tryd.pinned (.plain (OpenSpec.upto fnCYSendsSpec)) fnCYSendsUptoCard
end Rows
end Go.Proofs.YtdhhccpeikhilaaDoor
