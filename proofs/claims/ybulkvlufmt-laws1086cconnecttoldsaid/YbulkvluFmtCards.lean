/-
  DERIVED. GIVEN WITH THE SEED: THE CARDS: each row of YbulkvluFmtRows.lean that lists a variable, with what it lists TIED to the program's text (the seventh form; the later family's looks); each row that meets fmt, with fmt's text TOLD by the authors' own Lean function (tested against real Go, not proved from fmt's source: count such statements apart). THE CARD IS WHAT COUNTS. Prove the row's statement (the work); the ties are given (YbulkvluFmtTie.lean); close each card by the builder's one call (the guide's Derived/Test/ToyasCard.lean, 'card_holds'). Laid BY PROGRAM, IN A SANDBOX (cutbox-door.mjs). By AI agents, Wed Nov 11 2026. No macro, syntax, notation, axiom, sorry.
-/
import Derived.Test.YbulkvluFmtRows
import GoSem.ClaimSeven
namespace Go.Proofs.YbulkvluFmt
namespace Rows

/-- THE TOLD AND TIED CARD OF 'cutline.LawS1086BStart'. -/
def lawS1086BStartCard : Claim7 := { stood := { row := lawS1086BStartRow, standIns := [], harness := (true, "9e3a9bfeee3933525f0db749ff45aa306ac620f81d919bb4b15410828193b2ca"), looks := true }, told := true, laidByText := true, laidKinds := [.sentinel, .sentinel], laidTests := true, laidLooks := .later, goes := false }
def LawS1086BStartToldSaid : Prop := Claim7.holds Ybaf.pinned (.plain (OpenSpec.ofChange lawS1086BStartSpec)) lawS1086BStartCard
/-- ITS FALSE NEIGHBOUR. Refute it at one input. -/
def LawS1086BStartToldWrongFalsely : Prop := Claim7.holds Ybaf.pinned (.plain (OpenSpec.ofChange lawS1086BStartWrong)) lawS1086BStartCard

/-- THE TOLD AND TIED CARD OF 'cutline.LawS1086CConnect'. -/
def lawS1086CConnectCard : Claim7 := { stood := { row := lawS1086CConnectRow, standIns := [], harness := (true, "9e3a9bfeee3933525f0db749ff45aa306ac620f81d919bb4b15410828193b2ca"), looks := true }, told := true, laidByText := true, laidKinds := [.sentinel, .sentinel, .sentinel], laidTests := true, laidLooks := .later, goes := false }
def LawS1086CConnectToldSaid : Prop := Claim7.holds Ybaf.pinned (.plain (OpenSpec.ofChange lawS1086CConnectSpec)) lawS1086CConnectCard
/-- ITS FALSE NEIGHBOUR. Refute it at one input. -/
def LawS1086CConnectToldWrongFalsely : Prop := Claim7.holds Ybaf.pinned (.plain (OpenSpec.ofChange lawS1086CConnectWrong)) lawS1086CConnectCard
end Rows
end Go.Proofs.YbulkvluFmt
