/-
  DERIVED. GIVEN WITH THE SEED: THE CARDS: each row of YbulkahqyFmtRows.lean that lists a variable, with what it lists TIED to the program's text (the seventh form; the later family's looks); each row that meets fmt, with fmt's text TOLD by the authors' own Lean function (tested against real Go, not proved from fmt's source: count such statements apart). THE CARD IS WHAT COUNTS. Prove the row's statement (the work); the ties are given (YbulkahqyFmtTie.lean); close each card by the builder's one call (the guide's Derived/Test/ToyasCard.lean, 'card_holds'). Laid BY PROGRAM, IN A SANDBOX (cutbox-door.mjs). By AI agents, Wed Nov 11 2026. No macro, syntax, notation, axiom, sorry.
-/
import Derived.Test.YbulkahqyFmtRows
import GoSem.ClaimSeven
namespace Go.Proofs.YbulkahqyFmt
namespace Rows

/-- THE TOLD AND TIED CARD OF 'clienthello.LawS1675AWhole'. -/
def lawS1675AWholeCard : Claim7 := { stood := { row := lawS1675AWholeRow, standIns := [], harness := (true, "a2b70f480b63a6b3250b85db9bbe9a58e63ded62f65493bdab00e7b6c1a80bee"), looks := true }, told := true, laidByText := true, laidKinds := [.sentinel, .sentinel, .data], laidTests := true, laidLooks := .later, goes := false }
def LawS1675AWholeToldSaid : Prop := Claim7.holds Ybaf.pinned (.plain (OpenSpec.ofChange lawS1675AWholeSpec)) lawS1675AWholeCard
/-- ITS FALSE NEIGHBOUR. Refute it at one input. -/
def LawS1675AWholeToldWrongFalsely : Prop := Claim7.holds Ybaf.pinned (.plain (OpenSpec.ofChange lawS1675AWholeWrong)) lawS1675AWholeCard

/-- THE TOLD AND TIED CARD OF 'clienthello.LawS1675AResume'. -/
def lawS1675AResumeCard : Claim7 := { stood := { row := lawS1675AResumeRow, standIns := [], harness := (true, "a2b70f480b63a6b3250b85db9bbe9a58e63ded62f65493bdab00e7b6c1a80bee"), looks := true }, told := true, laidByText := true, laidKinds := [.sentinel, .sentinel, .data], laidTests := true, laidLooks := .later, goes := false }
def LawS1675AResumeToldSaid : Prop := Claim7.holds Ybaf.pinned (.plain (OpenSpec.ofChange lawS1675AResumeSpec)) lawS1675AResumeCard
/-- ITS FALSE NEIGHBOUR. Refute it at one input. -/
def LawS1675AResumeToldWrongFalsely : Prop := Claim7.holds Ybaf.pinned (.plain (OpenSpec.ofChange lawS1675AResumeWrong)) lawS1675AResumeCard

/-- THE TOLD CARD OF 'routes.LawS1675CAccepts'. -/
def lawS1675CAcceptsCard : Claim7 := { stood := { row := lawS1675CAcceptsRow, standIns := [], harness := (true, "a2b70f480b63a6b3250b85db9bbe9a58e63ded62f65493bdab00e7b6c1a80bee"), looks := true }, told := true, goes := false }
def LawS1675CAcceptsToldSaid : Prop := Claim7.holds Ybaf.pinned (.plain (OpenSpec.ofChange lawS1675CAcceptsSpec)) lawS1675CAcceptsCard
/-- ITS FALSE NEIGHBOUR. Refute it at one input. -/
def LawS1675CAcceptsToldWrongFalsely : Prop := Claim7.holds Ybaf.pinned (.plain (OpenSpec.ofChange lawS1675CAcceptsWrong)) lawS1675CAcceptsCard

/-- THE TOLD CARD OF 'routes.LawS1675CBuilt'. -/
def lawS1675CBuiltCard : Claim7 := { stood := { row := lawS1675CBuiltRow, standIns := [], harness := (true, "a2b70f480b63a6b3250b85db9bbe9a58e63ded62f65493bdab00e7b6c1a80bee"), looks := true }, told := true, goes := false }
def LawS1675CBuiltToldSaid : Prop := Claim7.holds Ybaf.pinned (.plain (OpenSpec.ofChange lawS1675CBuiltSpec)) lawS1675CBuiltCard
/-- ITS FALSE NEIGHBOUR. Refute it at one input. -/
def LawS1675CBuiltToldWrongFalsely : Prop := Claim7.holds Ybaf.pinned (.plain (OpenSpec.ofChange lawS1675CBuiltWrong)) lawS1675CBuiltCard
end Rows
end Go.Proofs.YbulkahqyFmt
