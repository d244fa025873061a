/-
  DERIVED. GIVEN WITH THE SEED: THE CARDS: each row of YbulkdgtcFmtRows.lean that lists a variable, with what it lists TIED to the program's text (the seventh form; the later family's looks); each row that meets fmt, with fmt's text TOLD by the authors' own Lean function (tested against real Go, not proved from fmt's source: count such statements apart). THE CARD IS WHAT COUNTS. Prove the row's statement (the work); the ties are given (YbulkdgtcFmtTie.lean); close each card by the builder's one call (the guide's Derived/Test/ToyasCard.lean, 'card_holds'). Laid BY PROGRAM, IN A SANDBOX (cutbox-door.mjs). By AI agents, Wed Nov 11 2026. No macro, syntax, notation, axiom, sorry.
-/
import Derived.Test.YbulkdgtcFmtRows
import GoSem.ClaimSeven
namespace Go.Proofs.YbulkdgtcFmt
namespace Rows

/-- THE TOLD AND TIED CARD OF 'lineproto.LawS5397AModel'. -/
def lawS5397AModelCard : Claim7 := { stood := { row := lawS5397AModelRow, standIns := [], harness := (true, "ac8d31a4c60e10a6d1e294d1451b6df638cdf60f2651f4d621dfa72a26c97303"), looks := false }, told := true, laidByText := true, laidKinds := [.data], laidTests := true, laidLooks := .later, goes := false }
def LawS5397AModelToldSaid : Prop := Claim7.holds Ybaf.pinned (.plain (OpenSpec.ofChange lawS5397AModelSpec)) lawS5397AModelCard
/-- ITS FALSE NEIGHBOUR. Refute it at one input. -/
def LawS5397AModelToldWrongFalsely : Prop := Claim7.holds Ybaf.pinned (.plain (OpenSpec.ofChange lawS5397AModelWrong)) lawS5397AModelCard

/-- THE TOLD AND TIED CARD OF 'lineproto.LawS5397APick'. -/
def lawS5397APickCard : Claim7 := { stood := { row := lawS5397APickRow, standIns := [], harness := (true, "ac8d31a4c60e10a6d1e294d1451b6df638cdf60f2651f4d621dfa72a26c97303"), looks := false }, told := true, laidByText := true, laidKinds := [.data], laidTests := true, laidLooks := .later, goes := false }
def LawS5397APickToldSaid : Prop := Claim7.holds Ybaf.pinned (.plain (OpenSpec.ofChange lawS5397APickSpec)) lawS5397APickCard
/-- ITS FALSE NEIGHBOUR. Refute it at one input. -/
def LawS5397APickToldWrongFalsely : Prop := Claim7.holds Ybaf.pinned (.plain (OpenSpec.ofChange lawS5397APickWrong)) lawS5397APickCard
end Rows
end Go.Proofs.YbulkdgtcFmt
