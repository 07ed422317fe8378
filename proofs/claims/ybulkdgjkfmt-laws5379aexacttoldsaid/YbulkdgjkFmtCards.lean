/-
  DERIVED. GIVEN WITH THE SEED: THE CARDS: each row of YbulkdgjkFmtRows.lean that lists a variable, with what it lists TIED to the program's text (the seventh form; the later family's looks); each row that meets fmt, with fmt's text TOLD by the authors' own Lean function (tested against real Go, not proved from fmt's source: count such statements apart). THE CARD IS WHAT COUNTS. Prove the row's statement (the work); the ties are given (YbulkdgjkFmtTie.lean); close each card by the builder's one call (the guide's Derived/Test/ToyasCard.lean, 'card_holds'). Laid BY PROGRAM, IN A SANDBOX (cutbox-door.mjs). By AI agents, Wed Nov 11 2026. No macro, syntax, notation, axiom, sorry.
-/
import Derived.Test.YbulkdgjkFmtRows
import GoSem.ClaimSeven
namespace Go.Proofs.YbulkdgjkFmt
namespace Rows

/-- THE TOLD CARD OF 'latchwork.LawS5379AExact'. -/
def lawS5379AExactCard : Claim7 := { stood := { row := lawS5379AExactRow, standIns := [], harness := (true, "7ac8c298823f8edf6b0259e5a6a47ee629c06bd48286f42f8f39863efe224593"), looks := false }, told := true, goes := false }
def LawS5379AExactToldSaid : Prop := Claim7.holds Ybaf.pinned (.plain (OpenSpec.ofChange lawS5379AExactSpec)) lawS5379AExactCard
/-- ITS FALSE NEIGHBOUR. Refute it at one input. -/
def LawS5379AExactToldWrongFalsely : Prop := Claim7.holds Ybaf.pinned (.plain (OpenSpec.ofChange lawS5379AExactWrong)) lawS5379AExactCard

/-- THE TOLD CARD OF 'latchwork.LawS5379CFields'. -/
def lawS5379CFieldsCard : Claim7 := { stood := { row := lawS5379CFieldsRow, standIns := [], harness := (true, "7ac8c298823f8edf6b0259e5a6a47ee629c06bd48286f42f8f39863efe224593"), looks := false }, told := true, goes := false }
def LawS5379CFieldsToldSaid : Prop := Claim7.holds Ybaf.pinned (.plain (OpenSpec.ofChange lawS5379CFieldsSpec)) lawS5379CFieldsCard
/-- ITS FALSE NEIGHBOUR. Refute it at one input. -/
def LawS5379CFieldsToldWrongFalsely : Prop := Claim7.holds Ybaf.pinned (.plain (OpenSpec.ofChange lawS5379CFieldsWrong)) lawS5379CFieldsCard

/-- THE TOLD CARD OF 'latchwork.LawS5379CIndexes'. -/
def lawS5379CIndexesCard : Claim7 := { stood := { row := lawS5379CIndexesRow, standIns := [], harness := (true, "7ac8c298823f8edf6b0259e5a6a47ee629c06bd48286f42f8f39863efe224593"), looks := false }, told := true, goes := false }
def LawS5379CIndexesToldSaid : Prop := Claim7.holds Ybaf.pinned (.plain (OpenSpec.ofChange lawS5379CIndexesSpec)) lawS5379CIndexesCard
/-- ITS FALSE NEIGHBOUR. Refute it at one input. -/
def LawS5379CIndexesToldWrongFalsely : Prop := Claim7.holds Ybaf.pinned (.plain (OpenSpec.ofChange lawS5379CIndexesWrong)) lawS5379CIndexesCard
end Rows
end Go.Proofs.YbulkdgjkFmt
