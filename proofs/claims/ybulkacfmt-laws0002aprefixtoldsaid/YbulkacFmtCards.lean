/-
  DERIVED. GIVEN WITH THE SEED: THE CARDS: each row of YbulkacFmtRows.lean that lists a variable, with what it lists TIED to the program's text (the seventh form; the later family's looks); each row that meets fmt, with fmt's text TOLD by the authors' own Lean function (tested against real Go, not proved from fmt's source: count such statements apart). THE CARD IS WHAT COUNTS. Prove the row's statement (the work); the ties are given (YbulkacFmtTie.lean); close each card by the builder's one call (the guide's Derived/Test/ToyasCard.lean, 'card_holds'). Laid BY PROGRAM, IN A SANDBOX (cutbox-door.mjs). By AI agents, Wed Nov 11 2026. No macro, syntax, notation, axiom, sorry.
-/
import Derived.Test.YbulkacFmtRows
import GoSem.ClaimSeven
namespace Go.Proofs.YbulkacFmt
namespace Rows

/-- THE TOLD CARD OF 'sdp.LawS0002AText'. -/
def lawS0002ATextCard : Claim7 := { stood := { row := lawS0002ATextRow, standIns := [], harness := (true, "df1db10dff8c307ac6226334c87a5410833aa4d8ef34a4961961b10611d3a248"), looks := false }, told := true, goes := false }
def LawS0002ATextToldSaid : Prop := Claim7.holds Ybaf.pinned (.plain (OpenSpec.ofChange lawS0002ATextSpec)) lawS0002ATextCard
/-- ITS FALSE NEIGHBOUR. Refute it at one input. -/
def LawS0002ATextToldWrongFalsely : Prop := Claim7.holds Ybaf.pinned (.plain (OpenSpec.ofChange lawS0002ATextWrong)) lawS0002ATextCard

/-- THE TOLD CARD OF 'sdp.LawS0002ASplit'. -/
def lawS0002ASplitCard : Claim7 := { stood := { row := lawS0002ASplitRow, standIns := [], harness := (true, "df1db10dff8c307ac6226334c87a5410833aa4d8ef34a4961961b10611d3a248"), looks := false }, told := true, goes := false }
def LawS0002ASplitToldSaid : Prop := Claim7.holds Ybaf.pinned (.plain (OpenSpec.ofChange lawS0002ASplitSpec)) lawS0002ASplitCard
/-- ITS FALSE NEIGHBOUR. Refute it at one input. -/
def LawS0002ASplitToldWrongFalsely : Prop := Claim7.holds Ybaf.pinned (.plain (OpenSpec.ofChange lawS0002ASplitWrong)) lawS0002ASplitCard

/-- THE TOLD CARD OF 'sdp.LawS0002APrefix'. -/
def lawS0002APrefixCard : Claim7 := { stood := { row := lawS0002APrefixRow, standIns := [], harness := (true, "df1db10dff8c307ac6226334c87a5410833aa4d8ef34a4961961b10611d3a248"), looks := false }, told := true, goes := false }
def LawS0002APrefixToldSaid : Prop := Claim7.holds Ybaf.pinned (.plain (OpenSpec.ofChange lawS0002APrefixSpec)) lawS0002APrefixCard
/-- ITS FALSE NEIGHBOUR. Refute it at one input. -/
def LawS0002APrefixToldWrongFalsely : Prop := Claim7.holds Ybaf.pinned (.plain (OpenSpec.ofChange lawS0002APrefixWrong)) lawS0002APrefixCard
end Rows
end Go.Proofs.YbulkacFmt
