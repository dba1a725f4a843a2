/-
  No cell of these rows narrows 'for every input' (looked for: loops, veiled, ifaces, maps, wideKeys, modest, calm, conditions, laid).
  DERIVED. THE GIVEN ROWS OF THIS SEAT. 3 by the template 'for every input the law returns true; each argument reads behind the call as it read before'; 0 by the template 'total and deterministic' (their statements: YbulkacFmtTotals.lean).
  GIVEN WITH THE SEED: the statements are not yours to turn. If you find one false, say at which input.
  Laid BY PROGRAM, IN A SANDBOX (cutbox-rows.mjs): the forced cells as the released guide's own fill.sh prints them over the translation acd846ce7162920d… (all of the seat's roots in one cut). By AI agents, Wed Nov 11 2026. No macro, syntax, notation, axiom, sorry.
-/
import Derived.Test.YbulkacFmtChecked
import GoSem.Claim
import GoSem.ClaimJoined
import GoSem.ClaimMapViews
import Derived.JoinedTies
import Derived.KernelRfl
namespace Go.Proofs.YbulkacFmt
/- THE CELL 'sum', in the pinned program and in every row, IS THE sha256 OF THE DUMP (.gsa) THAT YbulkacFmtProg.lean LOADS. Nothing in Lean hashes anything: it is a label: what it is worth is what the hold of that sum in a sandbox is worth. -/
noncomputable def Ybaf.pinned : Pinned := { name := "ybulkacfmt", sum := "acd846ce7162920de3fc6a80eb4607f38178faf96576c1a8d6b1f9a1fc20b321", checked := Ybaf.checked }
namespace Rows
def none {H : Type} : Left H := { results := [], args := [] }

/-- 'sdp.LawS0002AText': WHATEVER THE INPUT: true; the input reads as it did. -/
def lawS0002ATextSpec : ChangeSpec := { name := "lawS0002AText", fn := fun _ => fun
  | [d1, d2] => { results := [.lit (.bool true)], args := [d1, d2] }
  | _ => none }
def lawS0002ATextRow : OpenClaim := { program := "ybulkacfmt", sum := "acd846ce7162920de3fc6a80eb4607f38178faf96576c1a8d6b1f9a1fc20b321", func := "example.com/trunkline/trunkline/pkg/sdp.LawS0002AText", spec := "lawS0002AText", stops := ["fmt.Sprintf"], inPlace := ["fmt.Appendf", "fmt.Sprintf"], apart := false }
/-- NO THEOREM (fmt's text is open here; it may be false): for the released tool's asking of the row's closed facts alone. THE STATEMENT IS 'LawS0002ATextToldSaid' (YbulkacFmtCards.lean). -/
def LawS0002ATextFormAsk : Prop := lawS0002ATextRow.holds Ybaf.pinned (OpenSpec.ofChange lawS0002ATextSpec)

/-- ITS FALSE NEIGHBOUR: 'it returns false'. Refute it at one input. -/
def lawS0002ATextWrong : ChangeSpec := { name := "lawS0002AText", fn := fun _ => fun
  | [d1, d2] => { results := [.lit (.bool false)], args := [d1, d2] }
  | _ => none }
def LawS0002ATextWrongFormAsk : Prop := lawS0002ATextRow.holds Ybaf.pinned (OpenSpec.ofChange lawS0002ATextWrong)

/-- 'sdp.LawS0002ASplit': WHATEVER THE INPUT: true; the input reads as it did. -/
def lawS0002ASplitSpec : ChangeSpec := { name := "lawS0002ASplit", fn := fun _ => fun
  | [d1, d2, d3] => { results := [.lit (.bool true)], args := [d1, d2, d3] }
  | _ => none }
def lawS0002ASplitRow : OpenClaim := { program := "ybulkacfmt", sum := "acd846ce7162920de3fc6a80eb4607f38178faf96576c1a8d6b1f9a1fc20b321", func := "example.com/trunkline/trunkline/pkg/sdp.LawS0002ASplit", spec := "lawS0002ASplit", stops := ["fmt.Sprintf"], inPlace := ["fmt.Appendf", "fmt.Sprintf"], apart := false }
/-- NO THEOREM (fmt's text is open here; it may be false): for the released tool's asking of the row's closed facts alone. THE STATEMENT IS 'LawS0002ASplitToldSaid' (YbulkacFmtCards.lean). -/
def LawS0002ASplitFormAsk : Prop := lawS0002ASplitRow.holds Ybaf.pinned (OpenSpec.ofChange lawS0002ASplitSpec)

/-- ITS FALSE NEIGHBOUR: 'it returns false'. Refute it at one input. -/
def lawS0002ASplitWrong : ChangeSpec := { name := "lawS0002ASplit", fn := fun _ => fun
  | [d1, d2, d3] => { results := [.lit (.bool false)], args := [d1, d2, d3] }
  | _ => none }
def LawS0002ASplitWrongFormAsk : Prop := lawS0002ASplitRow.holds Ybaf.pinned (OpenSpec.ofChange lawS0002ASplitWrong)

/-- 'sdp.LawS0002APrefix': WHATEVER THE INPUT: true; the input reads as it did. -/
def lawS0002APrefixSpec : ChangeSpec := { name := "lawS0002APrefix", fn := fun _ => fun
  | [d1, d2] => { results := [.lit (.bool true)], args := [d1, d2] }
  | _ => none }
def lawS0002APrefixRow : OpenClaim := { program := "ybulkacfmt", sum := "acd846ce7162920de3fc6a80eb4607f38178faf96576c1a8d6b1f9a1fc20b321", func := "example.com/trunkline/trunkline/pkg/sdp.LawS0002APrefix", spec := "lawS0002APrefix", stops := ["fmt.Sprintf"], inPlace := ["fmt.Appendf", "fmt.Sprintf"], apart := false }
/-- NO THEOREM (fmt's text is open here; it may be false): for the released tool's asking of the row's closed facts alone. THE STATEMENT IS 'LawS0002APrefixToldSaid' (YbulkacFmtCards.lean). -/
def LawS0002APrefixFormAsk : Prop := lawS0002APrefixRow.holds Ybaf.pinned (OpenSpec.ofChange lawS0002APrefixSpec)

/-- ITS FALSE NEIGHBOUR: 'it returns false'. Refute it at one input. -/
def lawS0002APrefixWrong : ChangeSpec := { name := "lawS0002APrefix", fn := fun _ => fun
  | [d1, d2] => { results := [.lit (.bool false)], args := [d1, d2] }
  | _ => none }
def LawS0002APrefixWrongFormAsk : Prop := lawS0002APrefixRow.holds Ybaf.pinned (OpenSpec.ofChange lawS0002APrefixWrong)

end Rows
end Go.Proofs.YbulkacFmt
