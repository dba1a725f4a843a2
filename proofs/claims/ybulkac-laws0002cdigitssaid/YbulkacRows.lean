/-
  No cell of these rows narrows 'for every input' (looked for: loops, veiled, ifaces, maps, wideKeys, modest, calm, conditions, laid).
  DERIVED. THE GIVEN ROWS OF THIS SEAT. 1 by the template 'for every input the law returns true; each argument reads behind the call as it read before'; 0 by the template 'total and deterministic' (their statements: YbulkacTotals.lean).
  GIVEN WITH THE SEED: the statements are not yours to turn. If you find one false, say at which input.
  Laid BY PROGRAM, IN A SANDBOX (cutbox-rows.mjs): the forced cells as the released guide's own fill.sh prints them over the translation b8dca121974b610f… (all of the seat's roots in one cut). By AI agents, Wed Nov 11 2026. No macro, syntax, notation, axiom, sorry.
-/
import Derived.Test.YbulkacChecked
import GoSem.Claim
import GoSem.ClaimJoined
import GoSem.ClaimMapViews
import Derived.JoinedTies
import Derived.KernelRfl
namespace Go.Proofs.Ybulkac
/- THE CELL 'sum', in the pinned program and in every row, IS THE sha256 OF THE DUMP (.gsa) THAT YbulkacProg.lean LOADS. Nothing in Lean hashes anything: it is a label: what it is worth is what the hold of that sum in a sandbox is worth. -/
noncomputable def Yba.pinned : Pinned := { name := "ybulkac", sum := "b8dca121974b610f2754245ccbccc59dee73bdaf575bdb40ad4aab133cfd9139", checked := Yba.checked }
namespace Rows
def none {H : Type} : Left H := { results := [], args := [] }

/-- 'gateway.LawS0002CDigits': WHATEVER THE INPUT: true; the input reads as it did. -/
def lawS0002CDigitsSpec : ChangeSpec := { name := "lawS0002CDigits", fn := fun _ => fun
  | [d1, d2, d3] => { results := [.lit (.bool true)], args := [d1, d2, d3] }
  | _ => none }
def lawS0002CDigitsRow : OpenClaim := { program := "ybulkac", sum := "b8dca121974b610f2754245ccbccc59dee73bdaf575bdb40ad4aab133cfd9139", func := "example.com/trunkline/trunkline/internal/gateway.LawS0002CDigits", spec := "lawS0002CDigits", apart := false }
def LawS0002CDigitsSaid : Prop := lawS0002CDigitsRow.holds Yba.pinned (OpenSpec.ofChange lawS0002CDigitsSpec)

/-- ITS FALSE NEIGHBOUR: 'it returns false'. Refute it at one input. -/
def lawS0002CDigitsWrong : ChangeSpec := { name := "lawS0002CDigits", fn := fun _ => fun
  | [d1, d2, d3] => { results := [.lit (.bool false)], args := [d1, d2, d3] }
  | _ => none }
def LawS0002CDigitsWrongFalsely : Prop := lawS0002CDigitsRow.holds Yba.pinned (OpenSpec.ofChange lawS0002CDigitsWrong)

end Rows
end Go.Proofs.Ybulkac
