/-
  No cell of these rows narrows 'for every input' (looked for: loops, veiled, ifaces, maps, wideKeys, modest, calm, conditions, laid).
  DERIVED. THE GIVEN ROWS OF THIS SEAT. 2 by the template 'for every input the law returns true; each argument reads behind the call as it read before'; 0 by the template 'total and deterministic' (their statements: YbulkcuTotals.lean).
  GIVEN WITH THE SEED: the statements are not yours to turn. If you find one false, say at which input.
  Laid BY PROGRAM, IN A SANDBOX (cutbox-rows.mjs): the forced cells as the released guide's own fill.sh prints them over the translation 479b7f9910b38d9b… (all of the seat's roots in one cut). By AI agents, Wed Nov 11 2026. No macro, syntax, notation, axiom, sorry.
-/
import Derived.Test.YbulkcuChecked
import GoSem.Claim
import GoSem.ClaimJoined
import GoSem.ClaimMapViews
import Derived.JoinedTies
import Derived.KernelRfl
namespace Go.Proofs.Ybulkcu
/- THE CELL 'sum', in the pinned program and in every row, IS THE sha256 OF THE DUMP (.gsa) THAT YbulkcuProg.lean LOADS. Nothing in Lean hashes anything: it is a label: what it is worth is what the hold of that sum in a sandbox is worth. -/
noncomputable def Yba.pinned : Pinned := { name := "ybulkcu", sum := "479b7f9910b38d9b565d20810b7f7f4a3d15c75ddbf2a646b54c68c1c73a7446", checked := Yba.checked }
namespace Rows
def none {H : Type} : Left H := { results := [], args := [] }

/-- 'logstanza.LawS0007AModel': WHATEVER THE INPUT: true; the input reads as it did. -/
def lawS0007AModelSpec : ChangeSpec := { name := "lawS0007AModel", fn := fun _ => fun
  | [d1, d2] => { results := [.lit (.bool true)], args := [d1, d2] }
  | _ => none }
def lawS0007AModelRow : OpenClaim := { program := "ybulkcu", sum := "479b7f9910b38d9b565d20810b7f7f4a3d15c75ddbf2a646b54c68c1c73a7446", func := "example.com/logstanza/logstanza.LawS0007AModel", spec := "lawS0007AModel", apart := false }
def LawS0007AModelSaid : Prop := lawS0007AModelRow.holds Yba.pinned (OpenSpec.ofChange lawS0007AModelSpec)

/-- ITS FALSE NEIGHBOUR: 'it returns false'. Refute it at one input. -/
def lawS0007AModelWrong : ChangeSpec := { name := "lawS0007AModel", fn := fun _ => fun
  | [d1, d2] => { results := [.lit (.bool false)], args := [d1, d2] }
  | _ => none }
def LawS0007AModelWrongFalsely : Prop := lawS0007AModelRow.holds Yba.pinned (OpenSpec.ofChange lawS0007AModelWrong)

/-- 'logstanza.LawS0007AOrder': WHATEVER THE INPUT: true; the input reads as it did. -/
def lawS0007AOrderSpec : ChangeSpec := { name := "lawS0007AOrder", fn := fun _ => fun
  | [d1, d2] => { results := [.lit (.bool true)], args := [d1, d2] }
  | _ => none }
def lawS0007AOrderRow : OpenClaim := { program := "ybulkcu", sum := "479b7f9910b38d9b565d20810b7f7f4a3d15c75ddbf2a646b54c68c1c73a7446", func := "example.com/logstanza/logstanza.LawS0007AOrder", spec := "lawS0007AOrder", apart := false }
def LawS0007AOrderSaid : Prop := lawS0007AOrderRow.holds Yba.pinned (OpenSpec.ofChange lawS0007AOrderSpec)

/-- ITS FALSE NEIGHBOUR: 'it returns false'. Refute it at one input. -/
def lawS0007AOrderWrong : ChangeSpec := { name := "lawS0007AOrder", fn := fun _ => fun
  | [d1, d2] => { results := [.lit (.bool false)], args := [d1, d2] }
  | _ => none }
def LawS0007AOrderWrongFalsely : Prop := lawS0007AOrderRow.holds Yba.pinned (OpenSpec.ofChange lawS0007AOrderWrong)

end Rows
end Go.Proofs.Ybulkcu
