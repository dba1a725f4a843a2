/-
  No cell of these rows narrows 'for every input' (looked for: loops, veiled, ifaces, maps, wideKeys, modest, calm, conditions, laid).
  DERIVED. THE GIVEN ROWS OF THIS SEAT. 2 by the template 'for every input the law returns true; each argument reads behind the call as it read before'; 0 by the template 'total and deterministic' (their statements: YbulkoTotals.lean).
  GIVEN WITH THE SEED: the statements are not yours to turn. If you find one false, say at which input.
  Laid BY PROGRAM, IN A SANDBOX (cutbox-rows.mjs): the forced cells as the released guide's own fill.sh prints them over the translation 6dff07fc43a7bfcb… (all of the seat's roots in one cut). By AI agents, Wed Nov 11 2026. No macro, syntax, notation, axiom, sorry.
-/
import Derived.Test.YbulkoChecked
import GoSem.Claim
import GoSem.ClaimJoined
import GoSem.ClaimMapViews
import Derived.JoinedTies
import Derived.KernelRfl
namespace Go.Proofs.Ybulko
/- THE CELL 'sum', in the pinned program and in every row, IS THE sha256 OF THE DUMP (.gsa) THAT YbulkoProg.lean LOADS. Nothing in Lean hashes anything: it is a label: what it is worth is what the hold of that sum in a sandbox is worth. -/
noncomputable def Yba.pinned : Pinned := { name := "ybulko", sum := "6dff07fc43a7bfcb890881bbffda6cd2bf1b669c7af02288860c32ca810e1abf", checked := Yba.checked }
namespace Rows
def none {H : Type} : Left H := { results := [], args := [] }

/-- 'repository.LawS0001AModel': WHATEVER THE INPUT: true; the input reads as it did. -/
def lawS0001AModelSpec : ChangeSpec := { name := "lawS0001AModel", fn := fun _ => fun
  | [d1, d2] => { results := [.lit (.bool true)], args := [d1, d2] }
  | _ => none }
def lawS0001AModelRow : OpenClaim := { program := "ybulko", sum := "6dff07fc43a7bfcb890881bbffda6cd2bf1b669c7af02288860c32ca810e1abf", func := "example.com/hostler/hostler/internal/repository.LawS0001AModel", spec := "lawS0001AModel", apart := false }
def LawS0001AModelSaid : Prop := lawS0001AModelRow.holds Yba.pinned (OpenSpec.ofChange lawS0001AModelSpec)

/-- ITS FALSE NEIGHBOUR: 'it returns false'. Refute it at one input. -/
def lawS0001AModelWrong : ChangeSpec := { name := "lawS0001AModel", fn := fun _ => fun
  | [d1, d2] => { results := [.lit (.bool false)], args := [d1, d2] }
  | _ => none }
def LawS0001AModelWrongFalsely : Prop := lawS0001AModelRow.holds Yba.pinned (OpenSpec.ofChange lawS0001AModelWrong)

/-- 'repository.LawS0001ARoundTrip': WHATEVER THE INPUT: true; the input reads as it did. -/
def lawS0001ARoundTripSpec : ChangeSpec := { name := "lawS0001ARoundTrip", fn := fun _ => fun
  | [d1, d2] => { results := [.lit (.bool true)], args := [d1, d2] }
  | _ => none }
def lawS0001ARoundTripRow : OpenClaim := { program := "ybulko", sum := "6dff07fc43a7bfcb890881bbffda6cd2bf1b669c7af02288860c32ca810e1abf", func := "example.com/hostler/hostler/internal/repository.LawS0001ARoundTrip", spec := "lawS0001ARoundTrip", apart := false }
def LawS0001ARoundTripSaid : Prop := lawS0001ARoundTripRow.holds Yba.pinned (OpenSpec.ofChange lawS0001ARoundTripSpec)

/-- ITS FALSE NEIGHBOUR: 'it returns false'. Refute it at one input. -/
def lawS0001ARoundTripWrong : ChangeSpec := { name := "lawS0001ARoundTrip", fn := fun _ => fun
  | [d1, d2] => { results := [.lit (.bool false)], args := [d1, d2] }
  | _ => none }
def LawS0001ARoundTripWrongFalsely : Prop := lawS0001ARoundTripRow.holds Yba.pinned (OpenSpec.ofChange lawS0001ARoundTripWrong)

end Rows
end Go.Proofs.Ybulko
