/-
  No cell of these rows narrows 'for every input' (looked for: loops, veiled, ifaces, maps, wideKeys, modest, calm, conditions, laid).
  DERIVED. THE GIVEN ROWS OF THIS SEAT. 2 by the template 'for every input the law returns true; each argument reads behind the call as it read before'; 0 by the template 'total and deterministic' (their statements: YbulkaqTotals.lean).
  GIVEN WITH THE SEED: the statements are not yours to turn. If you find one false, say at which input.
  Laid BY PROGRAM, IN A SANDBOX (cutbox-rows.mjs): the forced cells as the released guide's own fill.sh prints them over the translation 038fe477b77a9c90… (all of the seat's roots in one cut). By AI agents, Wed Nov 11 2026. No macro, syntax, notation, axiom, sorry.
-/
import Derived.Test.YbulkaqChecked
import GoSem.Claim
import GoSem.ClaimJoined
import GoSem.ClaimMapViews
import Derived.JoinedTies
import Derived.KernelRfl
namespace Go.Proofs.Ybulkaq
/- THE CELL 'sum', in the pinned program and in every row, IS THE sha256 OF THE DUMP (.gsa) THAT YbulkaqProg.lean LOADS. Nothing in Lean hashes anything: it is a label: what it is worth is what the hold of that sum in a sandbox is worth. -/
noncomputable def Yba.pinned : Pinned := { name := "ybulkaq", sum := "038fe477b77a9c90336c1aa704fa77b98c3a5e540c16f6e3083c65d6b011dafc", checked := Yba.checked }
namespace Rows
def none {H : Type} : Left H := { results := [], args := [] }

/-- 'syntax.LawS0003AHooks': WHATEVER THE INPUT: true; the input reads as it did. -/
def lawS0003AHooksSpec : ChangeSpec := { name := "lawS0003AHooks", fn := fun _ => fun
  | [d] => { results := [.lit (.bool true)], args := [d] }
  | _ => none }
def lawS0003AHooksRow : OpenClaim := { program := "ybulkaq", sum := "038fe477b77a9c90336c1aa704fa77b98c3a5e540c16f6e3083c65d6b011dafc", func := "example.com/rulewright/rulewright/internal/syntax.LawS0003AHooks", spec := "lawS0003AHooks", unfollowed := true, recurses := true, apart := false }
def LawS0003AHooksSaid : Prop := lawS0003AHooksRow.holds Yba.pinned (OpenSpec.ofChange lawS0003AHooksSpec)

/-- ITS FALSE NEIGHBOUR: 'it returns false'. Refute it at one input. -/
def lawS0003AHooksWrong : ChangeSpec := { name := "lawS0003AHooks", fn := fun _ => fun
  | [d] => { results := [.lit (.bool false)], args := [d] }
  | _ => none }
def LawS0003AHooksWrongFalsely : Prop := lawS0003AHooksRow.holds Yba.pinned (OpenSpec.ofChange lawS0003AHooksWrong)

/-- 'syntax.LawS0003APlain': WHATEVER THE INPUT: true; the input reads as it did. -/
def lawS0003APlainSpec : ChangeSpec := { name := "lawS0003APlain", fn := fun _ => fun
  | [d] => { results := [.lit (.bool true)], args := [d] }
  | _ => none }
def lawS0003APlainRow : OpenClaim := { program := "ybulkaq", sum := "038fe477b77a9c90336c1aa704fa77b98c3a5e540c16f6e3083c65d6b011dafc", func := "example.com/rulewright/rulewright/internal/syntax.LawS0003APlain", spec := "lawS0003APlain", unfollowed := true, recurses := true, apart := false }
def LawS0003APlainSaid : Prop := lawS0003APlainRow.holds Yba.pinned (OpenSpec.ofChange lawS0003APlainSpec)

/-- ITS FALSE NEIGHBOUR: 'it returns false'. Refute it at one input. -/
def lawS0003APlainWrong : ChangeSpec := { name := "lawS0003APlain", fn := fun _ => fun
  | [d] => { results := [.lit (.bool false)], args := [d] }
  | _ => none }
def LawS0003APlainWrongFalsely : Prop := lawS0003APlainRow.holds Yba.pinned (OpenSpec.ofChange lawS0003APlainWrong)

end Rows
end Go.Proofs.Ybulkaq
