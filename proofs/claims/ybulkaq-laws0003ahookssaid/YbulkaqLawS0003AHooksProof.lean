/-
  THE PROOF OF 'Rows.LawS0003AHooksSaid': build's contract handed to the frame.
-/
import Derived.Test.YbulkaqBuild
import Derived.Test.YbulkaqFrame
namespace Go.Proofs.Ybulkaq.lawS0003AHooks

/-- ████ THE STATEMENT ████ -/
theorem proved : Rows.LawS0003AHooksSaid :=
  over @build_ok
#print axioms proved
end Go.Proofs.Ybulkaq.lawS0003AHooks
