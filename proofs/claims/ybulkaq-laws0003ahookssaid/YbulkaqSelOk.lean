/-
  '(Copier).Select' over the law's blocks, subqueries and all.
-/
import Derived.Test.YbulkaqSelect
import Derived.Test.YbulkaqSub
namespace Go.Proofs.Ybulkaq
open Go.RowKit

theorem selOk_E0 (H : Nat) : SelOk E0 H 200000 := fun _ _ _ _ _ _ _ h hb hH hr hq => select_ok eok_E0 (exprOk_E0 H) (Nat.le_refl _) h hb hH hr hq
theorem selOk_Ex (H : Nat) : SelOk Ex H 100000 := fun _ _ _ _ _ _ _ h hb hH hr hq => select_ok eok_Ex (exprOk_Ex (selOk_E0 H)) (by omega) h hb hH hr hq

end Go.Proofs.Ybulkaq
