/-
  THE SHELF's CONTRACTS OF encoding/binary.AppendUvarint AND Uvarint, LAID AT THIS PROGRAM (the plain text that the shelf's tool writes); bytes.Equal's, walked here (the shelf's template, turned to this program).
-/
import Derived.Test.YbulkoRows
import Derived.Shelf.Bin.AppendUvarint
import Derived.Shelf.Bin.Uvarint
import Derived.Lib.Strings
import Derived.Lib.Slices
import Derived.Lib.Walk
import Derived.Lib.Bytes
namespace Go.Proofs
open Go.Shelf

def Yba.laysVar47_ren : Go.Shelf.Ren := ⟨fun | 47 => 10 | n => n, fun | 22 => 22 | 33 => 29 | 4 => 4 | 5 => 5 | 45 => 52 | n => n, fun | n => n⟩
theorem Yba.laysVar47 : Go.Proofs.LaysBin.n47 Yba.prog Yba.laysVar47_ren := {
  mixed := by kernel_rfl
  f47 := Yba.func10.trans (congrArg some (by kernel_rfl))
  t4 := Yba.underlying4
  a4 := Yba.isAgg4
  z4 := Yba.sizeOf4
  v4 := Yba.zeroValue4
  i4 := by kernel_rfl
  t5 := Yba.underlying5
  a5 := Yba.isAgg5
  z5 := Yba.sizeOf5
  v5 := Yba.zeroValue5
  i5 := by kernel_rfl
  t22 := Yba.underlying22
  a22 := Yba.isAgg22
  z22 := Yba.sizeOf22
  v22 := Yba.zeroValue22
  i22 := by kernel_rfl
  t33 := Yba.underlying29
  a33 := Yba.isAgg29
  z33 := Yba.sizeOf29
  v33 := Yba.zeroValue29
  i33 := by kernel_rfl
  t45 := Yba.underlying52
  a45 := Yba.isAgg52
  z45 := Yba.sizeOf52
  v45 := Yba.zeroValue52
  i45 := by kernel_rfl }
theorem Yba.binary_AppendUvarint (B n x : Nat) (hx : x < 18446744073709551616) (sv : Value) (xs : List Value) (w : World) (hown : w.ownsRow B 5 1 sv n xs) (hBw : B ≤ w.heap.size) (hlim : n + 10 ≤ 140737488355328) :
    Calls Yba.prog 10 #[sv, .int .u64 x] w fun e w' => ∃ v', e = .returned v' ∧ w'.ownsRow B 5 1 v' (n + (Lib.uvarint x).length) (xs ++ Lib.byteCells (Lib.uvarint x)) ∧ RowKit.Below B w w' := Any.binary_AppendUvarint Yba.laysVar47 B n x hx sv xs w hown hBw hlim

def Yba.laysVar45_ren : Go.Shelf.Ren := ⟨fun | 45 => 11 | n => n, fun | 22 => 22 | 33 => 29 | 3 => 3 | 45 => 52 | 0 => 0 | 5 => 5 | 4 => 4 | n => n, fun | n => n⟩
theorem Yba.laysVar45 : Go.Proofs.LaysBin.n45 Yba.prog Yba.laysVar45_ren := {
  mixed := by kernel_rfl
  f45 := Yba.func11.trans (congrArg some (by kernel_rfl))
  t0 := Yba.underlying0
  a0 := Yba.isAgg0
  z0 := Yba.sizeOf0
  v0 := Yba.zeroValue0
  i0 := by kernel_rfl
  t3 := Yba.underlying3
  a3 := Yba.isAgg3
  z3 := Yba.sizeOf3
  v3 := Yba.zeroValue3
  i3 := by kernel_rfl
  t4 := Yba.underlying4
  a4 := Yba.isAgg4
  z4 := Yba.sizeOf4
  v4 := Yba.zeroValue4
  i4 := by kernel_rfl
  t5 := Yba.underlying5
  a5 := Yba.isAgg5
  z5 := Yba.sizeOf5
  v5 := Yba.zeroValue5
  i5 := by kernel_rfl
  t22 := Yba.underlying22
  a22 := Yba.isAgg22
  z22 := Yba.sizeOf22
  v22 := Yba.zeroValue22
  i22 := by kernel_rfl
  t33 := Yba.underlying29
  a33 := Yba.isAgg29
  z33 := Yba.sizeOf29
  v33 := Yba.zeroValue29
  i33 := by kernel_rfl
  t45 := Yba.underlying52
  a45 := Yba.isAgg52
  z45 := Yba.sizeOf52
  v45 := Yba.zeroValue52
  i45 := by kernel_rfl }
theorem Yba.binary_Uvarint (g o n c : Nat) (l : List UInt8) (w : World) (hl : l.length = n) (hcell : ∀ j (hj : j < l.length), w.cell? ⟨g, o + j, none⟩ = some (.int .u8 (l[j]).toNat)) :
    Calls Yba.prog 11 #[.slice (some ⟨g, o, none⟩) n c] w fun e w' => e = .returned (.tuple #[.int .u64 (Lib.uvarintDec l).1, .int .i64 (Lib.uvarintDec l).2]) ∧ w' = w := Any.binary_Uvarint Yba.laysVar45 g o n c l w hl hcell

set_option maxHeartbeats 1000000 in
theorem Yba.bytes_Equal (v1 v2 : Value) (xs ys : List Int) (w : World)
    (h1 : (convert 22 9 v1).run Yba.prog w = .ok (.string (strOfNums xs)) w) (h2 : (convert 22 9 v2).run Yba.prog w = .ok (.string (strOfNums ys)) w) :
    Calls Yba.prog 9 #[v1, v2] w fun e w' => e = .returned (.bool (Lib.bytesOf xs == Lib.bytesOf ys)) ∧ w' = w := by
  rw [← Lib.strOfNums_toList, ← Lib.strOfNums_toList]
  go_enter Yba.func9, Yba.ntmps9
  go_wp2
  go_ret
  exact ⟨rfl, rfl⟩

end Go.Proofs
