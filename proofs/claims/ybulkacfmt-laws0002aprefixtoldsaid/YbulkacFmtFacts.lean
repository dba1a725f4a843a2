/-
  THE CLOSED FACTS FOR A WALK OVER fmt's STOPPED FRONT fmt.Sprintf IN THIS PROGRAM, and the two texts that it gives.
-/
import Derived.Test.YbulkacFmtCards
import Derived.Stop.CallBack
import Derived.Stop.IfaceNil
import Derived.Stop.JoinedTold
import Derived.Stop.Texts
import Derived.Stop.FmtTextKit
import Derived.Stop.FmtTextVerbs
import Derived.Lib.AppendStr
import Derived.Lib.UnsafeStr
import GoSem.ClaimData
namespace Go.Proofs.YbulkacFmt
open Go.Extern.Stop Go.Stop Go.Extern Go.Kit

theorem call10 (args : Array Value) (w : World) : (callFunc 10 args).run Ybaf.prog w = ((FmtStop.sprintf #[9, 32] #[9] args).run Ybaf.prog w).andThen fun v w' => .ok (.value v) w' :=
  run_callFunc_extern Ybaf.func10 (by kernel_rfl) (by kernel_rfl) (by kernel_rfl) (by kernel_rfl) args w

theorem guardFree (name : String) (w : World) : (FmtStop.guard name).run Ybaf.prog w = .ok () w := by kernel_rfl

/-- The format "a=%s\r\n", one operand. -/
def fmtOne : List UInt8 := [97, 61, 37, 115, 13, 10]
/-- The format "a=%s:%s\r\n", two operands. -/
def fmtTwo : List UInt8 := [97, 61, 37, 115, 58, 37, 115, 13, 10]

theorem one1 : FmtStop.printed? ⟨#[97, 61, 37, 115, 13, 10]⟩ 1 = some [(0, 115, false)] := by kernel_rfl
theorem one1r (w : World) : (FmtDoors.printed ⟨#[97, 61, 37, 115, 13, 10]⟩ 1).run Ybaf.prog w = .ok [(0, 115, false)] w := by kernel_rfl
theorem two2 : FmtStop.printed? ⟨#[97, 61, 37, 115, 58, 37, 115, 13, 10]⟩ 2 = some [(0, 115, false), (1, 115, false)] := by kernel_rfl
theorem two2r (w : World) : (FmtDoors.printed ⟨#[97, 61, 37, 115, 58, 37, 115, 13, 10]⟩ 2).run Ybaf.prog w = .ok [(0, 115, false), (1, 115, false)] w := by kernel_rfl

/-- How a string is told to fmt's text. -/
def shape9 : List UInt8 := [12, 6, 0, 0, 0, 0, 0, 0, 0, 115, 116, 114, 105, 110, 103]
theorem op9 (name : String) (x : ByteArray) (w : World) : (FmtStop.operand name false 115 false (.iface 9 (.string x))).run Ybaf.prog w = .ok (shape9, FmtStop.pack x.data.toList) w := by kernel_rfl

/-- WHAT fmt IS ASKED: one operand; two. -/
def readOne (a : List UInt8) : List (List UInt8) := [[97, 61, 37, 115, 13, 10], shape9, FmtStop.pack a]
def readTwo (a b : List UInt8) : List (List UInt8) := [[97, 61, 37, 115, 58, 37, 115, 13, 10], shape9, FmtStop.pack a, shape9, FmtStop.pack b]

/-- THE TEXTS. -/
def textOne (a : List UInt8) : List UInt8 := [97, 61] ++ a ++ [13, 10]
def textTwo (a b : List UInt8) : List UInt8 := [97, 61] ++ a ++ [58] ++ b ++ [13, 10]

theorem parseOne : (FmtText.parse [97, 61, 37, 115, 13, 10]).map FmtText.glue = some [.lit [97, 61], .verb {} 115, .lit [13, 10]] := by rfl
theorem parseTwo : (FmtText.parse [97, 61, 37, 115, 58, 37, 115, 13, 10]).map FmtText.glue = some [.lit [97, 61], .verb {} 115, .lit [58], .verb {} 115, .lit [13, 10]] := by rfl

theorem saidOne (a : List UInt8) (ha : a.length < 2 ^ 64) : FmtText.text "fmt.Sprintf" (readOne a) = some (textOne a) := by
  have h := FmtText.operand_str_at (sh := shape9) rfl rfl a ha
  rw [readOne, FmtText.text_sprintf_glued parseOne (FmtText.operands_cons h FmtText.operands_nil)]
  simp [FmtText.render, FmtText.printArg_s_str, textOne]

theorem saidTwo (a b : List UInt8) (ha : a.length < 2 ^ 64) (hb : b.length < 2 ^ 64) : FmtText.text "fmt.Sprintf" (readTwo a b) = some (textTwo a b) := by
  have h := FmtText.operand_str_at (sh := shape9) rfl rfl a ha
  have h' := FmtText.operand_str_at (sh := shape9) rfl rfl b hb
  rw [readTwo, FmtText.text_sprintf_glued parseTwo (FmtText.operands_cons h (FmtText.operands_cons h' FmtText.operands_nil))]
  simp [FmtText.render, FmtText.printArg_s_str, textTwo]

/-- The string that comes back, as cells. -/
theorem cellsOne (F : Interp) (a : List UInt8) (ha : a.length ≤ 4096) : Lib.strCells (FmtStop.textOf (F.told "fmt.Sprintf" (readOne a) 0)) = Lib.byteCells (textOne a) := by
  have h := told_string F (saidOne a (by omega)) (by simp [textOne]; omega)
  show Lib.byteCells (FmtStop.textOf (F.told "fmt.Sprintf" (readOne a) 0)).data.toList = _
  rw [textOf_list, h]

theorem cellsTwo (F : Interp) (a b : List UInt8) (ha : a.length ≤ 4096) (hb : b.length ≤ 4096) : Lib.strCells (FmtStop.textOf (F.told "fmt.Sprintf" (readTwo a b) 0)) = Lib.byteCells (textTwo a b) := by
  have h := told_string F (saidTwo a b (by omega) (by omega)) (by simp [textTwo]; omega)
  show Lib.byteCells (FmtStop.textOf (F.told "fmt.Sprintf" (readTwo a b) 0)).data.toList = _
  rw [textOf_list, h]

theorem sizeOne (F : Interp) (a : List UInt8) (ha : a.length ≤ 4096) : (FmtStop.textOf (F.told "fmt.Sprintf" (readOne a) 0)).size = (textOne a).length := by
  have h := congrArg List.length (cellsOne F a ha)
  rwa [Lib.strCells_length, Lib.byteCells_length] at h

theorem sizeTwo (F : Interp) (a b : List UInt8) (ha : a.length ≤ 4096) (hb : b.length ≤ 4096) : (FmtStop.textOf (F.told "fmt.Sprintf" (readTwo a b) 0)).size = (textTwo a b).length := by
  have h := congrArg List.length (cellsTwo F a b ha hb)
  rwa [Lib.strCells_length, Lib.byteCells_length] at h

end Go.Proofs.YbulkacFmt
