/-
  THE TYPE SWITCHES' CLOSED FACTS: what 'x.(T)' gives for each dynamic type that the law's trees hold.
-/
import Derived.Test.YbulkaqBase
namespace Go.Proofs.Ybulkaq

@[go_sem] theorem ta_29_29 (v : Value) (w : World) : (Instr.typeAssert (.iface 29 v) 50 29 true).run Yba.prog w = .ok (.tuple #[v, .bool true]) w := by kernel_rfl
@[go_sem] theorem ta_29_115 (v : Value) (w : World) : (Instr.typeAssert (.iface 29 v) 50 115 true).run Yba.prog w = .ok (.tuple #[.pointer none, .bool false]) w := by kernel_rfl
@[go_sem] theorem ta_29_119 (v : Value) (w : World) : (Instr.typeAssert (.iface 29 v) 50 119 true).run Yba.prog w = .ok (.tuple #[.pointer none, .bool false]) w := by kernel_rfl
@[go_sem] theorem ta_29_123 (v : Value) (w : World) : (Instr.typeAssert (.iface 29 v) 50 123 true).run Yba.prog w = .ok (.tuple #[.pointer none, .bool false]) w := by kernel_rfl
@[go_sem] theorem ta_29_128 (v : Value) (w : World) : (Instr.typeAssert (.iface 29 v) 50 128 true).run Yba.prog w = .ok (.tuple #[.pointer none, .bool false]) w := by kernel_rfl
@[go_sem] theorem ta_29_132 (v : Value) (w : World) : (Instr.typeAssert (.iface 29 v) 50 132 true).run Yba.prog w = .ok (.tuple #[.pointer none, .bool false]) w := by kernel_rfl
@[go_sem] theorem ta_29_136 (v : Value) (w : World) : (Instr.typeAssert (.iface 29 v) 50 136 true).run Yba.prog w = .ok (.tuple #[.pointer none, .bool false]) w := by kernel_rfl
@[go_sem] theorem ta_29_96 (v : Value) (w : World) : (Instr.typeAssert (.iface 29 v) 50 96 true).run Yba.prog w = .ok (.tuple #[.pointer none, .bool false]) w := by kernel_rfl
@[go_sem] theorem ta_29_71 (v : Value) (w : World) : (Instr.typeAssert (.iface 29 v) 50 71 true).run Yba.prog w = .ok (.tuple #[.pointer none, .bool false]) w := by kernel_rfl
@[go_sem] theorem ta_29_144 (v : Value) (w : World) : (Instr.typeAssert (.iface 29 v) 50 144 true).run Yba.prog w = .ok (.tuple #[.pointer none, .bool false]) w := by kernel_rfl
@[go_sem] theorem ta_29_93 (v : Value) (w : World) : (Instr.typeAssert (.iface 29 v) 50 93 true).run Yba.prog w = .ok (.tuple #[.pointer none, .bool false]) w := by kernel_rfl
@[go_sem] theorem ta_29_149 (v : Value) (w : World) : (Instr.typeAssert (.iface 29 v) 50 149 true).run Yba.prog w = .ok (.tuple #[.pointer none, .bool false]) w := by kernel_rfl
@[go_sem] theorem ta_29_153 (v : Value) (w : World) : (Instr.typeAssert (.iface 29 v) 50 153 true).run Yba.prog w = .ok (.tuple #[.pointer none, .bool false]) w := by kernel_rfl
@[go_sem] theorem ta_29_157 (v : Value) (w : World) : (Instr.typeAssert (.iface 29 v) 50 157 true).run Yba.prog w = .ok (.tuple #[.pointer none, .bool false]) w := by kernel_rfl
@[go_sem] theorem ta_29_161 (v : Value) (w : World) : (Instr.typeAssert (.iface 29 v) 50 161 true).run Yba.prog w = .ok (.tuple #[.pointer none, .bool false]) w := by kernel_rfl
@[go_sem] theorem ta_29_165 (v : Value) (w : World) : (Instr.typeAssert (.iface 29 v) 50 165 true).run Yba.prog w = .ok (.tuple #[.pointer none, .bool false]) w := by kernel_rfl
@[go_sem] theorem ta_71_29 (v : Value) (w : World) : (Instr.typeAssert (.iface 71 v) 50 29 true).run Yba.prog w = .ok (.tuple #[.pointer none, .bool false]) w := by kernel_rfl
@[go_sem] theorem ta_71_115 (v : Value) (w : World) : (Instr.typeAssert (.iface 71 v) 50 115 true).run Yba.prog w = .ok (.tuple #[.pointer none, .bool false]) w := by kernel_rfl
@[go_sem] theorem ta_71_119 (v : Value) (w : World) : (Instr.typeAssert (.iface 71 v) 50 119 true).run Yba.prog w = .ok (.tuple #[.pointer none, .bool false]) w := by kernel_rfl
@[go_sem] theorem ta_71_123 (v : Value) (w : World) : (Instr.typeAssert (.iface 71 v) 50 123 true).run Yba.prog w = .ok (.tuple #[.pointer none, .bool false]) w := by kernel_rfl
@[go_sem] theorem ta_71_128 (v : Value) (w : World) : (Instr.typeAssert (.iface 71 v) 50 128 true).run Yba.prog w = .ok (.tuple #[.pointer none, .bool false]) w := by kernel_rfl
@[go_sem] theorem ta_71_132 (v : Value) (w : World) : (Instr.typeAssert (.iface 71 v) 50 132 true).run Yba.prog w = .ok (.tuple #[.pointer none, .bool false]) w := by kernel_rfl
@[go_sem] theorem ta_71_136 (v : Value) (w : World) : (Instr.typeAssert (.iface 71 v) 50 136 true).run Yba.prog w = .ok (.tuple #[.pointer none, .bool false]) w := by kernel_rfl
@[go_sem] theorem ta_71_96 (v : Value) (w : World) : (Instr.typeAssert (.iface 71 v) 50 96 true).run Yba.prog w = .ok (.tuple #[.pointer none, .bool false]) w := by kernel_rfl
@[go_sem] theorem ta_71_71 (v : Value) (w : World) : (Instr.typeAssert (.iface 71 v) 50 71 true).run Yba.prog w = .ok (.tuple #[v, .bool true]) w := by kernel_rfl
@[go_sem] theorem ta_71_144 (v : Value) (w : World) : (Instr.typeAssert (.iface 71 v) 50 144 true).run Yba.prog w = .ok (.tuple #[.pointer none, .bool false]) w := by kernel_rfl
@[go_sem] theorem ta_71_93 (v : Value) (w : World) : (Instr.typeAssert (.iface 71 v) 50 93 true).run Yba.prog w = .ok (.tuple #[.pointer none, .bool false]) w := by kernel_rfl
@[go_sem] theorem ta_71_149 (v : Value) (w : World) : (Instr.typeAssert (.iface 71 v) 50 149 true).run Yba.prog w = .ok (.tuple #[.pointer none, .bool false]) w := by kernel_rfl
@[go_sem] theorem ta_71_153 (v : Value) (w : World) : (Instr.typeAssert (.iface 71 v) 50 153 true).run Yba.prog w = .ok (.tuple #[.pointer none, .bool false]) w := by kernel_rfl
@[go_sem] theorem ta_71_157 (v : Value) (w : World) : (Instr.typeAssert (.iface 71 v) 50 157 true).run Yba.prog w = .ok (.tuple #[.pointer none, .bool false]) w := by kernel_rfl
@[go_sem] theorem ta_71_161 (v : Value) (w : World) : (Instr.typeAssert (.iface 71 v) 50 161 true).run Yba.prog w = .ok (.tuple #[.pointer none, .bool false]) w := by kernel_rfl
@[go_sem] theorem ta_71_165 (v : Value) (w : World) : (Instr.typeAssert (.iface 71 v) 50 165 true).run Yba.prog w = .ok (.tuple #[.pointer none, .bool false]) w := by kernel_rfl
@[go_sem] theorem ta_93_29 (v : Value) (w : World) : (Instr.typeAssert (.iface 93 v) 50 29 true).run Yba.prog w = .ok (.tuple #[.pointer none, .bool false]) w := by kernel_rfl
@[go_sem] theorem ta_93_115 (v : Value) (w : World) : (Instr.typeAssert (.iface 93 v) 50 115 true).run Yba.prog w = .ok (.tuple #[.pointer none, .bool false]) w := by kernel_rfl
@[go_sem] theorem ta_93_119 (v : Value) (w : World) : (Instr.typeAssert (.iface 93 v) 50 119 true).run Yba.prog w = .ok (.tuple #[.pointer none, .bool false]) w := by kernel_rfl
@[go_sem] theorem ta_93_123 (v : Value) (w : World) : (Instr.typeAssert (.iface 93 v) 50 123 true).run Yba.prog w = .ok (.tuple #[.pointer none, .bool false]) w := by kernel_rfl
@[go_sem] theorem ta_93_128 (v : Value) (w : World) : (Instr.typeAssert (.iface 93 v) 50 128 true).run Yba.prog w = .ok (.tuple #[.pointer none, .bool false]) w := by kernel_rfl
@[go_sem] theorem ta_93_132 (v : Value) (w : World) : (Instr.typeAssert (.iface 93 v) 50 132 true).run Yba.prog w = .ok (.tuple #[.pointer none, .bool false]) w := by kernel_rfl
@[go_sem] theorem ta_93_136 (v : Value) (w : World) : (Instr.typeAssert (.iface 93 v) 50 136 true).run Yba.prog w = .ok (.tuple #[.pointer none, .bool false]) w := by kernel_rfl
@[go_sem] theorem ta_93_96 (v : Value) (w : World) : (Instr.typeAssert (.iface 93 v) 50 96 true).run Yba.prog w = .ok (.tuple #[.pointer none, .bool false]) w := by kernel_rfl
@[go_sem] theorem ta_93_71 (v : Value) (w : World) : (Instr.typeAssert (.iface 93 v) 50 71 true).run Yba.prog w = .ok (.tuple #[.pointer none, .bool false]) w := by kernel_rfl
@[go_sem] theorem ta_93_144 (v : Value) (w : World) : (Instr.typeAssert (.iface 93 v) 50 144 true).run Yba.prog w = .ok (.tuple #[.pointer none, .bool false]) w := by kernel_rfl
@[go_sem] theorem ta_93_93 (v : Value) (w : World) : (Instr.typeAssert (.iface 93 v) 50 93 true).run Yba.prog w = .ok (.tuple #[v, .bool true]) w := by kernel_rfl
@[go_sem] theorem ta_93_149 (v : Value) (w : World) : (Instr.typeAssert (.iface 93 v) 50 149 true).run Yba.prog w = .ok (.tuple #[.pointer none, .bool false]) w := by kernel_rfl
@[go_sem] theorem ta_93_153 (v : Value) (w : World) : (Instr.typeAssert (.iface 93 v) 50 153 true).run Yba.prog w = .ok (.tuple #[.pointer none, .bool false]) w := by kernel_rfl
@[go_sem] theorem ta_93_157 (v : Value) (w : World) : (Instr.typeAssert (.iface 93 v) 50 157 true).run Yba.prog w = .ok (.tuple #[.pointer none, .bool false]) w := by kernel_rfl
@[go_sem] theorem ta_93_161 (v : Value) (w : World) : (Instr.typeAssert (.iface 93 v) 50 161 true).run Yba.prog w = .ok (.tuple #[.pointer none, .bool false]) w := by kernel_rfl
@[go_sem] theorem ta_93_165 (v : Value) (w : World) : (Instr.typeAssert (.iface 93 v) 50 165 true).run Yba.prog w = .ok (.tuple #[.pointer none, .bool false]) w := by kernel_rfl
@[go_sem] theorem ta_96_29 (v : Value) (w : World) : (Instr.typeAssert (.iface 96 v) 50 29 true).run Yba.prog w = .ok (.tuple #[.pointer none, .bool false]) w := by kernel_rfl
@[go_sem] theorem ta_96_115 (v : Value) (w : World) : (Instr.typeAssert (.iface 96 v) 50 115 true).run Yba.prog w = .ok (.tuple #[.pointer none, .bool false]) w := by kernel_rfl
@[go_sem] theorem ta_96_119 (v : Value) (w : World) : (Instr.typeAssert (.iface 96 v) 50 119 true).run Yba.prog w = .ok (.tuple #[.pointer none, .bool false]) w := by kernel_rfl
@[go_sem] theorem ta_96_123 (v : Value) (w : World) : (Instr.typeAssert (.iface 96 v) 50 123 true).run Yba.prog w = .ok (.tuple #[.pointer none, .bool false]) w := by kernel_rfl
@[go_sem] theorem ta_96_128 (v : Value) (w : World) : (Instr.typeAssert (.iface 96 v) 50 128 true).run Yba.prog w = .ok (.tuple #[.pointer none, .bool false]) w := by kernel_rfl
@[go_sem] theorem ta_96_132 (v : Value) (w : World) : (Instr.typeAssert (.iface 96 v) 50 132 true).run Yba.prog w = .ok (.tuple #[.pointer none, .bool false]) w := by kernel_rfl
@[go_sem] theorem ta_96_136 (v : Value) (w : World) : (Instr.typeAssert (.iface 96 v) 50 136 true).run Yba.prog w = .ok (.tuple #[.pointer none, .bool false]) w := by kernel_rfl
@[go_sem] theorem ta_96_96 (v : Value) (w : World) : (Instr.typeAssert (.iface 96 v) 50 96 true).run Yba.prog w = .ok (.tuple #[v, .bool true]) w := by kernel_rfl
@[go_sem] theorem ta_96_71 (v : Value) (w : World) : (Instr.typeAssert (.iface 96 v) 50 71 true).run Yba.prog w = .ok (.tuple #[.pointer none, .bool false]) w := by kernel_rfl
@[go_sem] theorem ta_96_144 (v : Value) (w : World) : (Instr.typeAssert (.iface 96 v) 50 144 true).run Yba.prog w = .ok (.tuple #[.pointer none, .bool false]) w := by kernel_rfl
@[go_sem] theorem ta_96_93 (v : Value) (w : World) : (Instr.typeAssert (.iface 96 v) 50 93 true).run Yba.prog w = .ok (.tuple #[.pointer none, .bool false]) w := by kernel_rfl
@[go_sem] theorem ta_96_149 (v : Value) (w : World) : (Instr.typeAssert (.iface 96 v) 50 149 true).run Yba.prog w = .ok (.tuple #[.pointer none, .bool false]) w := by kernel_rfl
@[go_sem] theorem ta_96_153 (v : Value) (w : World) : (Instr.typeAssert (.iface 96 v) 50 153 true).run Yba.prog w = .ok (.tuple #[.pointer none, .bool false]) w := by kernel_rfl
@[go_sem] theorem ta_96_157 (v : Value) (w : World) : (Instr.typeAssert (.iface 96 v) 50 157 true).run Yba.prog w = .ok (.tuple #[.pointer none, .bool false]) w := by kernel_rfl
@[go_sem] theorem ta_96_161 (v : Value) (w : World) : (Instr.typeAssert (.iface 96 v) 50 161 true).run Yba.prog w = .ok (.tuple #[.pointer none, .bool false]) w := by kernel_rfl
@[go_sem] theorem ta_96_165 (v : Value) (w : World) : (Instr.typeAssert (.iface 96 v) 50 165 true).run Yba.prog w = .ok (.tuple #[.pointer none, .bool false]) w := by kernel_rfl
@[go_sem] theorem ta_63 (v : Value) (w : World) : (Instr.typeAssert (.iface 63 v) 80 63 true).run Yba.prog w = .ok (.tuple #[v, .bool true]) w := by kernel_rfl

end Go.Proofs.Ybulkaq
