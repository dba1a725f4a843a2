/-
  'fmt.Appendf' (Go's own body, which calls the stopped fmt.Sprintf) BY TWO CONTRACTS: one operand, two operands; onto a slice that the call owns.
-/
import Derived.Test.YbulkacFmtFacts
import Derived.WalkKit
import Derived.WalkSpells
import Derived.WalkLawsBesides
namespace Go.Proofs.YbulkacFmt
open Go.RowKit Go.Extern.Stop Go.Stop Go.Extern Go.Kit

attribute [local go_sem] call10 guardFree one1 one1r two2 two2r op9

theorem info5 : (Ybaf.prog.info? 5).map (fun i => (i.zero, i.size, i.bytes)) = some (some (.int .u8 0), 1, 1) := by kernel_rfl

/-- v owns the bytes l, among blocks from B on. -/
def Own (w : World) (B : Nat) (v : Value) (l : List UInt8) : Prop := w.ownsRow B 5 1 v l.length (Lib.byteCells l)

theorem byteCells_append (a b : List UInt8) : Lib.byteCells (a ++ b) = Lib.byteCells a ++ Lib.byteCells b := by simp [Lib.byteCells]

set_option maxHeartbeats 400000 in
theorem appendf_one (F : Interp) (B k : Nat) (sv : Value) (l : List UInt8) (nm : ByteArray) (w : World) (hF : F.told.answers w.tape) (hown : Own w B sv l) (hB : B ≤ w.heap.size)
    (hk : w.cell? ⟨k, 0, none⟩ = some (.iface 9 (.string nm))) (hl : l.length ≤ 100000000) (hnm : nm.data.toList.length ≤ 4096) :
    Calls Ybaf.prog 9 #[sv, .string ⟨#[97, 61, 37, 115, 13, 10]⟩, .slice (some ⟨k, 0, none⟩) 1 1] w fun e w' => ∃ v', e = .returned v' ∧ Own w' B v' (l ++ textOne nm.data.toList) ∧ Below B w w' := by
  have hF' := answers_open hF
  obtain ⟨i0, hi, hz0, hz1, hz2⟩ := info_parts info5
  have hsz : Hid (_ = (textOne nm.data.toList).length) := sizeOne F nm.data.toList hnm
  have hcs : Hid (_ = Lib.byteCells (textOne nm.data.toList)) := cellsOne F nm.data.toList hnm
  have hlen : (textOne nm.data.toList).length ≤ 10000 := by simp [textOne]; simp at hnm; omega
  go_enter Ybaf.func9, Ybaf.ntmps9
  go_wp2_with (first | (at_builtin; refine Lib.wpList_append_own_string _ rfl (.tmp 11) (.tmp 12) 22 9 rfl B 5 i0 Ybaf.underlying22 Ybaf.underlying9 hi hz0 hz1 hz2 sv l.length (Lib.byteCells l) rfl ?c0 _ rfl ?c1 ?c2 ?c3 ?_) | fail)
  case c0 => exact hown
  case c1 => have h := hsz.out; unfold readOne at h; rw [h]; unfold maxLen; omega
  case c2 => have h := hsz.out; unfold readOne at h; rw [h]; omega
  case c3 => exact hB
  intro v' w1 hown' hgrow _
  have hb1 : Below B w w1 := (Below.refl B w).drew.grown hgrow hB (fun k hk => (hown.lt k hk).1)
  have hown2 : Own w1 B v' (l ++ textOne nm.data.toList) := by
    have h := hsz.out
    have h2 := hcs.out
    unfold readOne at h h2
    rw [h, h2] at hown'
    unfold Own
    rw [List.length_append, byteCells_append]
    exact hown'
  clear hown' hgrow
  go_wp2
  go_ret
  exact ⟨v', rfl, hown2, hb1⟩

set_option maxHeartbeats 400000 in
theorem appendf_two (F : Interp) (B k : Nat) (sv : Value) (l : List UInt8) (nm vl : ByteArray) (w : World) (hF : F.told.answers w.tape) (hown : Own w B sv l) (hB : B ≤ w.heap.size)
    (hk : w.cell? ⟨k, 0, none⟩ = some (.iface 9 (.string nm))) (hk1 : w.cell? ⟨k, 1, none⟩ = some (.iface 9 (.string vl))) (hl : l.length ≤ 100000000) (hnm : nm.data.toList.length ≤ 4096) (hvl : vl.data.toList.length ≤ 4096) :
    Calls Ybaf.prog 9 #[sv, .string ⟨#[97, 61, 37, 115, 58, 37, 115, 13, 10]⟩, .slice (some ⟨k, 0, none⟩) 2 2] w fun e w' => ∃ v', e = .returned v' ∧ Own w' B v' (l ++ textTwo nm.data.toList vl.data.toList) ∧ Below B w w' := by
  have hF' := answers_open hF
  obtain ⟨i0, hi, hz0, hz1, hz2⟩ := info_parts info5
  have hsz : Hid (_ = (textTwo nm.data.toList vl.data.toList).length) := sizeTwo F nm.data.toList vl.data.toList hnm hvl
  have hcs : Hid (_ = Lib.byteCells (textTwo nm.data.toList vl.data.toList)) := cellsTwo F nm.data.toList vl.data.toList hnm hvl
  have hlen : (textTwo nm.data.toList vl.data.toList).length ≤ 10000 := by simp [textTwo]; simp at hnm hvl; omega
  go_enter Ybaf.func9, Ybaf.ntmps9
  go_wp2_with (first | (at_builtin; refine Lib.wpList_append_own_string _ rfl (.tmp 11) (.tmp 12) 22 9 rfl B 5 i0 Ybaf.underlying22 Ybaf.underlying9 hi hz0 hz1 hz2 sv l.length (Lib.byteCells l) rfl ?c0 _ rfl ?c1 ?c2 ?c3 ?_) | fail)
  case c0 => exact hown
  case c1 => have h := hsz.out; unfold readTwo at h; rw [h]; unfold maxLen; omega
  case c2 => have h := hsz.out; unfold readTwo at h; rw [h]; omega
  case c3 => exact hB
  intro v' w1 hown' hgrow _
  have hb1 : Below B w w1 := (Below.refl B w).drew.grown hgrow hB (fun k hk => (hown.lt k hk).1)
  have hown2 : Own w1 B v' (l ++ textTwo nm.data.toList vl.data.toList) := by
    have h := hsz.out
    have h2 := hcs.out
    unfold readTwo at h h2
    rw [h, h2] at hown'
    unfold Own
    rw [List.length_append, byteCells_append]
    exact hown'
  clear hown' hgrow
  go_wp2
  go_ret
  exact ⟨v', rfl, hown2, hb1⟩

end Go.Proofs.YbulkacFmt
