/-
  'appendAttributes' BY A CONTRACT OF ITS OWN: onto a slice that the call owns, each attribute's line.
-/
import Derived.Test.YbulkacFmtBig
namespace Go.Proofs.YbulkacFmt
open Go.RowKit Go.Extern.Stop Go.Stop Go.Extern Go.Kit

/-- The line of one attribute. -/
def line (n v : ByteArray) : List UInt8 := if v.toList.isEmpty then textOne n.data.toList else textTwo n.data.toList v.data.toList
/-- The lines of the first k attributes. -/
def lines (N V : Nat → ByteArray) : Nat → List UInt8
  | 0 => []
  | k + 1 => lines N V k ++ line (N k) (V k)

theorem line_length {n v : ByteArray} (hn : n.size ≤ 4096) (hv : v.size ≤ 4096) : (line n v).length ≤ 8197 ∧ 1 ≤ (line n v).length := by
  have h1 : n.data.size = n.size := rfl
  have h2 : v.data.size = v.size := rfl
  unfold line
  split
  · simp [textOne]; omega
  · simp [textTwo]; omega

theorem lines_length {N V : Nat → ByteArray} {len : Nat} (hs : Small len N V) : ∀ k, k ≤ len → (lines N V k).length ≤ k * 8197
  | 0, _ => by simp [lines]
  | k + 1, h => by
    have h1 := lines_length hs k (by omega)
    have h2 := line_length (hs k (by omega)).1 (hs k (by omega)).2
    simp only [lines, List.length_append]
    omega

theorem Own.alloc {w : World} {B : Nat} {v : Value} {l : List UInt8} (h : Own w B v l) (o : Obj) : Own (w.alloc o) B v l := World.ownsRow.alloc h o

theorem line_one {n v : ByteArray} (h : v.toList.isEmpty = true) : line n v = textOne n.data.toList := by rw [line, if_pos h]
theorem line_two {n v : ByteArray} (h : ¬ v.toList.isEmpty = true) : line n v = textTwo n.data.toList v.data.toList := by rw [line, if_neg h]

set_option maxHeartbeats 400000 in
theorem attrs_any (F : Interp) (B : Nat) (sv : Value) (l : List UInt8) (a : Option Addr) (len cap : Nat) (N V : Nat → ByteArray) (w0 w : World) (hF : F.told.answers w.tape)
    (hown : Own w B sv l) (hB : B ≤ w.heap.size) (hat : Attrs w0 a len N V) (hb0 : Below w0.heap.size w0 w) (hB0 : w0.heap.size ≤ B) (hlen : len ≤ 256) (hs : Small len N V) (hl : l.length ≤ 1024) :
    Calls Ybaf.prog 8 #[sv, .slice a len cap] w fun e w' => ∃ v', e = .returned v' ∧ Own w' B v' (l ++ lines N V len) ∧ Below B w w' := by
  go_enter Ybaf.func8, Ybaf.ntmps8
  go_wp2
  go_loopw [0, 9] (fun b i wr => ∃ k : Nat, k ≤ len ∧ i = .int .i64 k ∧ Own wr B b (l ++ lines N V k) ∧ Below B w wr) (fun _ i _ => len - (intOf i).toNat)
  case atStart => exact ⟨0, by omega, rfl, by simpa [lines] using hown, Below.refl _ _⟩
  case round =>
    obtain ⟨k, hk, rfl, hown1, hbr⟩ := hrel
    by_cases hlt : k < len
    · obtain ⟨b, off, rfl, h1, h2⟩ := hat k hlt
      obtain ⟨s1, s2⟩ := hs k hlt
      have hll := lines_length hs k hk
      have hbw : Below w0.heap.size w0 wr := hb0.trans (hbr.mono hB0)
      have c1 := cell_later hbw h1
      have c2 := cell_later hbw h2
      have hln : Hid (lines N V (k + 1) = lines N V k ++ line (N k) (V k)) := rfl
      clear h1 h2
      generalize N k = nm at *
      generalize V k = vl at *
      have hFr : F.told.answers wr.tape := by rw [hbr.tape]; exact hF
      have hBr : B ≤ wr.heap.size := Nat.le_trans hB hbr.size
      by_cases hv : vl.toList.isEmpty = true
      · have hv1 := hv
        go_wp2_with (first | (go_at_call 9; refine (appendf_one F B (wr.heap.size + 1) _ (l ++ lines N V k) nm _ ?_ ?_ ?_ ?_ ?_ ?_).mono ?_; rotate_right; rintro e w1 ⟨v1, rfl, hown2, hb1⟩) | fail)
        · have hown3 : Own w1 B v1 (l ++ lines N V (k + 1)) := by rw [hln.out, line_one hv, ← List.append_assoc]; exact hown2
          have hb2 : Below B w w1 := ((hbr.alloc (by omega) _).alloc (by simp; omega) _).trans hb1
          clear hown2 hb1
          go_wp2
          go_roundw
          case rel => exact ⟨k + 1, by omega, by go_num, hown3, hb2⟩
          case measure => simp [intOf]; omega
        · exact hFr
        · exact (hown1.alloc _).alloc _
        · simp; omega
        · exact World.cell?_alloc_at _ _ _ _ (by simp)
        · rw [List.length_append]; omega
        · exact s1
      · have hv' : vl.toList.isEmpty = false := by simpa using hv
        go_wp2_with (first | (go_at_call 9; refine (appendf_two F B (wr.heap.size + 1) _ (l ++ lines N V k) nm vl _ ?_ ?_ ?_ ?_ ?_ ?_ ?_ ?_).mono ?_; rotate_right; rintro e w1 ⟨v1, rfl, hown2, hb1⟩) | fail)
        · have hown3 : Own w1 B v1 (l ++ lines N V (k + 1)) := by rw [hln.out, line_two hv, ← List.append_assoc]; exact hown2
          have hb2 : Below B w w1 := ((hbr.alloc (by omega) _).alloc (by simp; omega) _).trans hb1
          clear hown2 hb1
          go_wp2
          go_roundw
          case rel => exact ⟨k + 1, by omega, by go_num, hown3, hb2⟩
          case measure => simp [intOf]; omega
        · exact hFr
        · exact (hown1.alloc _).alloc _
        · simp; omega
        · exact World.cell?_alloc_at _ _ _ _ (by simp)
        · exact World.cell?_alloc_at _ _ _ _ (by simp)
        · rw [List.length_append]; omega
        · exact s1
        · exact s2
    · obtain rfl : k = len := by omega
      go_wp2
      go_ret
      exact ⟨_, rfl, hown1, hbr⟩

end Go.Proofs.YbulkacFmt
