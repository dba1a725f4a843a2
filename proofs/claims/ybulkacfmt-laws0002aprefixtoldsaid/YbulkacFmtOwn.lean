/-
  WHAT 'string(..)' GIVES of a slice that the call owns, and of the slice that came in; an owned row in a later world.
-/
import Derived.Test.YbulkacFmtAttrs
namespace Go.Proofs.YbulkacFmt
open Go.RowKit

/-- A list of bytes as a Go string. -/
def str (l : List UInt8) : ByteArray := ⟨l.toArray⟩

theorem strOfNums_str (l : List UInt8) : strOfNums (l.map fun b => (b.toNat : Int)) = str l := by
  unfold strOfNums str
  congr 1
  rw [List.map_map]
  have : ((fun n : Int => UInt8.ofNat n.toNat) ∘ fun b : UInt8 => (b.toNat : Int)) = id := by
    funext b
    simp
  rw [this, List.map_id]

theorem Own.later {w w' : World} {B : Nat} {v : Value} {l : List UInt8} (h : Own w B v l) (hb : Below w.heap.size w w') : Own w' B v l := by
  have hlt := h.lt
  obtain ⟨hl, h⟩ := h
  refine ⟨hl, ?_⟩
  rcases h with h | ⟨g, cap, cur, rfl, hg, hh, h1, h2, h3, h4⟩
  · exact .inl h
  · exact .inr ⟨g, cap, cur, rfl, hg, by rw [hb.block g (hlt g rfl).2]; exact hh, h1, h2, h3, h4⟩

/-- The value's form: a slice of l.length elements; its cells, where there is one. -/
theorem Own.form {w : World} {B : Nat} {v : Value} {l : List UInt8} (h : Own w B v l) :
    ∃ ao c, v = .slice ao l.length c ∧ l.length ≤ c ∧ c ≤ maxLen ∧ ((ao = none ∧ l = [] ∧ c = 0) ∨ ∃ g, ao = some ⟨g, 0, none⟩ ∧ g < w.heap.size ∧ ∀ j (hj : j < l.length), w.cell? ⟨g, j, none⟩ = some (.int .u8 (l[j]).toNat)) := by
  have hlt := h.lt
  have hcs := h
  obtain ⟨_, h⟩ := h
  rcases h with ⟨rfl, h0⟩ | ⟨g, cap, cur, rfl, hg, hh, h1, h2, h3, h4⟩
  · obtain rfl : l = [] := List.eq_nil_of_length_eq_zero h0
    exact ⟨none, 0, rfl, by simp, by simp, .inl ⟨rfl, rfl, rfl⟩⟩
  · refine ⟨_, cap, rfl, h1, h2, .inr ⟨g, rfl, (hlt g rfl).2, fun j hj => ?_⟩⟩
    have := World.ownsRow.cellAt hcs j (by omega)
    rw [this]
    simp [Lib.byteCells, hj]

/-- 'string(v[:k])' in a world in which the row's cells read as they did. -/
theorem conv_cells {w' : World} {ao : Option Addr} {l : List UInt8} {c k : Nat} (hk : k ≤ l.length)
    (h : (ao = none ∧ l = []) ∨ ∃ g, ao = some ⟨g, 0, none⟩ ∧ ∀ j (hj : j < l.length), w'.cell? ⟨g, j, none⟩ = some (.int .u8 (l[j]).toNat)) :
    (convert 22 9 (.slice ao k c)).run Ybaf.prog w' = .ok (.string (str (l.take k))) w' := by
  rcases h with ⟨rfl, rfl⟩ | ⟨g, rfl, hc⟩
  · obtain rfl : k = 0 := by simpa using hk
    have := run_convert_bytes_nil (P := Ybaf.prog) w' 22 5 Ybaf.underlying22 Ybaf.underlying5 0 c 9 Ybaf.underlying9
    rw [this]; rfl
  · rw [← strOfNums_str]
    refine run_convert_bytes_arg w' 22 5 Ybaf.underlying22 Ybaf.underlying5 g 0 k c _ (by rw [List.length_map, List.length_take]; omega) (fun i hi => ?_) 9 Ybaf.underlying9
    rw [Nat.zero_add, hc i (by omega)]
    have hil : i < l.length := by omega
    simp [List.getD, List.getElem?_take_of_lt hi, hil]

theorem Own.conv {w : World} {B : Nat} {v : Value} {l : List UInt8} (h : Own w B v l) : (convert 22 9 v).run Ybaf.prog w = .ok (.string (str l)) w := by
  obtain ⟨ao, c, rfl, _, _, h⟩ := h.form
  have := conv_cells (w' := w) (ao := ao) (l := l) (c := c) (k := l.length) (Nat.le_refl _) (by
    rcases h with ⟨h1, h2, _⟩ | ⟨g, h1, _, h2⟩
    · exact .inl ⟨h1, h2⟩
    · exact .inr ⟨g, h1, h2⟩)
  rwa [List.take_length] at this

/-- 'string(b)', b the slice that came in. -/
theorem conv_row {w w' : World} {a : Option Addr} {len cap : Nat} {zs : List Int} (h : IsRow .u8 w a len cap zs) (hb : Below w.heap.size w w') :
    (convert 22 9 (.slice a len cap)).run Ybaf.prog w' = .ok (.string (str (bytesIn zs len))) w' := by
  rcases h with ⟨rfl, rfl, rfl, rfl⟩ | ⟨x, rfl, hl, _, hz, hc, hwf⟩
  · have := run_convert_bytes_nil (P := Ybaf.prog) w' 22 5 Ybaf.underlying22 Ybaf.underlying5 0 0 9 Ybaf.underlying9
    rw [this]; rfl
  · have e : (bytesIn zs len).map (fun b => (b.toNat : Int)) = zs.take len := by
      unfold bytesIn
      rw [List.map_map]
      conv => rhs; rw [← List.map_id (zs.take len)]
      refine List.map_congr_left fun z hz => ?_
      have := bounds_u8 (hwf z (List.mem_of_mem_take hz))
      simp only [Function.comp, id]
      exact byte_back this.1 this.2
    rw [← strOfNums_str, e, run_convert_bytes_string w' 22 9 5 _ len cap Ybaf.underlying22 Ybaf.underlying5 Ybaf.underlying9]
    have hl' : (loadCells x len).run Ybaf.prog w' = .ok ((zs.take len).map (Value.int .u8)).toArray w' := by
      have := run_loadCells_list (P := Ybaf.prog) w' x ((zs.take len).map (Value.int .u8)) (fun j v hj => by
        rw [← cells_in hwf] at hj
        exact cell_later hb (row_cells hl hz hc hwf j v hj))
      simpa [List.length_take, Nat.min_eq_left (show len ≤ zs.length by omega)] using this
    rw [run_bytesToString w' _ len cap (zs.take len) hl', foldl_push_bytes]
    simp [strOfNums, ByteArray.empty, ByteArray.emptyWithCapacity]
    rfl

end Go.Proofs.YbulkacFmt
