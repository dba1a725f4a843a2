/-
  'zzs0002abig' and 'zzs0002acopy' BY CONTRACTS OF THEIR OWN; what the walks are told of the two arguments.
-/
import Derived.Test.YbulkacFmtAppendf
import Derived.Laws.CopyOwn
import Derived.OpenShut
namespace Go.Proofs.YbulkacFmt
open Go.RowKit

/-- WHAT THE WALK IS TOLD OF A SLICE OF INTEGERS THAT CAME IN: it is nil; or it leads to a row of 'cap' cells, the numbers 'zs' (the first 'len' are its elements, the rest its spare room), each fitting its kind. -/
def IsRow (k : IntKind) (w : World) (a : Option Addr) (len cap : Nat) (zs : List Int) : Prop :=
  (a = none ∧ len = 0 ∧ cap = 0 ∧ zs = []) ∨
  ∃ x, a = some x ∧ len ≤ cap ∧ cap ≤ maxLen ∧ zs.length = cap ∧ (∀ i, i < zs.length → w.cell? (x.add i) = some (.int k (zs.getD i 0))) ∧ ∀ n ∈ zs, (Lit.int k n).wf = true

/-- OF A SLICE OF ATTRIBUTES THAT CAME IN: nil; or 'len' elements at least lie there: element i's two strings are 'N i', 'V i'. -/
def IsAttrs (w : World) (a : Option Addr) (len cap : Nat) (N V : Nat → ByteArray) : Prop :=
  (a = none ∧ len = 0 ∧ cap = 0) ∨
  ∃ x, a = some x ∧ len ≤ cap ∧ cap ≤ maxLen ∧ ∀ i, i < len → w.cell? (x.add (i * 2)) = some (.string (N i)) ∧ w.cell? (x.add (i * 2 + 1)) = some (.string (V i))

/-- The same, element by element. -/
def Attrs (w : World) (ao : Option Addr) (n : Nat) (N V : Nat → ByteArray) : Prop :=
  ∀ j, j < n → ∃ b off, ao = some ⟨b, off, none⟩ ∧ w.cell? ⟨b, off + j * 2, none⟩ = some (.string (N j)) ∧ w.cell? ⟨b, off + j * 2 + 1, none⟩ = some (.string (V j))

theorem attrs_of {w : World} {a : Option Addr} {len cap : Nat} {N V : Nat → ByteArray} (h : IsAttrs w a len cap N V) : Attrs w a len N V := by
  intro j hj
  rcases h with ⟨_, rfl, _⟩ | ⟨x, rfl, hl, hm, hc⟩
  · omega
  · obtain ⟨h1, h2⟩ := hc j hj
    obtain ⟨b, off, spot⟩ := x
    have hs : spot = none := by simpa [Addr.add] using World.cell?_spot (hc 0 (by omega)).1
    subst hs
    have e : ∀ i, (⟨b, off, none⟩ : Addr).add i = ⟨b, off + i, none⟩ := fun i => by simp [Addr.add]
    rw [e] at h1 h2
    exact ⟨b, off, rfl, h1, h2⟩

theorem Attrs.later {w w' : World} {ao : Option Addr} {n : Nat} {N V : Nat → ByteArray} (h : Attrs w ao n N V) (hb : Below w.heap.size w w') : Attrs w' ao n N V := by
  intro j hj
  obtain ⟨b, off, rfl, h1, h2⟩ := h j hj
  exact ⟨b, off, rfl, cell_later hb h1, cell_later hb h2⟩

/-- None of the first n attributes is big. -/
def Small (n : Nat) (N V : Nat → ByteArray) : Prop := ∀ j, j < n → (N j).size ≤ 4096 ∧ (V j).size ≤ 4096

set_option maxHeartbeats 400000 in
theorem big_no (a : Option Addr) (len cap : Nat) (N V : Nat → ByteArray) (w : World) (h : Attrs w a len N V) (hlen : len ≤ 256) (hs : Small len N V) :
    Calls Ybaf.prog 6 #[.slice a len cap] w fun e w' => e = .returned (.bool false) ∧ w = w' := by
  go_enter Ybaf.func6, Ybaf.ntmps6
  go_wp2
  go_loop [3] (fun i => ∃ k : Nat, k ≤ len ∧ i = .int .i64 k) (fun i => len - (intOf i).toNat)
  case atStart => exact ⟨0, by omega, rfl⟩
  case round =>
    obtain ⟨k, hk, rfl⟩ := hrel
    by_cases hlt : k < len
    · obtain ⟨b, off, rfl, h1, h2⟩ := h k hlt
      obtain ⟨s1, s2⟩ := hs k hlt
      have s1' : ¬ (4096 : Int) < (N k).size := by omega
      have s2' : ¬ (4096 : Int) < (V k).size := by omega
      go_wp2
      go_round
      case rel => exact ⟨k + 1, by omega, by go_num⟩
      case measure => simp [intOf]; omega
    · go_wp2
      go_ret
      exact ⟨rfl, rfl⟩

set_option maxHeartbeats 400000 in
theorem big_yes (a : Option Addr) (len cap : Nat) (N V : Nat → ByteArray) (w : World) (h : Attrs w a len N V) (hbig : ¬ (len ≤ 256 ∧ Small len N V)) :
    Calls Ybaf.prog 6 #[.slice a len cap] w fun e w' => e = .returned (.bool true) ∧ w = w' := by
  by_cases hlen : len ≤ 256
  · have hns : ¬ Small len N V := fun h => hbig ⟨hlen, h⟩
    clear hbig
    go_enter Ybaf.func6, Ybaf.ntmps6
    go_wp2
    go_loop [3] (fun i => ∃ k : Nat, k ≤ len ∧ i = .int .i64 k ∧ Small k N V) (fun i => len - (intOf i).toNat)
    case atStart => exact ⟨0, by omega, rfl, fun j hj => by omega⟩
    case round =>
      obtain ⟨k, hk, rfl, hsm⟩ := hrel
      by_cases hlt : k < len
      · obtain ⟨b, off, rfl, h1, h2⟩ := h k hlt
        by_cases s1 : (N k).size ≤ 4096
        · by_cases s2 : (V k).size ≤ 4096
          · have s1' : ¬ (4096 : Int) < (N k).size := by omega
            have s2' : ¬ (4096 : Int) < (V k).size := by omega
            have hsm' : Small (k + 1) N V := fun j hj => by
              by_cases e : j = k
              · subst e; exact ⟨s1, s2⟩
              · exact hsm j (by omega)
            go_wp2
            go_round
            case rel => exact ⟨k + 1, by omega, by go_num, hsm'⟩
            case measure => simp [intOf]; omega
          · have s1' : ¬ (4096 : Int) < (N k).size := by omega
            have s2' : (4096 : Int) < (V k).size := by omega
            go_wp2
            go_ret
            exact ⟨rfl, rfl⟩
        · have s1' : (4096 : Int) < (N k).size := by omega
          go_wp2
          go_ret
          exact ⟨rfl, rfl⟩
      · obtain rfl : k = len := by omega
        exact absurd hsm hns
  · have hlen' : 256 < len := by omega
    go_enter Ybaf.func6, Ybaf.ntmps6
    go_wp2
    go_ret
    exact ⟨rfl, rfl⟩

/-- The row's elements, as bytes. -/
def bytesIn (zs : List Int) (len : Nat) : List UInt8 := (zs.take len).map fun n => UInt8.ofNat n.toNat

theorem byte_back {z : Int} (h0 : 0 ≤ z) (h1 : z ≤ 255) : ((UInt8.ofNat z.toNat).toNat : Int) = z := by
  simp [UInt8.toNat_ofNat']
  omega

theorem cells_in {zs : List Int} (h : ∀ n ∈ zs, (Lit.int .u8 n).wf = true) (len : Nat) : Lib.byteCells (bytesIn zs len) = (zs.take len).map (Value.int .u8) := by
  unfold Lib.byteCells bytesIn
  rw [List.map_map]
  refine List.map_congr_left fun z hz => ?_
  have := bounds_u8 (h z (List.mem_of_mem_take hz))
  simp only [Function.comp]
  rw [byte_back this.1 this.2]

theorem bytesIn_length {zs : List Int} {len : Nat} (h : len ≤ zs.length) : (bytesIn zs len).length = len := by simp [bytesIn, List.length_take]; omega

theorem row_cells {w : World} {x : Addr} {len cap : Nat} {zs : List Int} (hl : len ≤ cap) (hz : zs.length = cap) (hc : ∀ i, i < zs.length → w.cell? (x.add i) = some (.int .u8 (zs.getD i 0))) (hwf : ∀ n ∈ zs, (Lit.int .u8 n).wf = true) :
    ∀ j v, (Lib.byteCells (bytesIn zs len))[j]? = some v → w.cell? (x.add j) = some v := by
  intro j u hj
  rw [cells_in hwf, List.getElem?_map] at hj
  have hjl : j < len := by
    rcases Nat.lt_or_ge j len with h | h
    · exact h
    · rw [List.getElem?_eq_none (by rw [List.length_take]; omega)] at hj; simp at hj
  rw [hc j (by omega)]
  rw [List.getElem?_take_of_lt hjl, List.getElem?_eq_getElem (by omega)] at hj
  simp at hj
  subst hj
  simp [List.getD, List.getElem?_eq_getElem (show j < zs.length by omega)]

theorem byteCells_one (l : List UInt8) : ∀ v ∈ Lib.byteCells l, v.oneCell' = true := by
  intro u hu
  simp only [Lib.byteCells, List.mem_map] at hu
  obtain ⟨b, _, rfl⟩ := hu
  rfl

theorem made_block {w : World} {B g n : Nat} {xs : List Value} (h : w.ownsRow B 5 1 (.slice (some ⟨g, 0, none⟩) n n) n xs) : ∃ cur : List Value, cur.length = n ∧ w.heap[g]? = some (.cells cur.toArray 5 (0, 0)) ∧ B ≤ g := by
  obtain ⟨_, h⟩ := h
  rcases h with ⟨h, _⟩ | ⟨g', cap, cur, h, hg, hh, _, _, hsz, _⟩
  · cases h
  · cases h
    exact ⟨cur.toList, by simpa using hsz, by simpa using hh, hg⟩

theorem own_block {w : World} {B g : Nat} {l : List UInt8} (hl : l.length ≤ maxLen) (hB : B ≤ g) (h : w.heap[g]? = some (.cells (Lib.byteCells l).toArray 5 (0, 0))) : Own w B (.slice (some ⟨g, 0, none⟩) l.length l.length) l := by
  refine ⟨by simp [Lib.byteCells], .inr ⟨g, l.length, _, rfl, hB, h, Nat.le_refl _, hl, by simp [Lib.byteCells], ?_⟩⟩
  rw [List.take_of_length_le (by simp [Lib.byteCells])]

theorem size5 : (Ybaf.prog.info? 5).map (·.size) = some 1 := by kernel_rfl

theorem eqlNil (w : World) (a : Option Addr) (n c : Nat) : (binOp .eql 22 (.slice a n c) (.slice none 0 0)).run Ybaf.prog w = .ok (.bool a.isNone) w := Lib.run_eql_slice_nil w 22 5 a n c 0 0 Ybaf.underlying22

set_option maxHeartbeats 400000 in
theorem copy_any (a : Option Addr) (len cap : Nat) (zs : List Int) (w0 w : World) (hrow : IsRow .u8 w0 a len cap zs) (hb : Below w0.heap.size w0 w) (hlen : len ≤ 1024) :
    Calls Ybaf.prog 7 #[.slice a len cap] w fun e w' => ∃ v', e = .returned v' ∧ Own w' w.heap.size v' (bytesIn zs len) ∧ Below w.heap.size w w' := by
  have q := eqlNil
  rcases hrow with ⟨rfl, rfl, rfl, rfl⟩ | ⟨x, rfl, hl, hm, hz, hc, hwf⟩
  · go_enter Ybaf.func7, Ybaf.ntmps7
    go_wp2
    go_ret
    exact ⟨_, rfl, World.ownsRow_nil _ _ _ _, Below.refl _ _⟩
  · obtain ⟨i0, hi, hz0, hz1, hz2⟩ := info_parts info5
    have hcs := row_cells hl hz hc hwf
    have hbl := bytesIn_length (zs := zs) (len := len) (by omega)
    clear hc
    go_enter Ybaf.func7, Ybaf.ntmps7
    go_wp2_with (first | (at_make; refine wpList_make_full _ rfl (.tmp 7) (.tmp 7) 22 rfl w.heap.size 5 i0 (.int .u8 0) 1 Ybaf.underlying22 hi hz0 hz1 .i64 .i64 _ _ len rfl rfl rfl rfl (by rw [hz2]; omega) (by unfold maxLen; omega) (Nat.le_refl _) ?_; intro w1 hown1 hgrow1; have hb1 : Below w.heap.size w w1 := (Below.refl _ _).grown hgrow1 (Nat.le_refl _) (fun k hk => by cases hk); obtain ⟨cur, hcl, hblk, _⟩ := made_block hown1) | (refine wpList_copy_splice rfl (.tmp 9) (.tmp 10) 22 22 rfl 5 Ybaf.underlying22 size5 _ _ len len len cap rfl rfl w.heap.size 0 cur 5 hblk (Lib.byteCells (bytesIn zs len)) (by rw [Lib.byteCells_length, hbl]; exact (Nat.min_self _).symm) (fun _ => ⟨rfl, x, rfl, fun j v hj => cell_later hb1 (cell_later hb (hcs j v hj))⟩) (by rw [Lib.byteCells_length, hbl, hcl]; omega) (byteCells_one _) w.heap.size w hb1 (Nat.le_refl _) ?_; intro w2 hblk2 hb2) | fail)
    go_ret
    refine ⟨_, rfl, ?_, hb2⟩
    have h := hblk2.out
    have e : splice cur 0 (Lib.byteCells (bytesIn zs len)) = Lib.byteCells (bytesIn zs len) := by
      simp [splice, Lib.byteCells_length, hbl, hcl]
    rw [e] at h
    have := own_block (B := w.heap.size) (by rw [hbl]; unfold maxLen; omega) (Nat.le_refl _) h
    rw [hbl] at this
    exact this

end Go.Proofs.YbulkacFmt
