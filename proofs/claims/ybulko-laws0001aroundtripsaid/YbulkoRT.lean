/-
  THE WALK OF 'LawS0001ARoundTrip': '(*decoder).uvarint' by a contract of its own; the slice that came in, as a string; the law.
-/
import Derived.Test.YbulkoShelf
import Derived.Test.YbulkoPlain
import Derived.WalkKit
import Derived.WalkSpells
import Derived.WalkLawsBesides
import Derived.Laws.AppendOwnNone
import Derived.OpenShut
namespace Go.Proofs.Ybulko.lawS0001ARoundTrip
open Go.RowKit Go.ChangeShapes Go.WideShapes

/-- WHAT THE WALK IS TOLD OF A SLICE OF INTEGERS THAT CAME IN: it is nil; or it leads to a row of 'cap' cells, the numbers 'zs' (the first 'len' are its elements, the rest its spare room), each fitting its kind. -/
def IsRow (k : IntKind) (w : World) (a : Option Addr) (len cap : Nat) (zs : List Int) : Prop :=
  (a = none ∧ len = 0 ∧ cap = 0 ∧ zs = []) ∨
  ∃ x, a = some x ∧ len ≤ cap ∧ cap ≤ maxLen ∧ zs.length = cap ∧ (∀ i, i < zs.length → w.cell? (x.add i) = some (.int k (zs.getD i 0))) ∧ ∀ n ∈ zs, (Lit.int k n).wf = true

/-- WHAT 'uvarint' LEAVES: the decoder's field b, cut behind the k bytes that were read (at the array's very end Go keeps the old address). -/
def Cut (w w' : World) (bd g o n c k : Nat) : Prop := ∃ o2, (n - k = 0 ∨ o2 = o + k) ∧ w' = w.setCell ⟨bd, 0, none⟩ (.slice (some ⟨g, o2, none⟩) (n - k) (c - k))

set_option maxHeartbeats 400000 in
theorem uvarint_any (bd g o n c k x : Nat) (l : List UInt8) (w : World) (hl : l.length = n) (hcell : ∀ j (hj : j < l.length), w.cell? ⟨g, o + j, none⟩ = some (.int .u8 (l[j]).toNat))
    (hd : w.cell? ⟨bd, 0, none⟩ = some (.slice (some ⟨g, o, none⟩) n c)) (hfd : w.frozen? ⟨bd, 0, none⟩ = false)
    (hdec : Lib.uvarintDec l = (x, (k : Int))) (hk : 1 ≤ k) (hkn : k ≤ n) (hnc : n ≤ c) (_hc : c ≤ 9223372036854775807) :
    Calls Yba.prog 7 #[.pointer (some ⟨bd, 0, none⟩)] w fun e w' => e = .returned (.int .u64 x) ∧ Cut w w' bd g o n c k := by
  have hC := Yba.binary_Uvarint g o n c l w hl hcell
  rw [hdec] at hC
  have hk0 : ¬ (k : Int) ≤ 0 := by omega
  clear hdec hcell
  go_enter Yba.func7, Yba.ntmps7
  go_wp2_with (go_at_call 11; refine hC.mono ?_; rintro e w' ⟨rfl, rfl⟩)
  · go_ret
    exact ⟨rfl, o, .inl (by omega), by rw [Nat.sub_self]⟩
  · go_ret
    exact ⟨rfl, o + k, .inr rfl, rfl⟩

/-- 'string(tail)' in whatever world the row's cells read as they did. -/
theorem conv_row {w w' : World} {a : Option Addr} {len cap : Nat} {zs : List Int} (h : IsRow .u8 w a len cap zs) (hw : ∀ x, a = some x → ∀ i, i < zs.length → w'.cell? (x.add i) = w.cell? (x.add i)) :
    (convert 22 9 (.slice a len cap)).run Yba.prog w' = .ok (.string (strOfNums (zs.take len))) w' := by
  rcases h with ⟨rfl, rfl, rfl, rfl⟩ | ⟨x, rfl, hl, _, hz, hc, _⟩
  · have := run_convert_bytes_nil (P := Yba.prog) w' 22 5 Yba.underlying22 Yba.underlying5 0 0 9 Yba.underlying9
    rw [this]; rfl
  · rw [run_convert_bytes_string w' 22 9 5 _ len cap Yba.underlying22 Yba.underlying5 Yba.underlying9]
    have hl' : (loadCells x len).run Yba.prog w' = .ok ((zs.take len).map (Value.int .u8)).toArray w' := by
      have := run_loadCells_list (P := Yba.prog) w' x ((zs.take len).map (Value.int .u8)) (fun j v hj => by
        rw [List.getElem?_map] at hj
        have hjl : j < len := by
          rcases Nat.lt_or_ge j len with h | h
          · exact h
          · rw [List.getElem?_eq_none (by rw [List.length_take]; omega)] at hj; simp at hj
        rw [hw x rfl j (by omega), hc j (by omega)]
        rw [List.getElem?_take_of_lt hjl, List.getElem?_eq_getElem (by omega)] at hj
        simp at hj
        subst hj
        simp [List.getD, List.getElem?_eq_getElem (show j < zs.length by omega)])
      simpa [List.length_take, Nat.min_eq_left (show len ≤ zs.length by omega)] using this
    rw [run_bytesToString w' _ len cap (zs.take len) hl', foldl_push_bytes]
    simp [strOfNums, ByteArray.empty, ByteArray.emptyWithCapacity]
    rfl

theorem info5 : (Yba.prog.info? 5).map (fun i => (i.zero, i.size, i.bytes)) = some (some (.int .u8 0), 1, 1) := by kernel_rfl

/-- The row's elements, as bytes. -/
def bytesIn (zs : List Int) (len : Nat) : List UInt8 := (zs.take len).map fun n => UInt8.ofNat n.toNat

theorem byte_back {z : Int} (h0 : 0 ≤ z) (h1 : z ≤ 255) : ((UInt8.ofNat z.toNat).toNat : Int) = z := by
  simp [UInt8.toNat_ofNat']
  omega

theorem cells_in {zs : List Int} (h : ∀ n ∈ zs, (Lit.int .u8 n).wf = true) (len : Nat) : Lib.byteCells (bytesIn zs len) = (zs.take len).map (Value.int .u8) := by
  unfold Lib.byteCells bytesIn
  rw [List.map_map]
  refine List.map_congr_left fun z hz => ?_
  have := bounds_u8 (h z (List.mem_of_mem_take hz))
  simp only [Function.comp]
  rw [byte_back this.1 this.2]

theorem byteCells_append (a b : List UInt8) : Lib.byteCells (a ++ b) = Lib.byteCells a ++ Lib.byteCells b := by simp [Lib.byteCells]

/-- WHAT 'enc' IS GOOD FOR: a row of the call's own, at block g, whose first n cells are the bytes l; of what was there nothing has turned. -/
def Enc (w w2 : World) (g c n : Nat) (l : List UInt8) : Prop :=
  w.heap.size ≤ g ∧ g < w2.heap.size ∧ n ≤ c ∧ c ≤ maxLen ∧ l.length = n ∧ (∀ j (hj : j < l.length), w2.cell? ⟨g, 0 + j, none⟩ = some (.int .u8 (l[j]).toNat)) ∧ Below w.heap.size w w2

theorem enc_of {w w2 : World} {v : Value} {n : Nat} {l : List UInt8} (hown : w2.ownsRow w.heap.size 5 1 v n (Lib.byteCells l)) (hn : 1 ≤ n) (hb : Below w.heap.size w w2) :
    ∃ g c, v = .slice (some ⟨g, 0, none⟩) n c ∧ Enc w w2 g c n l := by
  have hlt := hown.lt
  have hcs := hown
  obtain ⟨hlen, h⟩ := hown
  rcases h with ⟨_, h0⟩ | ⟨g, cap, cur, rfl, hg, hh, hnc, hcm, hsz, htk⟩
  · omega
  · have hl : l.length = n := by simpa [Lib.byteCells] using hlen
    refine ⟨g, cap, rfl, hg, (hlt g rfl).2, hnc, hcm, hl, fun j hj => ?_, hb⟩
    have := hcs.cellAt j (by omega)
    rw [Nat.zero_add, this]
    simp [Lib.byteCells, hj]

theorem bytesIn_length {zs : List Int} {len : Nat} (h : len ≤ zs.length) : (bytesIn zs len).length = len := by simp [bytesIn, List.length_take]; omega

/-- WHAT THE LAW NEEDS BEHIND 'd.uvarint()': the decoder's two fields, and what 'string(..)' gives of the rest and of the tail. -/
def Done (w w' : World) (bd : Nat) (a1 : Option Addr) (len1 cap1 : Nat) (z1 : List Int) : Prop :=
  ∃ g o c, w'.cell? ⟨bd, 0, none⟩ = some (.slice (some ⟨g, o, none⟩) len1 c) ∧ w'.cell? ⟨bd, 1, none⟩ = some .nilIface ∧
    (convert 22 9 (.slice (some ⟨g, o, none⟩) len1 c)).run Yba.prog w' = .ok (.string (strOfNums (z1.take len1))) w' ∧
    (convert 22 9 (.slice a1 len1 cap1)).run Yba.prog w' = .ok (.string (strOfNums (z1.take len1))) w' ∧ Below w.heap.size w w'

theorem uvarint_enc (w w2 W3 : World) (bd g c x : Nat) (a1 : Option Addr) (len1 cap1 : Nat) (z1 : List Int) (hx : x < 18446744073709551616) (hrow : IsRow .u8 w a1 len1 cap1 z1)
    (henc : Enc w w2 g c ((Lib.uvarint x).length + len1) (Lib.uvarint x ++ bytesIn z1 len1))
    (hsame : ∀ b o, b < w2.heap.size → W3.cell? ⟨b, o, none⟩ = w2.cell? ⟨b, o, none⟩) (hb3 : Below w2.heap.size w2 W3) (hbd : w2.heap.size ≤ bd)
    (h0 : W3.cell? ⟨bd, 0, none⟩ = some (.slice (some ⟨g, 0, none⟩) ((Lib.uvarint x).length + len1) c)) (h1 : W3.cell? ⟨bd, 1, none⟩ = some .nilIface) (hf : W3.frozen? ⟨bd, 0, none⟩ = false) :
    Calls Yba.prog 7 #[.pointer (some ⟨bd, 0, none⟩)] W3 fun e w' => e = .returned (.int .u64 x) ∧ Done w w' bd a1 len1 cap1 z1 := by
  obtain ⟨hg, hgs, hnc, hcm, hll, hcell, hbel⟩ := henc
  unfold maxLen at hcm
  have hwf : ∀ n ∈ z1, (Lit.int .u8 n).wf = true := by
    rcases hrow with ⟨_, _, _, rfl⟩ | ⟨_, _, _, _, _, _, h⟩
    · simp
    · exact h
  have hlz : len1 ≤ z1.length := by
    rcases hrow with ⟨_, rfl, _, rfl⟩ | ⟨_, _, h1, _, h2, _, _⟩
    · simp
    · omega
  have hL1 := Lib.uvarint_pos x
  refine (uvarint_any bd g 0 ((Lib.uvarint x).length + len1) c (Lib.uvarint x).length x (Lib.uvarint x ++ bytesIn z1 len1) W3 hll (fun j hj => by rw [hsame _ _ hgs]; exact hcell j hj) h0 hf (dec_uvarint x _ hx) hL1 (by omega) hnc (by omega)).mono ?_
  rintro e w' ⟨rfl, o2, ho2, rfl⟩
  have ed : (Lib.uvarint x).length + len1 - (Lib.uvarint x).length = len1 := by omega
  rw [ed] at ho2
  refine ⟨rfl, g, o2, c - (Lib.uvarint x).length, ?_, ?_, ?_, ?_, ?_⟩
  · rw [World.cell?_setCell_same _ _ _ h0, ed]
  · rw [World.cell?_setCell_other _ _ _ _ (by simp), h1]
  · refine run_convert_bytes_arg _ 22 5 Yba.underlying22 Yba.underlying5 g o2 len1 _ (z1.take len1) (by rw [List.length_take]; omega) (fun i hi => ?_) 9 Yba.underlying9
    obtain rfl : o2 = 0 + (Lib.uvarint x).length := by omega
    rw [World.cell?_setCell_other _ _ _ _ (fun h => by injection h with h; omega), hsame _ _ hgs]
    have := hcell ((Lib.uvarint x).length + i) (by rw [hll]; omega)
    rw [← Nat.add_assoc] at this
    rw [this, List.getElem_append_right (by omega)]
    have hz := bounds_u8 (hwf z1[i] (List.getElem_mem _))
    simp only [bytesIn, Nat.add_sub_cancel_left, List.getElem_map, List.getElem_take]
    rw [byte_back hz.1 hz.2]
    simp [List.getD, List.getElem?_take_of_lt hi, List.getElem?_eq_getElem (show i < z1.length by omega)]
  · refine conv_row hrow fun y hy i hi => ?_
    have hcy : ∃ v, w.cell? (y.add i) = some v := by
      rcases hrow with ⟨h, _, _, _⟩ | ⟨x', hx', _, _, _, hcx, _⟩
      · rw [h] at hy; cases hy
      · rw [hx'] at hy; cases hy; exact ⟨_, hcx i hi⟩
    obtain ⟨v, hv⟩ := hcy
    rw [hv]
    refine cell_later ((hbel.trans (hb3.mono hbel.size)).setCell (Nat.le_trans hbel.size hbd) _) hv
  · exact (hbel.trans (hb3.mono hbel.size)).setCell (Nat.le_trans hbel.size hbd) _

set_option maxHeartbeats 400000 in
theorem walk (a0 : Int) (a1 : Option Addr) (len1 cap1 : Nat) (z1 : List Int) (w : World) (w0 : (Lit.int .u64 a0).wf = true) (w1 : IsRow .u8 w a1 len1 cap1 z1) :
    Calls Yba.prog 4 #[.int .u64 a0, .slice a1 len1 cap1] w fun e w' => e = .returned (.bool true) ∧ Below w.heap.size w w' := by
  have hb0 := bounds_u64 w0
  obtain ⟨x, rfl⟩ : ∃ x : Nat, a0 = x := ⟨a0.toNat, by omega⟩
  have hx : x < 18446744073709551616 := by omega
  clear w0 hb0
  by_cases hlen : 1024 < len1
  · go_enter Yba.func4, Yba.ntmps4
    go_wp2
    go_ret
    exact ⟨rfl, Below.refl _ _⟩
  · have hmm := @run_makeMap Yba.prog
    obtain ⟨i0, hi, hz0, hz1, hz2⟩ := info_parts info5
    have hL := Lib.uvarint_length64 hx
    have hL1 := Lib.uvarint_pos x
    have hrow := w1
    rcases w1 with ⟨rfl, rfl, rfl, rfl⟩ | ⟨ax, rfl, hl, hm, hz, hc, hwf⟩
    · go_enter Yba.func4, Yba.ntmps4
      go_wp2_with (first | (go_at_call 10; refine (Yba.binary_AppendUvarint w.heap.size 0 x hx _ [] w (World.ownsRow_nil _ _ _ _) (Nat.le_refl _) (by omega)).mono ?_; rintro e w2 ⟨v2, rfl, hown2, hbel2⟩; have hown3 : w2.ownsRow w.heap.size 5 1 v2 ((Lib.uvarint x).length + 0) (Lib.byteCells (Lib.uvarint x ++ bytesIn [] 0)) := (by simpa [bytesIn] using hown2); obtain ⟨g, c, rfl, henc⟩ := enc_of hown3 hL1 hbel2; clear hown3) | (at_builtin; refine wpList_append_own_none rfl _ _ 22 rfl w.heap.size 5 i0 1 Yba.underlying22 hi _ _ _ rfl hown2 rfl ?_) | fail)
      go_wp2_with (first | (go_at_call 7; refine (uvarint_enc w w2 _ _ g c x _ _ _ _ hx hrow henc ?_ ?_ ?_ ?_ ?_ ?_).mono ?_; rotate_right; rintro e w3 ⟨rfl, g3, o3, c3, hd0, hd1, hv1, hv2, hbel3⟩) | (go_at_call 9; refine (Yba.bytes_Equal _ _ _ _ _ hv1 hv2).mono ?_; rintro e w' ⟨rfl, rfl⟩) | fail)
      · go_ret
        exact ⟨by simp, hbel3⟩
      · intro b o hb
        rw [World.cell?_alloc_past _ _ _ (by simp; omega), World.cell?_alloc_past _ _ _ hb]
      · exact ((Below.refl _ _).alloc (Nat.le_refl _) _).alloc (by simp) _
      · omega
      · exact World.cell?_alloc_at _ _ _ _ (by simp)
      · exact World.cell?_alloc_at _ _ _ _ (by simp)
      · exact World.frozen?_alloc_at _ _ _ _ (by simp)
    · have e1 : Lib.byteCells (Lib.uvarint x ++ bytesIn z1 len1) = [] ++ Lib.byteCells (Lib.uvarint x) ++ (z1.take len1).map (Value.int .u8) := by rw [byteCells_append, cells_in hwf, List.nil_append]
      have e2 : 0 + (Lib.uvarint x).length + len1 = (Lib.uvarint x).length + len1 := by omega
      have c0 : ((z1.take len1).map (Value.int .u8)).length = len1 * 1 := by simp [List.length_take]; omega
      have c1 : ∀ j u, ((z1.take len1).map (Value.int .u8))[j]? = some u → w.cell? (ax.add j) = some u := by
        intro j u hj
        rw [List.getElem?_map] at hj
        have hjl : j < len1 := by
          rcases Nat.lt_or_ge j len1 with h | h
          · exact h
          · rw [List.getElem?_eq_none (by rw [List.length_take]; omega)] at hj; simp at hj
        rw [hc j (by omega)]
        rw [List.getElem?_take_of_lt hjl, List.getElem?_eq_getElem (by omega)] at hj
        simp at hj
        subst hj
        simp [List.getD, List.getElem?_eq_getElem (show j < z1.length by omega)]
      have c2 : ∀ u ∈ (z1.take len1).map (Value.int .u8), u.oneCell' = true := by
        intro u hu
        obtain ⟨z, _, rfl⟩ := List.mem_map.1 hu
        rfl
      clear hc
      go_enter Yba.func4, Yba.ntmps4
      go_wp2_with (first | (go_at_call 10; refine (Yba.binary_AppendUvarint w.heap.size 0 x hx _ [] w (World.ownsRow_nil _ _ _ _) (Nat.le_refl _) (by omega)).mono ?_; rintro e w1 ⟨v1, rfl, hown1, hbel1⟩) | (at_builtin; refine wpList_append_own _ rfl (.tmp 13) (.tmp 14) 22 rfl w.heap.size 5 i0 (.int .u8 0) 1 1 Yba.underlying22 hi hz0 hz1 hz2 rfl (by decide) _ _ _ rfl hown1 ax len1 cap1 ((z1.take len1).map (Value.int .u8)) rfl c0 (fun j u hj => cell_later hbel1 (c1 j u hj)) c2 (by unfold maxLen; omega) (by omega) hbel1.size ?_; intro v2 w2 hown2 hgrow2 _; rw [← e1, e2] at hown2; obtain ⟨g, c, rfl, henc⟩ := enc_of hown2 (by omega) (hbel1.grown hgrow2 hbel1.size (fun k hk => (hown1.lt k hk).1))) | fail)
      go_wp2_with (first | (go_at_call 7; refine (uvarint_enc w w2 _ _ g c x _ _ _ _ hx hrow henc ?_ ?_ ?_ ?_ ?_ ?_).mono ?_; rotate_right; rintro e w3 ⟨rfl, g3, o3, c3, hd0, hd1, hv1, hv2, hbel3⟩) | (go_at_call 9; refine (Yba.bytes_Equal _ _ _ _ _ hv1 hv2).mono ?_; rintro e w' ⟨rfl, rfl⟩) | fail)
      · go_ret
        exact ⟨by simp, hbel3⟩
      · intro b o hb
        rw [World.cell?_alloc_past _ _ _ (by simp; omega), World.cell?_alloc_past _ _ _ hb]
      · exact ((Below.refl _ _).alloc (Nat.le_refl _) _).alloc (by simp) _
      · omega
      · exact World.cell?_alloc_at _ _ _ _ (by simp)
      · exact World.cell?_alloc_at _ _ _ _ (by simp)
      · exact World.frozen?_alloc_at _ _ _ _ (by simp)

end Go.Proofs.Ybulko.lawS0001ARoundTrip
