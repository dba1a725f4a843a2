/-
  THE WALK OF 'LawS0002AText'.
-/
import Derived.Test.YbulkacFmtOwn
namespace Go.Proofs.YbulkacFmt
open Go.RowKit Go.Extern.Stop Go.Stop Go.Extern Go.Kit

/-- One append onto what the call owns: what it leaves. -/
theorem own_more {w1 : World} {B n : Nat} {v' : Value} {l m : List UInt8} (hn : m.length = n) (hown' : w1.ownsRow B 5 1 v' (l.length + n) (Lib.byteCells l ++ Lib.byteCells m)) : Own w1 B v' (l ++ m) := by
  unfold Own
  rw [List.length_append, byteCells_append, hn]
  exact hown'

theorem grow_below {w0 w w1 : World} {B : Nat} {v : Value} {l : List UInt8} (hb : Below B w0 w) (hB : B ≤ w0.heap.size) (hown : Own w B v l) (hg : w.grownBy w1 v.ownBlock) : Below B w0 w1 :=
  hb.grown hg (Nat.le_trans hB hb.size) (fun k hk => (World.ownsRow.lt hown k hk).1)

/-- 'append(v, s...)', s a string, at a list of operations. -/
theorem wp_str {ops : Array Oper} {rest : List Oper} {o : Oper} {a : Act} {Q : Exit → Act → World → Prop} (w0 w : World) (B : Nat) (hgd : o.guard = none) (sl x : Operand)
    (ho : o.op = .call { callee := .builtin .append, args := #[sl, x], argTypes := #[22, 9] }) (v : Value) (l : List UInt8) (s : ByteArray) (hs : a.eval sl = v) (hx : a.eval x = .string s)
    (hown : Own w B v l) (hb : Below B w0 w) (hB : B ≤ w0.heap.size) (hlim : l.length + s.size ≤ 100000000)
    (h : ∀ v' w', Own w' B v' (l ++ s.data.toList) → Below B w0 w' → wpList Ybaf.prog ops Q rest (a.put o.dst v') w') : wpList Ybaf.prog ops Q (o :: rest) a w := by
  obtain ⟨i0, hi, hz0, hz1, hz2⟩ := info_parts info5
  refine Lib.wpList_append_own_string w hgd sl x 22 9 ho B 5 i0 Ybaf.underlying22 Ybaf.underlying9 hi hz0 hz1 hz2 v l.length (Lib.byteCells l) hs hown s hx (by unfold maxLen; omega) (by omega) (Nat.le_trans hB hb.size) ?_
  intro v' w' ho' hg _
  exact h v' w' (own_more Array.length_toList ho') (grow_below hb hB hown hg)

/-- 'append(v, m...)', m the bytes of a block that the statement has just laid. -/
theorem wp_new {ops : Array Oper} {rest : List Oper} {o : Oper} {a : Act} {Q : Exit → Act → World → Prop} (w0 w : World) (B : Nat) (hgd : o.guard = none) (sl x : Operand)
    (ho : o.op = .call { callee := .builtin .append, args := #[sl, x], argTypes := #[22, 22] }) (v : Value) (l m : List UInt8) (cs : Array Value) (n : Nat) (hs : a.eval sl = v) (hx : a.eval x = .slice (some ⟨w.heap.size, 0, none⟩) n n)
    (hcs : cs.toList = Lib.byteCells m) (hn : m.length = n) (hown : Own w B v l) (hb : Below B w0 w) (hB : B ≤ w0.heap.size) (hlim : l.length + n ≤ 100000000)
    (h : ∀ v' w', Own w' B v' (l ++ m) → Below B w0 w' → wpList Ybaf.prog ops Q rest (a.put o.dst v') w') : wpList Ybaf.prog ops Q (o :: rest) a (w.alloc (.cells cs 5)) := by
  obtain ⟨i0, hi, hz0, hz1, hz2⟩ := info_parts info5
  refine wpList_append_own _ hgd sl x 22 ho B 5 i0 (.int .u8 0) 1 1 Ybaf.underlying22 hi hz0 hz1 hz2 rfl (by decide) v l.length (Lib.byteCells l) hs (hown.alloc _) ⟨w.heap.size, 0, none⟩ n n (Lib.byteCells m) hx (by rw [Lib.byteCells_length]; omega) ?_ (byteCells_one m) (by unfold maxLen; omega) (by omega) (by have := hb.size; simp; omega) ?_
  · intro j u hj
    have e : (⟨w.heap.size, 0, none⟩ : Addr).add j = ⟨w.heap.size, j, none⟩ := by simp [Addr.add]; exact fun h => h.symm
    rw [e, World.cell?_alloc_at _ _ _ _ rfl, ← hj, ← hcs]
    simp
  · intro v' w' ho' hg _
    exact h v' w' (own_more hn ho') (grow_below (hb.alloc (Nat.le_trans hB hb.size) _) hB (hown.alloc _) hg)

set_option maxHeartbeats 800000 in
theorem text_main (F : Interp) (a0 : Option Addr) (len0 cap0 : Nat) (z0 : List Int) (a1 : Option Addr) (len1 cap1 : Nat) (N V : Nat → ByteArray) (w : World) (hF : F.told.answers w.tape)
    (hrow : IsRow .u8 w a0 len0 cap0 z0) (hat : Attrs w a1 len1 N V) (hl0 : len0 ≤ 1024) (hl1 : len1 ≤ 256) (hs : Small len1 N V) :
    Calls Ybaf.prog 3 #[.slice a0 len0 cap0, .slice a1 len1 cap1] w fun e w' => e = .returned (.bool true) ∧ Below w.heap.size w w' := by
  obtain ⟨i0, hi, hz0, hz1, hz2⟩ := info_parts info5
  have hbl : (bytesIn z0 len0).length ≤ 1024 := by simp [bytesIn]; omega
  go_enter Ybaf.func3, Ybaf.ntmps3
  go_wp2_with (first | (go_at_call 6; refine (big_no _ _ _ N V _ hat hl1 hs).mono ?_; rintro e w' ⟨rfl, rfl⟩) | (go_at_call 7; refine (copy_any _ _ _ z0 w _ hrow (Below.refl _ _) hl0).mono ?_; rintro e w1 ⟨v1, rfl, hown1, hb1⟩) | fail)
  go_loopw [5, 6] (fun b i wr => ∃ k : Nat, k ≤ len1 ∧ i = .int .i64 k ∧ Own wr w.heap.size b (bytesIn z0 len0 ++ lines N V k) ∧ Below w.heap.size w wr) (fun _ i _ => len1 - (intOf i).toNat)
  case atStart => exact ⟨0, by omega, rfl, by simpa [lines] using hown1, hb1⟩
  case round =>
    obtain ⟨k, hk, rfl, hown2, hbr⟩ := hrel
    by_cases hlt : k < len1
    · obtain ⟨s1, s2⟩ := hs k hlt
      have hll := lines_length hs k hk
      have hln : Hid (lines N V (k + 1) = lines N V k ++ line (N k) (V k)) := rfl
      obtain ⟨b, off, rfl, d1, d2⟩ := hat k hlt
      have hC : ∀ wx, Below w.heap.size w wx → wx.cell? ⟨b, off + k * 2, none⟩ = some (.string (N k)) ∧ wx.cell? ⟨b, off + k * 2 + 1, none⟩ = some (.string (V k)) := fun wx hx => ⟨cell_later hx d1, cell_later hx d2⟩
      clear d1 d2 hat
      generalize N k = nm at *
      generalize V k = vl at *
      generalize hL : bytesIn z0 len0 ++ lines N V k = L at hown2
      have hLl : L.length ≤ 1024 + 256 * 8197 := by rw [← hL, List.length_append]; omega
      have HL : Hid (bytesIn z0 len0 ++ lines N V k = L) := hL
      clear hL hll
      have c0 := hC wr hbr
      have e3 : (⟨#[97, 61]⟩ : ByteArray).size = 2 := rfl
      by_cases hv : vl.toList.isEmpty = true
      · go_wp2_with (first | (at_builtin; refine wp_str w _ w.heap.size rfl (.tmp 23) (.const (.string ⟨#[97, 61]⟩)) rfl _ L ⟨#[97, 61]⟩ rfl rfl hown2 hbr (Nat.le_refl _) (by omega) ?_; intro v3 w3 o3 b3; have c3 := hC w3 b3) | (at_builtin; refine wp_str w _ w.heap.size rfl (.tmp 25) (.tmp 30) rfl _ _ nm rfl rfl o3 b3 (Nat.le_refl _) (by rw [List.length_append]; simp; omega) ?_; intro v4 w4 o4 b4; have c4 := hC w4 b4) | (at_builtin; refine wp_new w _ w.heap.size rfl (.tmp 48) (.tmp 49) rfl _ _ [13, 10] _ 2 rfl rfl rfl rfl o4 b4 (Nat.le_refl _) (by rw [List.length_append, List.length_append]; simp; have : nm.data.size = nm.size := rfl; omega) ?_; intro v5 w5 o5 b5) | fail)
        have o6 : Own w5 w.heap.size v5 (bytesIn z0 len0 ++ lines N V (k + 1)) := by
          rw [hln.out, line_one hv, ← List.append_assoc, HL.out, textOne]
          simp only [List.append_assoc] at o5 ⊢
          exact o5
        clear o5 o3 o4
        go_wp2
        go_roundw
        case rel => exact ⟨k + 1, by omega, by go_num, o6, b5⟩
        case measure => simp [intOf]; omega
      · have hv' : vl.toList.isEmpty = false := by simpa using hv
        have dn : nm.data.size = nm.size := rfl
        have dv : vl.data.size = vl.size := rfl
        go_wp2_with (first | (at_builtin; refine wp_str w _ w.heap.size rfl (.tmp 23) (.const (.string ⟨#[97, 61]⟩)) rfl _ L ⟨#[97, 61]⟩ rfl rfl hown2 hbr (Nat.le_refl _) (by omega) ?_; intro v3 w3 o3 b3; have c3 := hC w3 b3) | (at_builtin; refine wp_str w _ w.heap.size rfl (.tmp 25) (.tmp 30) rfl _ _ nm rfl rfl o3 b3 (Nat.le_refl _) (by simp; omega) ?_; intro v4 w4 o4 b4; have c4 := hC w4 b4) | (at_builtin; refine wp_new w _ w.heap.size rfl (.tmp 38) (.tmp 39) rfl _ _ [58] _ 1 rfl rfl rfl rfl o4 b4 (Nat.le_refl _) (by simp; omega) ?_; intro v5 w5 o5 b5; have c5 := hC w5 b5) | (at_builtin; refine wp_str w _ w.heap.size rfl (.tmp 41) (.tmp 46) rfl _ _ vl rfl rfl o5 b5 (Nat.le_refl _) (by simp; omega) ?_; intro v6 w6 o6 b6) | (at_builtin; refine wp_new w _ w.heap.size rfl (.tmp 48) (.tmp 49) rfl _ _ [13, 10] _ 2 rfl rfl rfl rfl o6 b6 (Nat.le_refl _) (by simp; omega) ?_; intro v7 w7 o7 b7) | fail)
        have o8 : Own w7 w.heap.size v7 (bytesIn z0 len0 ++ lines N V (k + 1)) := by
          rw [hln.out, line_two hv, ← List.append_assoc, HL.out, textTwo]
          simp only [List.append_assoc] at o7 ⊢
          exact o7
        clear o7 o3 o4 o5 o6
        go_wp2
        go_roundw
        case rel => exact ⟨k + 1, by omega, by go_num, o8, b7⟩
        case measure => simp [intOf]; omega
    · obtain rfl : k = len1 := by omega
      go_wp2_with (first | (go_at_call 7; refine (copy_any _ _ _ z0 w _ hrow hbr hl0).mono ?_; rintro e w3 ⟨v3, rfl, hown3, hb3⟩) | (go_at_call 8; refine (attrs_any F _ _ _ _ _ _ N V w _ (by rw [hb3.tape, hbr.tape]; exact hF) hown3 hb3.size hat (hbr.trans (hb3.mono hbr.size)) hbr.size hl1 hs hbl).mono ?_; rintro e w4 ⟨v4, rfl, hown4, hb4⟩; have q4 := hown4.conv; have hb5 := hb3.trans hb4; have q2 := (hown2.later hb5).conv) | fail)
      go_ret
      exact ⟨by simp, hbr.trans (hb5.mono hbr.size)⟩

set_option maxHeartbeats 400000 in
theorem text_walk (F : Interp) (a0 : Option Addr) (len0 cap0 : Nat) (z0 : List Int) (a1 : Option Addr) (len1 cap1 : Nat) (N V : Nat → ByteArray) (w : World) (hF : F.told.answers w.tape)
    (hrow : IsRow .u8 w a0 len0 cap0 z0) (hat : Attrs w a1 len1 N V) :
    Calls Ybaf.prog 3 #[.slice a0 len0 cap0, .slice a1 len1 cap1] w fun e w' => e = .returned (.bool true) ∧ Below w.heap.size w w' := by
  by_cases h0 : 1024 < len0
  · go_enter Ybaf.func3, Ybaf.ntmps3
    go_wp2
    go_ret
    exact ⟨rfl, Below.refl _ _⟩
  · by_cases hb : len1 ≤ 256 ∧ Small len1 N V
    · exact text_main F a0 len0 cap0 z0 a1 len1 cap1 N V w hF hrow hat (by omega) hb.1 hb.2
    · go_enter Ybaf.func3, Ybaf.ntmps3
      go_wp2_with (first | (go_at_call 6; refine (big_yes _ _ _ N V _ hat hb).mono ?_; rintro e w' ⟨rfl, rfl⟩) | fail)
      go_ret
      exact ⟨rfl, Below.refl _ _⟩

end Go.Proofs.YbulkacFmt
