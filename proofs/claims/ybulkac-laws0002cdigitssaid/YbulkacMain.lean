/-
  THE WALK OF 'LawS0002CDigits': its two callees by their contracts.
-/
import Derived.Test.YbulkacHex
import Derived.Laws.AppendOwnNone
import Derived.OpenShut
import Derived.RegionTactic
import Derived.Deep.QuietTactic
import Derived.BigQuiet
import Derived.Deep.RegionHeld3
namespace Go.Proofs.Ybulkac.lawS0002CDigits
open Go.RowKit

/-- WHAT THE WALK IS TOLD OF A SLICE OF INTEGERS THAT CAME IN: it is nil; or it leads to a row of 'cap' cells, the numbers 'zs' (the first 'len' are its elements, the rest its spare room), each fitting its kind. -/
def IsRow (k : IntKind) (w : World) (a : Option Addr) (len cap : Nat) (zs : List Int) : Prop :=
  (a = none ∧ len = 0 ∧ cap = 0 ∧ zs = []) ∨
  ∃ x, a = some x ∧ len ≤ cap ∧ cap ≤ maxLen ∧ zs.length = cap ∧ (∀ i, i < zs.length → w.cell? (x.add i) = some (.int k (zs.getD i 0))) ∧ ∀ n ∈ zs, (Lit.int k n).wf = true

/-- The row's elements, as cells. -/
def elems (zs : List Int) (len : Nat) : List Value := (zs.take len).map (Value.int .u8)

/-- WHAT 'got' IS: a slice of n elements; where it has one: a row at some block g, its cells xs. -/
def Got (w2 : World) (ao : Option Addr) (n : Nat) (xs : List Value) : Prop :=
  ∀ j, j < n → ∃ g, ao = some ⟨g, 0, none⟩ ∧ g < w2.heap.size ∧ w2.cell? ⟨g, j, none⟩ = xs[j]?

theorem got_of {w2 : World} {B : Nat} {v : Value} {n : Nat} {xs : List Value} (hown : w2.ownsRow B 5 1 v n xs) : ∃ ao c, v = .slice ao n c ∧ Got w2 ao n xs := by
  have hlt := hown.lt
  have hcs := hown
  obtain ⟨_, h⟩ := hown
  rcases h with ⟨rfl, rfl⟩ | ⟨g, cap, cur, rfl, hg, hh, hnc, hcm, hsz, htk⟩
  · exact ⟨_, _, rfl, fun j hj => by omega⟩
  · exact ⟨_, _, rfl, fun j hj => ⟨g, rfl, (hlt g rfl).2, hcs.cellAt j (by omega)⟩⟩

/-- WHAT 'b' IS, element by element. -/
def Came (w : World) (ao : Option Addr) (n : Nat) (zs : List Int) : Prop :=
  ∀ j, j < n → ∃ b off, ao = some ⟨b, off, none⟩ ∧ w.cell? ⟨b, off + j, none⟩ = some (.int .u8 (zs.getD j 0))

theorem came_of {w : World} {x : Addr} {n : Nat} {zs : List Int} (hn : n ≤ zs.length) (hc : ∀ i, i < zs.length → w.cell? (x.add i) = some (.int .u8 (zs.getD i 0))) : Came w (some x) n zs := by
  intro j hj
  obtain ⟨b, off, rfl, h⟩ := ints_at hc (by omega)
  exact ⟨b, off, rfl, h j (by omega)⟩

theorem elems_at {zs : List Int} {n j : Nat} (hn : n ≤ zs.length) (hj : j < n) : (elems zs n)[j]? = some (.int .u8 (zs.getD j 0)) := by
  unfold elems
  rw [List.getElem?_map, List.getElem?_take_of_lt hj, List.getElem?_eq_getElem (by omega)]
  simp [List.getD, List.getElem?_eq_getElem (show j < zs.length by omega)]

theorem elems_length {zs : List Int} {n : Nat} (hn : n ≤ zs.length) : (elems zs n).length = n := by simp [elems, List.length_take]; omega

theorem digs_at {v m i : Nat} (h : i < m) : (digs v m m)[i]? = some (.int .u8 (hexd v (m - 1 - i))) := by
  unfold digs
  rw [List.getElem?_map, List.getElem?_range h]
  rfl

theorem digit_int (v p : Nat) (P : Int) (w : World) (hv : v < 18446744073709551616) (hp : p < 1024) (hP : P = p) :
    Calls Yba.prog 5 #[.int .u64 v, .int .i64 P] w fun e w' => e = .returned (.int .u8 (hexd v p)) ∧ Below w.heap.size w w' := by
  subst hP; exact digit_any v p w hv hp

set_option maxHeartbeats 1000000 in
theorem walk_in (a0 : Option Addr) (len0 cap0 : Nat) (z0 : List Int) (v : Nat) (W : Int) (w : World) (hl0 : len0 ≤ 1024) (w0 : IsRow .u8 w a0 len0 cap0 z0) (hv : v < 18446744073709551616) (hW1 : W ≤ 1024) (hW2 : -1024 ≤ W) :
    Calls Yba.prog 3 #[.slice a0 len0 cap0, .int .u64 v, .int .i64 W] w fun e w' => e = .returned (.bool true) ∧ Below w.heap.size w w' := by
  obtain ⟨i0, hi, hz0, hz1, hz2⟩ := info_parts info5
  obtain ⟨hcame, hzl, hkind⟩ : Came w a0 len0 z0 ∧ len0 ≤ z0.length ∧ ((a0 = none ∧ len0 = 0 ∧ cap0 = 0) ∨ ∃ x, a0 = some x ∧ ∀ j u, (elems z0 len0)[j]? = some u → w.cell? (x.add j) = some u) := by
    rcases w0 with ⟨rfl, rfl, rfl, rfl⟩ | ⟨x, rfl, hl, hm, hz, hc, hwf⟩
    · exact ⟨fun j hj => by omega, by simp, .inl ⟨rfl, rfl, rfl⟩⟩
    · refine ⟨came_of (by omega) hc, by omega, .inr ⟨x, rfl, fun j u hj => ?_⟩⟩
      have hjl : j < len0 := by
        rcases Nat.lt_or_ge j len0 with h | h
        · exact h
        · rw [List.getElem?_eq_none (by rw [elems_length (by omega)]; exact h)] at hj; cases hj
      rw [elems_at (by omega) hjl] at hj
      cases hj
      exact hc j (by omega)
  clear w0
  have c0 : (elems z0 len0).length = len0 * 1 := by rw [elems_length hzl]; omega
  have c2 : ∀ u ∈ elems z0 len0, u.oneCell' = true := by
    intro u hu
    obtain ⟨z, _, rfl⟩ := List.mem_map.1 hu
    rfl
  have hsum : ∀ i, len0 ≤ len0 + i := fun i => by omega
  obtain ⟨m, hm, hmW⟩ : ∃ m : Nat, m ≤ 1024 ∧ ((W < 0 ∧ m ≤ 0) ∨ W = m) := by
    by_cases h : W < 0
    · exact ⟨0, by omega, .inl ⟨h, by omega⟩⟩
    · exact ⟨W.toNat, by omega, .inr (by omega)⟩
  have hmW2 : (W ≤ 0 ∧ m = 0) ∨ W = m := by omega
  have HMW : Hid ((W ≤ 0 ∧ m = 0) ∨ W = m) := hmW2
  clear hmW2
  rcases hkind with ⟨rfl, rfl, rfl⟩ | ⟨x, rfl, c1⟩ <;> rcases hmW with ⟨hneg, hm0⟩ | rfl
  · go_enter Yba.func3, Yba.ntmps3
    go_wp2_with (first | (at_builtin; refine wpList_append_own_none rfl _ (.tmp 23) 22 rfl w.heap.size 5 i0 1 Yba.underlying22 hi _ 0 [] rfl (World.ownsRow_nil _ _ _ _) rfl ?_; have hown1 : w.ownsRow w.heap.size 5 1 (.slice none 0 0) 0 (elems z0 0) := World.ownsRow_nil _ _ _ _; have hbel1 : Below w.heap.size w w := Below.refl _ _) | (at_builtin; refine wpList_append_own _ rfl _ (.tmp 23) 22 rfl w.heap.size 5 i0 (.int .u8 0) 1 1 Yba.underlying22 hi hz0 hz1 hz2 rfl (by decide) _ 0 [] rfl (World.ownsRow_nil _ _ _ _) x len0 cap0 (elems z0 len0) rfl c0 c1 c2 (by unfold maxLen; omega) (by omega) (Nat.le_refl _) ?_; intro v1 w1 hown1 hgrow1 _; rw [Nat.zero_add, List.nil_append] at hown1; have hbel1 : Below w.heap.size w w1 := (Below.refl _ _).grown hgrow1 (Nat.le_refl _) (fun k hk => by cases hk)) | (go_at_call 4; refine (hex_any v m _ _ w.heap.size _ _ _ hv HMW.out (by omega) hm hl0 hown1 hbel1.size).mono ?_; rintro e w2 ⟨v2, rfl, hown2, hbel2⟩; obtain ⟨ao, c, rfl, hgot⟩ := got_of hown2; have hbw : Below w.heap.size w w2 := hbel1.trans hbel2) | fail)
    clear hown1 hown2 hbel1 hbel2
    go_loopw [10] (fun i wr => ∃ k : Nat, k ≤ 0 ∧ i = .int .i64 k ∧ Below w2.heap.size w2 wr) (fun i _ => 0 - (intOf i).toNat)
    case atStart => exact ⟨0, by omega, rfl, Below.refl _ _⟩
    case round =>
      obtain ⟨k, hk, rfl, hbr⟩ := hrel
      go_wp2
      go_loopw [11] (fun i wr2 => i = .int .i64 0 ∧ Below w2.heap.size w2 wr2) (fun _ _ => 0)
      case atStart => exact ⟨rfl, hbr⟩
      case round =>
        obtain ⟨rfl, hbr2⟩ := hrel
        go_wp2
        go_ret
        exact ⟨rfl, hbw.trans (hbr2.mono hbw.size)⟩
  · go_enter Yba.func3, Yba.ntmps3
    go_wp2_with (first | (at_builtin; refine wpList_append_own_none rfl _ (.tmp 23) 22 rfl w.heap.size 5 i0 1 Yba.underlying22 hi _ 0 [] rfl (World.ownsRow_nil _ _ _ _) rfl ?_; have hown1 : w.ownsRow w.heap.size 5 1 (.slice none 0 0) 0 (elems z0 0) := World.ownsRow_nil _ _ _ _; have hbel1 : Below w.heap.size w w := Below.refl _ _) | (at_builtin; refine wpList_append_own _ rfl _ (.tmp 23) 22 rfl w.heap.size 5 i0 (.int .u8 0) 1 1 Yba.underlying22 hi hz0 hz1 hz2 rfl (by decide) _ 0 [] rfl (World.ownsRow_nil _ _ _ _) x len0 cap0 (elems z0 len0) rfl c0 c1 c2 (by unfold maxLen; omega) (by omega) (Nat.le_refl _) ?_; intro v1 w1 hown1 hgrow1 _; rw [Nat.zero_add, List.nil_append] at hown1; have hbel1 : Below w.heap.size w w1 := (Below.refl _ _).grown hgrow1 (Nat.le_refl _) (fun k hk => by cases hk)) | (go_at_call 4; refine (hex_any v m _ _ w.heap.size _ _ _ hv HMW.out (by omega) hm hl0 hown1 hbel1.size).mono ?_; rintro e w2 ⟨v2, rfl, hown2, hbel2⟩; obtain ⟨ao, c, rfl, hgot⟩ := got_of hown2; have hbw : Below w.heap.size w w2 := hbel1.trans hbel2) | fail)
    clear hown1 hown2 hbel1 hbel2
    go_loopw [10] (fun i wr => ∃ k : Nat, k ≤ 0 ∧ i = .int .i64 k ∧ Below w2.heap.size w2 wr) (fun i _ => 0 - (intOf i).toNat)
    case atStart => exact ⟨0, by omega, rfl, Below.refl _ _⟩
    case round =>
      obtain ⟨k, hk, rfl, hbr⟩ := hrel
      go_wp2
      go_loopw [11] (fun i wr2 => ∃ j : Nat, j ≤ m ∧ i = .int .i64 j ∧ Below w2.heap.size w2 wr2) (fun i _ => m - (intOf i).toNat)
      case atStart => exact ⟨0, by omega, rfl, hbr⟩
      case round =>
        obtain ⟨j, hj, rfl, hbr2⟩ := hrel
        by_cases hlt2 : j < m
        · obtain ⟨g, rfl, hg, hgc⟩ := hgot (0 + j) (by omega)
          rw [List.getElem?_append_right (by rw [elems_length (Nat.zero_le _)]; omega), elems_length (Nat.zero_le _), Nat.add_sub_cancel_left, digs_at hlt2] at hgc
          have hgc2 := (hbr2.cell (World.block_lt_of_cell? _ _ hgc)).trans hgc
          rw [Nat.zero_add] at hgc2
          have hk1 : (j : Int) < (m : Int) := by omega
          have hk0 : (0 : Int) ≤ (j : Int) := by omega
          clear hgc hgot hcame
          have hr1 : IntKind.i64.wrap (j : Int) = (j : Int) := IntWalk.i64_in _ (by omega)
          have hr2 : IntKind.i64.wrap ((m : Int) - 1) = (m : Int) - 1 := IntWalk.i64_in _ (by omega)
          have hr3 : IntKind.i64.wrap ((m : Int) - 1 - (j : Int)) = (m : Int) - 1 - (j : Int) := IntWalk.i64_in _ (by omega)
          go_wp2
          go_region_held3 (fun w' => w'.cell? ⟨g, j, none⟩ = some (.int .u8 (hexd v (m - 1 - j)))) (first | go_keep | exact cell_later hb5 (by assumption)) ((go_at_call 5; refine (digit_int v (m - 1 - j) _ _ hv (by omega) (by omega)).mono ?_; rintro e w5 ⟨rfl, hb5⟩))
          have hb6 : Below w2.heap.size w2 w5 := hbr2.drew.trans (hb5.mono hbr2.size)
          clear hb5
          go_wp2
          go_roundw
          case rel => exact ⟨j + 1, by omega, by go_num, hb6⟩
          case measure => simp [intOf]; omega
        · go_wp2
          go_ret
          exact ⟨rfl, hbw.trans (hbr2.mono hbw.size)⟩
  · go_enter Yba.func3, Yba.ntmps3
    go_wp2_with (first | (at_builtin; refine wpList_append_own_none rfl _ (.tmp 23) 22 rfl w.heap.size 5 i0 1 Yba.underlying22 hi _ 0 [] rfl (World.ownsRow_nil _ _ _ _) rfl ?_; have hown1 : w.ownsRow w.heap.size 5 1 (.slice none 0 0) 0 (elems z0 0) := World.ownsRow_nil _ _ _ _; have hbel1 : Below w.heap.size w w := Below.refl _ _) | (at_builtin; refine wpList_append_own _ rfl _ (.tmp 23) 22 rfl w.heap.size 5 i0 (.int .u8 0) 1 1 Yba.underlying22 hi hz0 hz1 hz2 rfl (by decide) _ 0 [] rfl (World.ownsRow_nil _ _ _ _) x len0 cap0 (elems z0 len0) rfl c0 c1 c2 (by unfold maxLen; omega) (by omega) (Nat.le_refl _) ?_; intro v1 w1 hown1 hgrow1 _; rw [Nat.zero_add, List.nil_append] at hown1; have hbel1 : Below w.heap.size w w1 := (Below.refl _ _).grown hgrow1 (Nat.le_refl _) (fun k hk => by cases hk)) | (go_at_call 4; refine (hex_any v m _ _ w.heap.size _ _ _ hv HMW.out (by omega) hm hl0 hown1 hbel1.size).mono ?_; rintro e w2 ⟨v2, rfl, hown2, hbel2⟩; obtain ⟨ao, c, rfl, hgot⟩ := got_of hown2; have hbw : Below w.heap.size w w2 := hbel1.trans hbel2) | fail)
    clear hown1 hown2 hbel1 hbel2
    go_loopw [10] (fun i wr => ∃ k : Nat, k ≤ len0 ∧ i = .int .i64 k ∧ Below w2.heap.size w2 wr) (fun i _ => len0 - (intOf i).toNat)
    case atStart => exact ⟨0, by omega, rfl, Below.refl _ _⟩
    case round =>
      obtain ⟨k, hk, rfl, hbr⟩ := hrel
      by_cases hlt : k < len0
      · obtain ⟨b, off, hx, hcb⟩ := hcame k hlt
        cases hx
        obtain ⟨g, rfl, hg, hgc⟩ := hgot k (by omega)
        rw [List.getElem?_append_left (by rw [elems_length hzl]; exact hlt), elems_at hzl hlt] at hgc
        have hcb1 := (hbw.cell (World.block_lt_of_cell? _ _ hcb)).trans hcb
        have hcb2 := (hbr.cell (World.block_lt_of_cell? _ _ hcb1)).trans hcb1
        have hgc2 := (hbr.cell (World.block_lt_of_cell? _ _ hgc)).trans hgc
        have hk1 : (k : Int) < ((len0 + m : Nat) : Int) := by omega
        have hk2 : (k : Int) < (len0 : Int) := by omega
        clear hcb hcb1 hgc hgot hcame
        generalize z0.getD k 0 = zk at hcb2 hgc2
        go_wp2
        go_quiet (fail)
        go_wp2
        go_roundw
        case rel => exact ⟨k + 1, by omega, by go_num, below_drewN hbr _⟩
        case measure => simp [intOf]; omega
      · go_wp2
        go_loopw [11] (fun i wr2 => i = .int .i64 0 ∧ Below w2.heap.size w2 wr2) (fun _ _ => 0)
        case atStart => exact ⟨rfl, hbr⟩
        case round =>
          obtain ⟨rfl, hbr2⟩ := hrel
          go_wp2
          go_ret
          exact ⟨rfl, hbw.trans (hbr2.mono hbw.size)⟩
  · go_enter Yba.func3, Yba.ntmps3
    go_wp2_with (first | (at_builtin; refine wpList_append_own_none rfl _ (.tmp 23) 22 rfl w.heap.size 5 i0 1 Yba.underlying22 hi _ 0 [] rfl (World.ownsRow_nil _ _ _ _) rfl ?_; have hown1 : w.ownsRow w.heap.size 5 1 (.slice none 0 0) 0 (elems z0 0) := World.ownsRow_nil _ _ _ _; have hbel1 : Below w.heap.size w w := Below.refl _ _) | (at_builtin; refine wpList_append_own _ rfl _ (.tmp 23) 22 rfl w.heap.size 5 i0 (.int .u8 0) 1 1 Yba.underlying22 hi hz0 hz1 hz2 rfl (by decide) _ 0 [] rfl (World.ownsRow_nil _ _ _ _) x len0 cap0 (elems z0 len0) rfl c0 c1 c2 (by unfold maxLen; omega) (by omega) (Nat.le_refl _) ?_; intro v1 w1 hown1 hgrow1 _; rw [Nat.zero_add, List.nil_append] at hown1; have hbel1 : Below w.heap.size w w1 := (Below.refl _ _).grown hgrow1 (Nat.le_refl _) (fun k hk => by cases hk)) | (go_at_call 4; refine (hex_any v m _ _ w.heap.size _ _ _ hv HMW.out (by omega) hm hl0 hown1 hbel1.size).mono ?_; rintro e w2 ⟨v2, rfl, hown2, hbel2⟩; obtain ⟨ao, c, rfl, hgot⟩ := got_of hown2; have hbw : Below w.heap.size w w2 := hbel1.trans hbel2) | fail)
    clear hown1 hown2 hbel1 hbel2
    go_loopw [10] (fun i wr => ∃ k : Nat, k ≤ len0 ∧ i = .int .i64 k ∧ Below w2.heap.size w2 wr) (fun i _ => len0 - (intOf i).toNat)
    case atStart => exact ⟨0, by omega, rfl, Below.refl _ _⟩
    case round =>
      obtain ⟨k, hk, rfl, hbr⟩ := hrel
      by_cases hlt : k < len0
      · obtain ⟨b, off, hx, hcb⟩ := hcame k hlt
        cases hx
        obtain ⟨g, rfl, hg, hgc⟩ := hgot k (by omega)
        rw [List.getElem?_append_left (by rw [elems_length hzl]; exact hlt), elems_at hzl hlt] at hgc
        have hcb1 := (hbw.cell (World.block_lt_of_cell? _ _ hcb)).trans hcb
        have hcb2 := (hbr.cell (World.block_lt_of_cell? _ _ hcb1)).trans hcb1
        have hgc2 := (hbr.cell (World.block_lt_of_cell? _ _ hgc)).trans hgc
        have hk1 : (k : Int) < ((len0 + m : Nat) : Int) := by omega
        have hk2 : (k : Int) < (len0 : Int) := by omega
        clear hcb hcb1 hgc hgot hcame
        generalize z0.getD k 0 = zk at hcb2 hgc2
        go_wp2
        go_quiet (fail)
        go_wp2
        go_roundw
        case rel => exact ⟨k + 1, by omega, by go_num, below_drewN hbr _⟩
        case measure => simp [intOf]; omega
      · go_wp2
        go_loopw [11] (fun i wr2 => ∃ j : Nat, j ≤ m ∧ i = .int .i64 j ∧ Below w2.heap.size w2 wr2) (fun i _ => m - (intOf i).toNat)
        case atStart => exact ⟨0, by omega, rfl, hbr⟩
        case round =>
          obtain ⟨j, hj, rfl, hbr2⟩ := hrel
          by_cases hlt2 : j < m
          · obtain ⟨g, rfl, hg, hgc⟩ := hgot (len0 + j) (by omega)
            rw [List.getElem?_append_right (by rw [elems_length hzl]; omega), elems_length hzl, Nat.add_sub_cancel_left, digs_at hlt2] at hgc
            have hgc2 := (hbr2.cell (World.block_lt_of_cell? _ _ hgc)).trans hgc
            skip
            have hk1 : (len0 : Int) + (j : Int) < (len0 : Int) + (m : Int) := by omega
            have hk0 : (0 : Int) ≤ (len0 : Int) + (j : Int) := by omega
            clear hgc hgot hcame
            have ht : ((len0 : Int) + (j : Int)).toNat = len0 + j := by omega
            have hr1 : IntKind.i64.wrap ((len0 : Int) + (j : Int)) = ((len0 : Int) + (j : Int)) := IntWalk.i64_in _ (by omega)
            have hr2 : IntKind.i64.wrap ((m : Int) - 1) = (m : Int) - 1 := IntWalk.i64_in _ (by omega)
            have hr3 : IntKind.i64.wrap ((m : Int) - 1 - (j : Int)) = (m : Int) - 1 - (j : Int) := IntWalk.i64_in _ (by omega)
            go_wp2
            go_region_held3 (fun w' => w'.cell? ⟨g, len0 + j, none⟩ = some (.int .u8 (hexd v (m - 1 - j)))) (first | go_keep | exact cell_later hb5 (by assumption)) ((go_at_call 5; refine (digit_int v (m - 1 - j) _ _ hv (by omega) (by omega)).mono ?_; rintro e w5 ⟨rfl, hb5⟩))
            have hb6 : Below w2.heap.size w2 w5 := hbr2.drew.trans (hb5.mono hbr2.size)
            clear hb5
            go_wp2
            go_roundw
            case rel => exact ⟨j + 1, by omega, by go_num, hb6⟩
            case measure => simp [intOf]; omega
          · go_wp2
            go_ret
            exact ⟨rfl, hbw.trans (hbr2.mono hbw.size)⟩

set_option maxHeartbeats 400000 in
theorem walk_out (a0 : Option Addr) (len0 cap0 : Nat) (v : Nat) (W : Int) (w : World) (h : 1024 < len0 ∨ 1024 < W ∨ W < -1024) :
    Calls Yba.prog 3 #[.slice a0 len0 cap0, .int .u64 v, .int .i64 W] w fun e w' => e = .returned (.bool true) ∧ Below w.heap.size w w' := by
  by_cases h1 : 1024 < len0
  · go_enter Yba.func3, Yba.ntmps3
    go_wp2
    go_ret
    exact ⟨rfl, Below.refl _ _⟩
  · by_cases h2 : 1024 < W
    · go_enter Yba.func3, Yba.ntmps3
      go_wp2
      go_ret
      exact ⟨rfl, Below.refl _ _⟩
    · have h3 : W < -1024 := by omega
      go_enter Yba.func3, Yba.ntmps3
      go_wp2
      go_ret
      exact ⟨rfl, Below.refl _ _⟩

theorem walk (a0 : Option Addr) (len0 cap0 : Nat) (z0 : List Int) (a1 : Int) (a2 : Int) (w : World) (w0 : IsRow .u8 w a0 len0 cap0 z0) (w1 : (Lit.int .u64 a1).wf = true) (_w2 : (Lit.int .i64 a2).wf = true) :
    Calls Yba.prog 3 #[.slice a0 len0 cap0, .int .u64 a1, .int .i64 a2] w fun e w' => e = .returned (.bool true) ∧ Below w.heap.size w w' := by
  have hb := bounds_u64 w1
  obtain ⟨v, rfl⟩ : ∃ v : Nat, a1 = v := ⟨a1.toNat, by omega⟩
  by_cases h : 1024 < len0 ∨ 1024 < a2 ∨ a2 < -1024
  · exact walk_out a0 len0 cap0 v a2 w h
  · exact walk_in a0 len0 cap0 z0 v a2 w (by omega) w0 (by omega) (by omega) (by omega)

end Go.Proofs.Ybulkac.lawS0002CDigits
