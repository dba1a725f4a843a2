/-
  'appendHex' BY A CONTRACT OF ITS OWN: onto a slice that the call owns, the digits of v at positions width-1 .. 0.
-/
import Derived.Test.YbulkacDig
import Derived.Laws.Bits64b
namespace Go.Proofs.Ybulkac.lawS0002CDigits
open Go.RowKit

theorem info5 : (Yba.prog.info? 5).map (fun i => (i.zero, i.size, i.bytes)) = some (some (.int .u8 0), 1, 1) := by kernel_rfl

/-- The first i digits that are appended at width m. -/
def digs (v m i : Nat) : List Value := (List.range i).map fun j => Value.int .u8 (hexd v (m - 1 - j))

theorem digs_length (v m i : Nat) : (digs v m i).length = i := by simp [digs]
theorem digs_succ (v m i : Nat) : digs v m (i + 1) = digs v m i ++ [Value.int .u8 (hexd v (m - 1 - i))] := by simp [digs, List.range_succ]

theorem shr_nat (v p : Nat) (hv : v < 18446744073709551616) : v / 2 ^ min (4 * p) 64 = v / 16 ^ p := by
  by_cases h : 4 * p ≤ 64
  · rw [Nat.min_eq_left h, show (16 : Nat) = 2 ^ 4 by decide, ← Nat.pow_mul]
  · rw [Nat.min_eq_right (by omega)]
    have h1 : v / 2 ^ 64 = 0 := Nat.div_eq_of_lt (by simpa using hv)
    have h2 : v / 16 ^ p = 0 := by
      refine Nat.div_eq_of_lt (Nat.lt_of_lt_of_le hv ?_)
      rw [show (18446744073709551616 : Nat) = 16 ^ 16 by decide]
      exact Nat.pow_le_pow_right (by decide) (by omega)
    rw [h1, h2]

theorem nib (v p : Nat) (hv : v < 18446744073709551616) : bits .and .u64 ((v : Int) / 2 ^ min (4 * p) 64) 15 = ((v / 16 ^ p % 16 : Nat) : Int) := by
  have e : ((v : Int) / 2 ^ min (4 * p) 64) = ((v / 2 ^ min (4 * p) 64 : Nat) : Int) := by simp
  have hb : v / 16 ^ p < 18446744073709551616 := Nat.lt_of_le_of_lt (Nat.div_le_self _ _) hv
  rw [e, shr_nat v p hv, show (15 : Int) = ((15 : Nat) : Int) by rfl, bits_and_u64_nat _ 15 hb (by decide)]
  exact congrArg _ (Nat.and_two_pow_sub_one_eq_mod (v / 16 ^ p) 4)

theorem table : ∀ (q : Nat) (h : q < (⟨#[48, 49, 50, 51, 52, 53, 54, 55, 56, 57, 65, 66, 67, 68, 69, 70]⟩ : ByteArray).size), ((⟨#[48, 49, 50, 51, 52, 53, 54, 55, 56, 57, 65, 66, 67, 68, 69, 70]⟩ : ByteArray)[q]).toNat = dig q := by
  intro q h
  have h16 : q < 16 := h
  have : q = 0 ∨ q = 1 ∨ q = 2 ∨ q = 3 ∨ q = 4 ∨ q = 5 ∨ q = 6 ∨ q = 7 ∨ q = 8 ∨ q = 9 ∨ q = 10 ∨ q = 11 ∨ q = 12 ∨ q = 13 ∨ q = 14 ∨ q = 15 := by omega
  rcases this with rfl | rfl | rfl | rfl | rfl | rfl | rfl | rfl | rfl | rfl | rfl | rfl | rfl | rfl | rfl | rfl <;> rfl

set_option maxHeartbeats 400000 in
theorem hex_pos (v m n : Nat) (B : Nat) (sv : Value) (xs : List Value) (w : World) (hv : v < 18446744073709551616) (hm1 : 1 ≤ m) (hm : m ≤ 1024) (hn : n ≤ 1024)
    (hown : w.ownsRow B 5 1 sv n xs) (hB : B ≤ w.heap.size) :
    Calls Yba.prog 4 #[sv, .int .u64 v, .int .i64 m] w fun e w' => ∃ v', e = .returned v' ∧ w'.ownsRow B 5 1 v' (n + m) (xs ++ digs v m m) ∧ Below B w w' := by
  obtain ⟨i0, hi, hz0, hz1, hz2⟩ := info_parts info5
  go_enter Yba.func4, Yba.ntmps4
  go_wp2
  go_loopw [0, 7] (fun b s wr => ∃ i : Nat, i ≤ m ∧ s = .int .i64 (4 * ((m : Int) - 1 - i)) ∧ wr.ownsRow B 5 1 b (n + i) (xs ++ digs v m i) ∧ Below B w wr) (fun _ s _ => (intOf s + 4).toNat)
  case atStart => exact ⟨0, by omega, by go_num, by simpa [digs] using hown, Below.refl _ _⟩
  case round =>
    obtain ⟨i, him, rfl, hown1, hb⟩ := hrel
    by_cases hlt : i < m
    · have hnib := nib v (m - 1 - i) hv
      have hd : Hid (hexd v (m - 1 - i) = dig (v / 16 ^ (m - 1 - i) % 16)) := rfl
      have hq : v / 16 ^ (m - 1 - i) % 16 < 16 := by omega
      have ht := table
      generalize v / 16 ^ (m - 1 - i) % 16 = q at hnib hd hq
      go_wp2_with (first | (at_builtin; refine wpList_append_own _ rfl _ _ 22 rfl B 5 i0 (.int .u8 0) 1 1 Yba.underlying22 hi hz0 hz1 hz2 rfl (by decide) _ _ _ rfl (hown1.alloc _) ⟨wr.heap.size, 0, none⟩ 1 1 [Value.int .u8 (dig q)] rfl rfl ?c1 ?c2 ?c3 ?c4 ?c5 ?_) | fail)
      case c1 =>
        intro j u hj
        match j, hj with
        | 0, hj => simp at hj; subst hj; simp [Addr.add]
      case c2 => intro u hu; simp at hu; subst hu; rfl
      case c3 => unfold maxLen; omega
      case c4 => omega
      case c5 => have := hb.size; simp; omega
      intro v' w1 hown' hgrow _
      have hb1 : Below B w w1 := (hb.alloc (by have := hb.size; omega) _).grown hgrow (by have := hb.size; simp; omega) (fun k hk => (hown1.lt k hk).1)
      clear hnib ht hgrow hown1
      go_wp2
      go_roundw
      case rel =>
        refine ⟨i + 1, by omega, by go_num, ?_, hb1⟩
        rw [digs_succ, hd.out]
        exact hown'
      case measure => simp [intOf]; omega
    · obtain rfl : i = m := by omega
      go_wp2
      go_ret
      exact ⟨_, rfl, hown1, hb⟩

set_option maxHeartbeats 400000 in
theorem hex_neg (v n : Nat) (W : Int) (B : Nat) (sv : Value) (xs : List Value) (w : World) (h0 : W ≤ 0) (h1 : -1024 ≤ W)
    (hown : w.ownsRow B 5 1 sv n xs) :
    Calls Yba.prog 4 #[sv, .int .u64 v, .int .i64 W] w fun e w' => ∃ v', e = .returned v' ∧ w'.ownsRow B 5 1 v' (n + 0) (xs ++ digs v 0 0) ∧ Below B w w' := by
  have hs : 4 * (W - 1) < 0 := by omega
  go_enter Yba.func4, Yba.ntmps4
  go_wp2
  go_loopw [0, 7] (fun b s wr => b = sv ∧ s = .int .i64 (4 * (W - 1)) ∧ wr = w) (fun _ _ _ => 0)
  case atStart => exact ⟨rfl, rfl, rfl⟩
  case round =>
    obtain ⟨rfl, rfl, rfl⟩ := hrel
    go_wp2
    go_ret
    exact ⟨_, rfl, by simpa [digs] using hown, Below.refl _ _⟩

/-- At every width of the law's: m = max(W, 0) digits are appended. -/
theorem hex_any (v m n : Nat) (W : Int) (B : Nat) (sv : Value) (xs : List Value) (w : World) (hv : v < 18446744073709551616) (hW : (W ≤ 0 ∧ m = 0) ∨ W = m) (h1 : -1024 ≤ W) (hm : m ≤ 1024) (hn : n ≤ 1024)
    (hown : w.ownsRow B 5 1 sv n xs) (hB : B ≤ w.heap.size) :
    Calls Yba.prog 4 #[sv, .int .u64 v, .int .i64 W] w fun e w' => ∃ v', e = .returned v' ∧ w'.ownsRow B 5 1 v' (n + m) (xs ++ digs v m m) ∧ Below B w w' := by
  by_cases h : 1 ≤ m
  · obtain rfl : W = m := by omega
    exact hex_pos v m n B sv xs w hv h hm hn hown hB
  · obtain rfl : m = 0 := by omega
    exact hex_neg v n W B sv xs w (by omega) h1 hown

end Go.Proofs.Ybulkac.lawS0002CDigits
