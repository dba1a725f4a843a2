/-
  'zzs0002cdigit' BY A CONTRACT OF ITS OWN: the digit of v at position p; it makes one array of its own and turns nothing that was there.
-/
import Derived.Test.YbulkacRows
import Derived.Test.YbulkacPlain
import Derived.WalkKit
import Derived.WalkSpells
import Derived.WalkLawsBesides
namespace Go.Proofs.Ybulkac.lawS0002CDigits
open Go.RowKit

theorem ret_int {k : IntKind} {a b : Int} (h : a = b) : Ending.returned (.int k a) = .returned (.int k b) := by rw [h]

set_option maxHeartbeats 400000 in
theorem digit_any (v p : Nat) (w : World) (hv : v < 18446744073709551616) (hp : p < 1024) :
    Calls Yba.prog 5 #[.int .u64 v, .int .i64 p] w fun e w' => e = .returned (.int .u8 (hexd v p)) ∧ Below w.heap.size w w' := by
  by_cases h16 : 16 ≤ p
  · rw [hexd_far hv h16]
    go_enter Yba.func5, Yba.ntmps5
    go_wp2
    go_ret
    exact ⟨rfl, Below.refl _ _⟩
  · go_enter Yba.func5, Yba.ntmps5
    go_wp2
    go_loopw [6, 7] (fun x i wr => ∃ k y : Nat, k ≤ 16 ∧ i = .int .i64 k ∧ x = .int .u64 y ∧ Hid (y = v / 16 ^ k) ∧ ∃ cs : Array Value, cs.size = 16 ∧ (∀ j, j < k → cs[j]? = some (.int .u64 ((v / 16 ^ j % 16 : Nat) : Int))) ∧ wr = w.alloc (.cells cs 27)) (fun _ i _ => 16 - (intOf i).toNat)
    case atStart => exact ⟨0, v, by omega, rfl, rfl, (by simp : v = v / 16 ^ 0), _, by rfl, fun j hj => by omega, rfl⟩
    case round =>
      obtain ⟨k, y, hk, rfl, rfl, hy, cs, hcs, hcell, rfl⟩ := hrel
      have hyb : y < 18446744073709551616 := by rw [hy.out]; exact Nat.lt_of_le_of_lt (Nat.div_le_self _ _) hv
      by_cases hlt : k < 16
      · have hck : (w.alloc (.cells cs 27)).cell? ⟨w.heap.size, k, none⟩ = some cs[k] := by rw [World.cell?_alloc_at _ _ _ _ rfl]; simp [hcs, hlt]
        go_wp2
        go_roundw
        case rel =>
          refine ⟨k + 1, y / 16, by omega, by go_num, by go_num, ?_, _, ?_, ?_, rfl⟩
          · show y / 16 = v / 16 ^ (k + 1)
            rw [hy.out, step16]
          · simp [hcs]
          · intro j hj
            by_cases hjk : j = k
            · subst hjk
              have h1 := hy.out
              simp [hcs, hlt, h1]
            · rw [Array.getElem?_setIfInBounds_ne (by omega)]
              exact hcell j (by omega)
        case measure => simp [intOf]; omega
      · have hcp : (w.alloc (.cells cs 27)).cell? ⟨w.heap.size, p, none⟩ = some (.int .u64 ((v / 16 ^ p % 16 : Nat) : Int)) := by rw [World.cell?_alloc_at _ _ _ _ rfl]; exact hcell p (by omega)
        have hn : v / 16 ^ p % 16 < 16 := by omega
        have hd : Hid (hexd v p = dig (v / 16 ^ p % 16)) := rfl
        clear hcell
        generalize v / 16 ^ p % 16 = n at hcp hn hd
        by_cases h10 : n < 10
        · go_wp2
          go_ret
          exact ⟨ret_int (by rw [hd.out, dig_lo h10]; omega), (Below.refl _ _).alloc (Nat.le_refl _) _⟩
        · go_wp2
          go_ret
          exact ⟨ret_int (by rw [hd.out, dig_hi (by omega)]; omega), (Below.refl _ _).alloc (Nat.le_refl _) _⟩

end Go.Proofs.Ybulkac.lawS0002CDigits
