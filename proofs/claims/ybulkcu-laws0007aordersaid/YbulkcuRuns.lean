/-
  'compareNonDigitRuns' AND 'zzs0007amodel' BY CONTRACTS OF THEIR OWN.
-/
import Derived.Test.YbulkcuCallees
namespace Go.Proofs.Ybulkcu
open Go.RowKit Plain

theorem upto_at {f g : Nat → Int} {k n : Nat} (h0 : upto f g k = 0) (hk : k + 1 ≤ n) (h : sgn (f k) (g k) ≠ 0) : sgn (f k) (g k) = upto f g n := by
  have e := upto_succ h0
  rw [← e] at h ⊢
  exact (upto_stays h n hk).symm

theorem upto2_at {c x d y : Nat → Int} {k n : Nat} (h0 : upto2 c x d y k = 0) (hk : k + 1 ≤ n) (h : sgn2 (c k) (x k) (d k) (y k) ≠ 0) : sgn2 (c k) (x k) (d k) (y k) = upto2 c x d y n := by
  have e := upto2_succ h0
  rw [← e] at h ⊢
  exact (upto2_stays h n hk).symm

set_option maxHeartbeats 400000 in
theorem runs_any (a b : ByteArray) (n : Nat) (w : World) (ha : a.size ≤ n) (hb : b.size ≤ n) (hn : n ≤ 4096) (hm : n ≤ a.size ∨ n ≤ b.size) :
    Calls Yba.prog 5 #[.string a, .string b] w fun e w' => e = .returned (.int .i64 (upto (wt a) (wt b) n)) ∧ w = w' := by
  go_enter Yba.func5, Yba.ntmps5
  go_wp2
  go_loop [5] (fun i => ∃ k : Nat, k ≤ n ∧ i = .int .i64 k ∧ Hid (upto (wt a) (wt b) k = 0)) (fun i => n - (intOf i).toNat)
  case atStart => exact ⟨0, by omega, rfl, rfl⟩
  case round =>
    obtain ⟨k, hk, rfl, hz⟩ := hrel
    by_cases hlt : k < n
    · by_cases h0 : sgn (wt a k) (wt b k) = 0
      · have h0' : (sgn (wt a k) (wt b k) != 0) = false := by simp [h0]
        have hz' : Hid (upto (wt a) (wt b) (k + 1) = 0) := by show _ = _; rw [upto_succ hz.out]; exact h0
        clear h0
        by_cases h1 : k < a.size
        all_goals
          have h2 : k < a.size ∨ k < b.size := by omega
          go_wp2_with (first | (go_at_call 8; refine (weight_any _ _ _ (by omega) (by omega)).mono ?_; rintro e w' ⟨rfl, rfl⟩) | (go_at_call 7; refine (compare_any _ _ _).mono ?_; rintro e w' ⟨rfl, rfl⟩) | fail)
          go_round
          case rel => exact ⟨k + 1, by omega, by go_num, hz'⟩
          case measure => simp [intOf]; omega
      · have h0' : (sgn (wt a k) (wt b k) != 0) = true := by simp [h0]
        have e := upto_at hz.out (show k + 1 ≤ n by omega) h0
        have E : Hid (sgn (wt a k) (wt b k) = upto (wt a) (wt b) n) := e
        clear h0 e
        by_cases h1 : k < a.size
        all_goals
          have h2 : k < a.size ∨ k < b.size := by omega
          go_wp2_with (first | (go_at_call 8; refine (weight_any _ _ _ (by omega) (by omega)).mono ?_; rintro e w' ⟨rfl, rfl⟩) | (go_at_call 7; refine (compare_any _ _ _).mono ?_; rintro e w' ⟨rfl, rfl⟩) | fail)
          go_ret
          exact ⟨ret_int E.out, rfl⟩
    · obtain rfl : k = n := by omega
      go_wp2
      go_ret
      exact ⟨ret_int hz.out.symm, rfl⟩

theorem sgn2_lt {c x d y : Int} (h : c < d) : sgn2 c x d y = -1 := by simp [sgn2, h]
theorem sgn2_gt {c x d y : Int} (h : d < c) : sgn2 c x d y = 1 := by simp [sgn2, h, show ¬ c < d by omega]
theorem sgn2_eq {c x d y : Int} (h : c = d) : sgn2 c x d y = sgn x y := by simp [sgn2, h]
theorem sgn_lt {x y : Int} (h : x < y) : sgn x y = -1 := by simp [sgn, h]
theorem sgn_gt {x y : Int} (h : y < x) : sgn x y = 1 := by simp [sgn, h, show ¬ x < y by omega]
theorem sgn_eq {x y : Int} (h : x = y) : sgn x y = 0 := by simp [sgn, h]

set_option maxHeartbeats 800000 in
theorem model_b (a b : ByteArray) (w : World) (ha : a.size ≤ 4096) (hb : b.size ≤ 4096) (hm : a.size < b.size) :
    Calls Yba.prog 6 #[.string a, .string b] w fun e w' => e = .returned (.int .i64 (upto2 (cls a) (cod a) (cls b) (cod b) b.size)) ∧ w = w' := by
  go_enter Yba.func6, Yba.ntmps6
  go_wp2
  go_loop [6] (fun i => ∃ k : Nat, k ≤ b.size ∧ i = .int .i64 k ∧ Hid (upto2 (cls a) (cod a) (cls b) (cod b) k = 0)) (fun i => b.size - (intOf i).toNat)
  case atStart => exact ⟨0, by omega, rfl, rfl⟩
  case round =>
    obtain ⟨k, hk, rfl, hz⟩ := hrel
    by_cases hlt : k < b.size
    · by_cases h1 : cls a k < cls b k
      · have e := sgn2_lt (x := cod a k) (y := cod b k) h1
        have E : Hid (-1 = upto2 (cls a) (cod a) (cls b) (cod b) b.size) := by
          show _ = _
          rw [← e]; exact upto2_at hz.out (by omega) (by rw [e]; decide)
        clear e
        go_wp2_with (first | (go_at_call 9; refine (key_any _ _ _ (by omega) (by omega)).mono ?_; rintro e w' ⟨rfl, rfl⟩) | fail)
        go_ret
        exact ⟨ret_int E.out, rfl⟩
      · by_cases h2 : cls b k < cls a k
        · have e := sgn2_gt (x := cod a k) (y := cod b k) h2
          have E : Hid (1 = upto2 (cls a) (cod a) (cls b) (cod b) b.size) := by
            show _ = _
            rw [← e]; exact upto2_at hz.out (by omega) (by rw [e]; decide)
          clear e
          go_wp2_with (first | (go_at_call 9; refine (key_any _ _ _ (by omega) (by omega)).mono ?_; rintro e w' ⟨rfl, rfl⟩) | fail)
          go_ret
          exact ⟨ret_int E.out, rfl⟩
        · have e0 : sgn2 (cls a k) (cod a k) (cls b k) (cod b k) = sgn (cod a k) (cod b k) := sgn2_eq (by omega)
          by_cases h3 : cod a k < cod b k
          · have e := e0.trans (sgn_lt h3)
            have E : Hid (-1 = upto2 (cls a) (cod a) (cls b) (cod b) b.size) := by
              show _ = _
              rw [← e]; exact upto2_at hz.out (by omega) (by rw [e]; decide)
            clear e e0
            go_wp2_with (first | (go_at_call 9; refine (key_any _ _ _ (by omega) (by omega)).mono ?_; rintro e w' ⟨rfl, rfl⟩) | fail)
            go_ret
            exact ⟨ret_int E.out, rfl⟩
          · by_cases h4 : cod b k < cod a k
            · have e := e0.trans (sgn_gt h4)
              have E : Hid (1 = upto2 (cls a) (cod a) (cls b) (cod b) b.size) := by
                show _ = _
                rw [← e]; exact upto2_at hz.out (by omega) (by rw [e]; decide)
              clear e e0
              go_wp2_with (first | (go_at_call 9; refine (key_any _ _ _ (by omega) (by omega)).mono ?_; rintro e w' ⟨rfl, rfl⟩) | fail)
              go_ret
              exact ⟨ret_int E.out, rfl⟩
            · have e := e0.trans (sgn_eq (by omega))
              have E : Hid (upto2 (cls a) (cod a) (cls b) (cod b) (k + 1) = 0) := by
                show _ = _
                rw [upto2_succ hz.out]; exact e
              clear e e0
              go_wp2_with (first | (go_at_call 9; refine (key_any _ _ _ (by omega) (by omega)).mono ?_; rintro e w' ⟨rfl, rfl⟩) | fail)
              go_round
              case rel => exact ⟨k + 1, by omega, by go_num, E⟩
              case measure => simp [intOf]; omega
    · obtain rfl : k = b.size := by omega
      go_wp2
      go_ret
      exact ⟨ret_int hz.out.symm, rfl⟩

set_option maxHeartbeats 800000 in
theorem model_a (a b : ByteArray) (w : World) (ha : a.size ≤ 4096) (hb : b.size ≤ 4096) (hm : ¬ a.size < b.size) :
    Calls Yba.prog 6 #[.string a, .string b] w fun e w' => e = .returned (.int .i64 (upto2 (cls a) (cod a) (cls b) (cod b) a.size)) ∧ w = w' := by
  go_enter Yba.func6, Yba.ntmps6
  go_wp2
  go_loop [6] (fun i => ∃ k : Nat, k ≤ a.size ∧ i = .int .i64 k ∧ Hid (upto2 (cls a) (cod a) (cls b) (cod b) k = 0)) (fun i => a.size - (intOf i).toNat)
  case atStart => exact ⟨0, by omega, rfl, rfl⟩
  case round =>
    obtain ⟨k, hk, rfl, hz⟩ := hrel
    by_cases hlt : k < a.size
    · by_cases h1 : cls a k < cls b k
      · have e := sgn2_lt (x := cod a k) (y := cod b k) h1
        have E : Hid (-1 = upto2 (cls a) (cod a) (cls b) (cod b) a.size) := by
          show _ = _
          rw [← e]; exact upto2_at hz.out (by omega) (by rw [e]; decide)
        clear e
        go_wp2_with (first | (go_at_call 9; refine (key_any _ _ _ (by omega) (by omega)).mono ?_; rintro e w' ⟨rfl, rfl⟩) | fail)
        go_ret
        exact ⟨ret_int E.out, rfl⟩
      · by_cases h2 : cls b k < cls a k
        · have e := sgn2_gt (x := cod a k) (y := cod b k) h2
          have E : Hid (1 = upto2 (cls a) (cod a) (cls b) (cod b) a.size) := by
            show _ = _
            rw [← e]; exact upto2_at hz.out (by omega) (by rw [e]; decide)
          clear e
          go_wp2_with (first | (go_at_call 9; refine (key_any _ _ _ (by omega) (by omega)).mono ?_; rintro e w' ⟨rfl, rfl⟩) | fail)
          go_ret
          exact ⟨ret_int E.out, rfl⟩
        · have e0 : sgn2 (cls a k) (cod a k) (cls b k) (cod b k) = sgn (cod a k) (cod b k) := sgn2_eq (by omega)
          by_cases h3 : cod a k < cod b k
          · have e := e0.trans (sgn_lt h3)
            have E : Hid (-1 = upto2 (cls a) (cod a) (cls b) (cod b) a.size) := by
              show _ = _
              rw [← e]; exact upto2_at hz.out (by omega) (by rw [e]; decide)
            clear e e0
            go_wp2_with (first | (go_at_call 9; refine (key_any _ _ _ (by omega) (by omega)).mono ?_; rintro e w' ⟨rfl, rfl⟩) | fail)
            go_ret
            exact ⟨ret_int E.out, rfl⟩
          · by_cases h4 : cod b k < cod a k
            · have e := e0.trans (sgn_gt h4)
              have E : Hid (1 = upto2 (cls a) (cod a) (cls b) (cod b) a.size) := by
                show _ = _
                rw [← e]; exact upto2_at hz.out (by omega) (by rw [e]; decide)
              clear e e0
              go_wp2_with (first | (go_at_call 9; refine (key_any _ _ _ (by omega) (by omega)).mono ?_; rintro e w' ⟨rfl, rfl⟩) | fail)
              go_ret
              exact ⟨ret_int E.out, rfl⟩
            · have e := e0.trans (sgn_eq (by omega))
              have E : Hid (upto2 (cls a) (cod a) (cls b) (cod b) (k + 1) = 0) := by
                show _ = _
                rw [upto2_succ hz.out]; exact e
              clear e e0
              go_wp2_with (first | (go_at_call 9; refine (key_any _ _ _ (by omega) (by omega)).mono ?_; rintro e w' ⟨rfl, rfl⟩) | fail)
              go_round
              case rel => exact ⟨k + 1, by omega, by go_num, E⟩
              case measure => simp [intOf]; omega
    · obtain rfl : k = a.size := by omega
      go_wp2
      go_ret
      exact ⟨ret_int hz.out.symm, rfl⟩

end Go.Proofs.Ybulkcu
