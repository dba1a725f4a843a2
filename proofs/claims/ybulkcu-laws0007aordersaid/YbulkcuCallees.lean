/-
  THE CALLEES BY CONTRACTS OF THEIR OWN: isLetter, versionCharWeight, cmp.Compare[int], zzs0007akey.
-/
import Derived.Test.YbulkcuRows
import Derived.Test.YbulkcuPlain
import Derived.WalkKit
import Derived.WalkSpells
import Derived.WalkLawsBesides
namespace Go.Proofs.Ybulkcu
open Go.RowKit Plain

theorem ret_int {k : IntKind} {a b : Int} (h : a = b) : Ending.returned (.int k a) = .returned (.int k b) := by rw [h]
theorem ret_two {k : IntKind} {a b c d : Int} (h : a = b) (h' : c = d) : Ending.returned (.tuple #[.int k a, .int k c]) = .returned (.tuple #[.int k b, .int k d]) := by rw [h, h']

theorem letter_iff (c : Nat) : letter c = true ↔ (97 ≤ c ∧ c ≤ 122) ∨ (65 ≤ c ∧ c ≤ 90) := by simp [letter]

set_option maxHeartbeats 400000 in
theorem letter_any (c : Nat) (w : World) : Calls Yba.prog 11 #[.int .u8 c] w fun e w' => e = .returned (.bool (letter c)) ∧ w = w' := by
  by_cases h1 : 97 ≤ c
  · by_cases h2 : c ≤ 122
    · have hl : letter c = true := (letter_iff c).2 (.inl ⟨h1, h2⟩)
      rw [hl]
      go_enter Yba.func11, Yba.ntmps11
      go_wp2
      go_ret
      exact ⟨by first | rfl | (simp; done) | (simp; omega), rfl⟩
    · have hl : letter c = false := by rw [← Bool.not_eq_true, letter_iff]; omega
      have h3 : 65 ≤ c := by omega
      have h4 : ¬ c ≤ 90 := by omega
      rw [hl]
      go_enter Yba.func11, Yba.ntmps11
      go_wp2
      go_ret
      exact ⟨by first | rfl | (simp; done) | (simp; omega), rfl⟩
  · by_cases h3 : 65 ≤ c
    · by_cases h4 : c ≤ 90
      · have hl : letter c = true := (letter_iff c).2 (.inr ⟨h3, h4⟩)
        rw [hl]
        go_enter Yba.func11, Yba.ntmps11
        go_wp2
        go_ret
        exact ⟨by first | rfl | (simp; done) | (simp; omega), rfl⟩
      · have hl : letter c = false := by rw [← Bool.not_eq_true, letter_iff]; omega
        rw [hl]
        go_enter Yba.func11, Yba.ntmps11
        go_wp2
        go_ret
        exact ⟨by first | rfl | (simp; done) | (simp; omega), rfl⟩
    · have hl : letter c = false := by rw [← Bool.not_eq_true, letter_iff]; omega
      rw [hl]
      go_enter Yba.func11, Yba.ntmps11
      go_wp2
      go_ret
      exact ⟨by first | rfl | (simp; done) | (simp; omega), rfl⟩

set_option maxHeartbeats 400000 in
theorem weight_any (s : ByteArray) (i : Nat) (w : World) (_hi : i ≤ 5000) (_hs : s.size ≤ 5000) : Calls Yba.prog 8 #[.string s, .int .i64 i] w fun e w' => e = .returned (.int .i64 (wt s i)) ∧ w = w' := by
  by_cases h : i < s.size
  · rw [wt_in h]
    have hc := (s[i]).toNat_lt
    by_cases h1 : (s[i]).toNat = 126
    · have e : Hid (wb (s[i]).toNat = -1) := by show _ = _; simp [wb, h1]
      have h1' : (((s[i]).toNat : Int) == 126) = true := by simp; omega
      have H1 : Hid ((s[i]).toNat = 126) := h1
      clear h1
      go_enter Yba.func8, Yba.ntmps8
      go_wp2
      go_ret
      exact ⟨ret_int (by rw [e.out]), rfl⟩
    · have h1' : (((s[i]).toNat : Int) == 126) = false := by simp; omega
      by_cases h2 : letter (s[i]).toNat = true
      · have e : Hid (wb (s[i]).toNat = (s[i]).toNat) := by show _ = _; simp [wb, h1, h2]
        go_enter Yba.func8, Yba.ntmps8
        go_wp2_with (first | (go_at_call 11; refine (letter_any _ _).mono ?_; rintro e w' ⟨rfl, rfl⟩) | fail)
        go_ret
        exact ⟨ret_int (by rw [e.out]), rfl⟩
      · have h2' : letter (s[i]).toNat = false := by simpa using h2
        have e : Hid (wb (s[i]).toNat = (s[i]).toNat + 256) := by show _ = _; simp [wb, h1, h2']
        clear h2
        go_enter Yba.func8, Yba.ntmps8
        go_wp2_with (first | (go_at_call 11; refine (letter_any _ _).mono ?_; rintro e w' ⟨rfl, rfl⟩) | fail)
        go_ret
        exact ⟨ret_int (by rw [e.out]), rfl⟩
  · rw [wt_out h]
    go_enter Yba.func8, Yba.ntmps8
    go_wp2
    go_ret
    exact ⟨rfl, rfl⟩

set_option maxHeartbeats 400000 in
theorem compare_any (x y : Int) (w : World) : Calls Yba.prog 7 #[.int .i64 x, .int .i64 y] w fun e w' => e = .returned (.int .i64 (sgn x y)) ∧ w = w' := by
  by_cases h1 : x < y
  · have e : Hid (sgn x y = -1) := by show _ = _; simp [sgn, h1]
    go_enter Yba.func7, Yba.ntmps7
    go_wp2
    go_ret
    exact ⟨ret_int (by rw [e.out]), rfl⟩
  · by_cases h2 : y < x
    · have e : Hid (sgn x y = 1) := by show _ = _; simp [sgn, h1, h2]
      go_enter Yba.func7, Yba.ntmps7
      go_wp2
      go_ret
      exact ⟨ret_int (by rw [e.out]), rfl⟩
    · have e : Hid (sgn x y = 0) := by show _ = _; simp [sgn, h1, h2]
      go_enter Yba.func7, Yba.ntmps7
      go_wp2
      go_ret
      exact ⟨ret_int (by rw [e.out]), rfl⟩

set_option maxHeartbeats 400000 in
theorem key_any (s : ByteArray) (i : Nat) (w : World) (_hi : i ≤ 5000) (_hs : s.size ≤ 5000) : Calls Yba.prog 9 #[.string s, .int .i64 i] w fun e w' => e = .returned (.tuple #[.int .i64 (cls s i), .int .i64 (cod s i)]) ∧ w = w' := by
  by_cases h : i < s.size
  · rw [cls_in h, cod_in h]
    have hc := (s[i]).toNat_lt
    by_cases h1 : (s[i]).toNat = 126
    · have e : Hid (cb (s[i]).toNat = 0) := by show _ = _; simp [cb, h1]
      have e' : Hid (xb (s[i]).toNat = 0) := by show _ = _; simp [xb, h1]
      have h1' : (((s[i]).toNat : Int) == 126) = true := by simp; omega
      have H1 : Hid ((s[i]).toNat = 126) := h1
      clear h1
      go_enter Yba.func9, Yba.ntmps9
      go_wp2
      go_ret2
      exact ⟨ret_two (by rw [e.out]) (by rw [e'.out]), rfl⟩
    · have h1' : (((s[i]).toNat : Int) == 126) = false := by simp; omega
      have e' : Hid (xb (s[i]).toNat = (s[i]).toNat) := by show _ = _; simp [xb, h1]
      by_cases h2 : letter (s[i]).toNat = true
      · have e : Hid (cb (s[i]).toNat = 2) := by show _ = _; simp [cb, h1, h2]
        rw [letter_iff] at h2
        by_cases h3 : 97 ≤ (s[i]).toNat ∧ (s[i]).toNat ≤ 122
        · obtain ⟨h3, h4⟩ := h3
          clear h2
          go_enter Yba.func9, Yba.ntmps9
          go_wp2
          go_ret2
          exact ⟨ret_two (by rw [e.out]) (by rw [e'.out]), rfl⟩
        · have h4 : 65 ≤ (s[i]).toNat := by omega
          have h5 : (s[i]).toNat ≤ 90 := by omega
          have h6 : ¬ 97 ≤ (s[i]).toNat := by omega
          clear h2 h3
          go_enter Yba.func9, Yba.ntmps9
          go_wp2
          go_ret2
          exact ⟨ret_two (by rw [e.out]) (by rw [e'.out]), rfl⟩
      · have e : Hid (cb (s[i]).toNat = 3) := by show _ = _; simp [cb, h1, h2]
        rw [letter_iff] at h2
        by_cases h3 : 97 ≤ (s[i]).toNat
        · have h4 : ¬ (s[i]).toNat ≤ 122 := by omega
          have h5 : 65 ≤ (s[i]).toNat := by omega
          have h6 : ¬ (s[i]).toNat ≤ 90 := by omega
          clear h2
          go_enter Yba.func9, Yba.ntmps9
          go_wp2
          go_ret2
          exact ⟨ret_two (by rw [e.out]) (by rw [e'.out]), rfl⟩
        · by_cases h4 : 65 ≤ (s[i]).toNat
          · have h5 : ¬ (s[i]).toNat ≤ 90 := by omega
            clear h2
            go_enter Yba.func9, Yba.ntmps9
            go_wp2
            go_ret2
            exact ⟨ret_two (by rw [e.out]) (by rw [e'.out]), rfl⟩
          · clear h2
            go_enter Yba.func9, Yba.ntmps9
            go_wp2
            go_ret2
            exact ⟨ret_two (by rw [e.out]) (by rw [e'.out]), rfl⟩
  · rw [cls_out h, cod_out h]
    go_enter Yba.func9, Yba.ntmps9
    go_wp2
    go_ret2
    exact ⟨rfl, rfl⟩

end Go.Proofs.Ybulkcu
