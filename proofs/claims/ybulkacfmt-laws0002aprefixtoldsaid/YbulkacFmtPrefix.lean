/-
  THE WALK OF 'LawS0002APrefix'.
-/
import Derived.Test.YbulkacFmtOwn
import Derived.RegionTactic
import Derived.Deep.QuietTactic
import Derived.BigQuiet
namespace Go.Proofs.YbulkacFmt
open Go.RowKit Go.Extern.Stop Go.Stop Go.Extern Go.Kit

theorem Own.formN {w : World} {B n : Nat} {v : Value} {l : List UInt8} (h : Own w B v l) (hn : l.length = n) :
    ∃ ao c, v = .slice ao n c ∧ n ≤ c ∧ c ≤ maxLen ∧ ((ao = none ∧ l = [] ∧ c = 0) ∨ ∃ g, ao = some ⟨g, 0, none⟩ ∧ g < w.heap.size ∧ ∀ j (hj : j < l.length), w.cell? ⟨g, j, none⟩ = some (.int .u8 (l[j]).toNat)) := by
  subst hn; exact h.form

set_option maxHeartbeats 400000 in
theorem prefix_main (F : Interp) (a0 : Option Addr) (len0 cap0 : Nat) (z0 : List Int) (a1 : Option Addr) (len1 cap1 : Nat) (N V : Nat → ByteArray) (w : World) (hF : F.told.answers w.tape)
    (hrow : IsRow .u8 w a0 len0 cap0 z0) (hat : Attrs w a1 len1 N V) (hl0 : len0 ≤ 1024) (hl1 : len1 ≤ 256) (hs : Small len1 N V) :
    Calls Ybaf.prog 5 #[.slice a0 len0 cap0, .slice a1 len1 cap1] w fun e w' => e = .returned (.bool true) ∧ Below w.heap.size w w' := by
  have hzl : len0 ≤ z0.length := by
    rcases hrow with ⟨_, rfl, _, rfl⟩ | ⟨_, _, h1, _, h2, _, _⟩
    · simp
    · omega
  have hbl := bytesIn_length hzl
  have hbl' : (bytesIn z0 len0).length ≤ 1024 := by omega
  have hll := lines_length hs len1 (Nat.le_refl _)
  obtain ⟨t, ht⟩ : ∃ t, t = (lines N V len1).length := ⟨_, rfl⟩
  have hn : Hid ((bytesIn z0 len0 ++ lines N V len1).length = len0 + t) := by show _ = _; rw [List.length_append, hbl, ht]
  have ht0 : Hid (len1 = 0 → lines N V len1 = []) := fun h => by rw [h]; rfl
  have ht1 : len1 = 0 → t = 0 := fun h => by rw [ht, h]; rfl
  have ht2 : 1 ≤ len1 → 1 ≤ t := fun h => by
    obtain ⟨k, rfl⟩ : ∃ k, len1 = k + 1 := ⟨len1 - 1, by omega⟩
    have := (line_length (hs k (by omega)).1 (hs k (by omega)).2).2
    rw [ht, lines, List.length_append]
    omega
  have ht3 : t ≤ 3000000 := by omega
  clear ht
  go_enter Ybaf.func5, Ybaf.ntmps5
  go_wp2_with (first | (go_at_call 6; refine (big_no _ _ _ N V _ hat hl1 hs).mono ?_; rintro e w' ⟨rfl, rfl⟩) | (go_at_call 7; refine (copy_any _ _ _ z0 w _ hrow (Below.refl _ _) hl0).mono ?_; rintro e w3 ⟨v3, rfl, hown3, hb3⟩) | (go_at_call 8; refine (attrs_any F _ _ _ _ _ _ N V w _ (by rw [hb3.tape]; exact hF) hown3 hb3.size hat hb3 (Nat.le_refl _) hl1 hs hbl').mono ?_; rintro e w4 ⟨v4, rfl, hown4, hb4⟩; have HQ : Hid ((convert 22 9 v4).run Ybaf.prog w4 = .ok (.string (str (bytesIn z0 len0 ++ lines N V len1))) w4) := hown4.conv; obtain ⟨ao, c, rfl, hnc, hcm, hform⟩ := hown4.formN hn.out; have hb5 := hb3.trans hb4; clear hown4 hown3 hb3 hb4) | fail)
  have q1 : (convert 22 9 (.slice ao len0 c)).run Ybaf.prog w4.drew = .ok (.string (str (bytesIn z0 len0))) w4.drew := by
    have := conv_cells (w' := w4.drew) (ao := ao) (l := bytesIn z0 len0 ++ lines N V len1) (c := c) (k := len0) (by rw [hn.out]; omega) (by
      rcases hform with ⟨h1, h2, _⟩ | ⟨g, h1, _, h2⟩
      · exact .inl ⟨h1, h2⟩
      · exact .inr ⟨g, h1, h2⟩)
    rw [List.take_left' hbl] at this
    exact this
  have q2 : (convert 22 9 (.slice a0 len0 cap0)).run Ybaf.prog w4.drew = .ok (.string (str (bytesIn z0 len0))) w4.drew := conv_row hrow hb5.drew
  have q3 : len1 = 0 → (convert 22 9 (.slice ao (len0 + t) c)).run Ybaf.prog w4.drew = .ok (.string (str (bytesIn z0 len0))) w4.drew := fun h0 => by
    have := conv_cells (w' := w4.drew) (ao := ao) (l := bytesIn z0 len0 ++ lines N V len1) (c := c) (k := len0 + t) (by rw [hn.out]; omega) (by
      rcases hform with ⟨h1, h2, _⟩ | ⟨g, h1, _, h2⟩
      · exact .inl ⟨h1, h2⟩
      · exact .inr ⟨g, h1, h2⟩)
    rw [ht0.out h0, List.append_nil, List.take_of_length_le (by rw [hbl]; omega)] at this
    exact this
  have hlc : len0 ≤ c := by omega
  unfold maxLen at hcm
  have hb6 := hb5.drew
  by_cases h0 : len1 = 0
  · have q4 := q3 h0
    have t0 := ht1 h0
    clear hs hat hll q3 ht0 ht1 ht2 hF hrow hn HQ
    rcases hform with ⟨rfl, hnil, rfl⟩ | ⟨g, rfl, _, _⟩
    · have q5 : (convert 22 9 (.slice none 0 0)).run Ybaf.prog w4.drew = .ok (.string (str (bytesIn z0 len0))) w4.drew := by
        have e : len0 = 0 := by omega
        have := q1
        simp only [e] at this ⊢
        exact this
      go_region
      all_goals
        go_wp2
        go_ret
        exact ⟨by simp, hb6⟩
    · go_region
      all_goals
        go_wp2
        go_ret
        exact ⟨by simp, hb6⟩
  · have t1 := ht2 (by omega)
    clear hs hat hll q3 ht0 ht1 ht2 hF hrow hn HQ
    rcases hform with ⟨rfl, hnil, rfl⟩ | ⟨g, rfl, _, _⟩
    · omega
    · go_region
      all_goals
        go_wp2
        go_ret
        exact ⟨by simp; omega, hb6⟩

set_option maxHeartbeats 400000 in
theorem prefix_walk (F : Interp) (a0 : Option Addr) (len0 cap0 : Nat) (z0 : List Int) (a1 : Option Addr) (len1 cap1 : Nat) (N V : Nat → ByteArray) (w : World) (hF : F.told.answers w.tape)
    (hrow : IsRow .u8 w a0 len0 cap0 z0) (hat : Attrs w a1 len1 N V) :
    Calls Ybaf.prog 5 #[.slice a0 len0 cap0, .slice a1 len1 cap1] w fun e w' => e = .returned (.bool true) ∧ Below w.heap.size w w' := by
  by_cases h0 : 1024 < len0
  · go_enter Ybaf.func5, Ybaf.ntmps5
    go_wp2
    go_ret
    exact ⟨rfl, Below.refl _ _⟩
  · by_cases hb : len1 ≤ 256 ∧ Small len1 N V
    · exact prefix_main F a0 len0 cap0 z0 a1 len1 cap1 N V w hF hrow hat (by omega) hb.1 hb.2
    · go_enter Ybaf.func5, Ybaf.ntmps5
      go_wp2_with (first | (go_at_call 6; refine (big_yes _ _ _ N V _ hat hb).mono ?_; rintro e w' ⟨rfl, rfl⟩) | fail)
      go_ret
      exact ⟨rfl, Below.refl _ _⟩

end Go.Proofs.YbulkacFmt
