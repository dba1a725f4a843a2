/-
  THE PROOF OF 'Rows.LawS0007AOrderSaid': the frame of the given shell, its one hole filled.
-/
import Derived.Test.YbulkcuRuns
import Derived.Lib.Strings
import Derived.WalkKit
import Derived.ProofKit
import Derived.OpenShut
import Derived.ShutString
namespace Go.Proofs.Ybulkcu.lawS0007AOrder
open Go.ChangeShapes Go.WideShapes Go.ChangeAt Go.RowKit Plain
open Go.ChangeMaps (open_string shut_string)
set_option linter.unusedVariables false      -- a walk need not use every 'w<i>' (that an integer argument fits its kind)

theorem own : ownKnob Yba.prog.godebug = none := by kernel_rfl

set_option maxHeartbeats 400000 in
theorem walk_in (a0 a1 : ByteArray) (h0 : a0.size ≤ 4096) (h1 : a1.size ≤ 4096) (w : World) :
    Calls Yba.prog 4 #[.string a0, .string a1] w fun e w' => e = .returned (.bool true) ∧ Grown w w' := by
  obtain ⟨n, ha, hb, hn, hm⟩ : ∃ n, a0.size ≤ n ∧ a1.size ≤ n ∧ n ≤ 4096 ∧ (n ≤ a0.size ∨ n ≤ a1.size) := ⟨max a0.size a1.size, by omega, by omega, by omega, by omega⟩
  have C1 := fun w => runs_any a0 a1 n w ha hb hn hm
  have C2 := fun w => runs_any a1 a0 n w hb ha hn hm.symm
  have hr := upto_range (wt a0) (wt a1) n
  have hf := upto_flip (wt a0) (wt a1) n
  have hz : (decide (upto (wt a0) (wt a1) n = 0)) = (a0.toList == a1.toList) := by
    by_cases e : upto (wt a0) (wt a1) n = 0
    · have := eq_of_zero ha hb e
      subst this
      simp [e]
    · have hne : ¬ a0.toList = a1.toList := fun h => by
        have h2 : a0 = a1 := by
          rw [Lib.toList_data, Lib.toList_data] at h
          exact ByteArray.ext (Array.toList_inj.1 h)
        subst h2
        exact e (upto_self _ _)
      simp [e, hne]
  rw [hf] at C1 hr hz
  obtain ⟨y, hy⟩ : ∃ y, y = upto (wt a1) (wt a0) n := ⟨_, rfl⟩
  rw [← hy] at C1 C2 hr hz
  clear hf hy
  have hr1 : ¬ (-y) < -1 := by omega
  have hr2 : ¬ 1 < (-y) := by omega
  go_enter Yba.func4, Yba.ntmps4
  go_wp2_with (first | (go_at_call 5; refine (C1 _).mono ?_; rintro e w' ⟨rfl, rfl⟩; clear C1) | (go_at_call 5; refine (C2 _).mono ?_; rintro e w' ⟨rfl, rfl⟩; clear C2) | fail)
  go_ret
  exact ⟨by simp; rw [← hz]; exact Bool.beq_eq_decide_eq _ _, Grown.refl _⟩

theorem walk (a0 : ByteArray) (a1 : ByteArray) (w0 : a0.size ≤ maxLen) (w1 : a1.size ≤ maxLen) (w : World) :
    Calls Yba.prog 4 #[.string a0, .string a1] w fun e w' => e = .returned (.bool true) ∧ Grown w w' := by
  by_cases h0 : 4096 < a0.size
  · go_enter Yba.func4, Yba.ntmps4
    go_wp2
    go_ret
    exact ⟨rfl, Grown.refl _⟩
  · by_cases h1 : 4096 < a1.size
    · go_enter Yba.func4, Yba.ntmps4
      go_wp2
      go_ret
      exact ⟨rfl, Grown.refl _⟩
    · exact walk_in a0 a1 (by omega) (by omega) w

/-! ### THE ROW's STEP: WRITTEN OUT: LEAVE IT -/
set_option maxRecDepth 100000 in
theorem lifted (os : Os) (started : os.Started) (H : Type) (enc : TypeId × Value → H) :
    ReturnsInHanded {} Yba.checked os 4 .any (Rows.lawS0007AOrderSpec.pre6 enc Yba.prog Yba.f4 Rows.lawS0007AOrderRow.domain false) (Rows.lawS0007AOrderSpec.post enc Yba.prog Yba.f4 false true false false) := by
  refine returnsInHanded_of_change (C := Yba.checked) own started (by kernel_rfl) Yba.func4
    (ChangeSpec.witness6 (enc := enc) (C := Yba.checked) false ⟨#[], #[.string ByteArray.empty, .string ByteArray.empty], []⟩ 8 (by kernel_rfl) (by kernel_rfl) (by kernel_rfl) (by kernel_rfl)) ?_
  intro W base args ds gs before hval0 hW hcnd _
  have hval : ∀ (j : Nat) t v, Yba.f4.params[j]? = some t → args[j]? = some v → Value.okWide Yba.prog W .any base t v := hval0
  have hW' := hW
  obtain ⟨p, q, hA0, hV, rfl, hfz, hnd⟩ := hW
  have hA : DataW.TrodAll enc Yba.prog W 0 (fun _ => true) true Yba.f4.params.toList args.toList ds p := hA0
  rw [Yba.params4] at hA hval
  obtain ⟨v0, vs0, d0, ds0, p0, q0, hargs, rfl, rfl, h0, r0⟩ := trodAll_cons hA
  obtain ⟨v1, vs1, d1, ds1, p1, q1, rfl, rfl, rfl, h1, r1⟩ := trodAll_cons r0
  obtain ⟨rfl, rfl, rfl⟩ := trodAll_nil r1
  obtain rfl : args = #[v0, v1] := by cases args; simp_all
  obtain ⟨rfl, rfl⟩ := trodVars_none hV
  obtain ⟨a0, rfl, rfl, rfl, w0⟩ := open_string Yba.underlying9 (hval 0 9 v0 rfl rfl) h0
  obtain ⟨a1, rfl, rfl, rfl, w1⟩ := open_string Yba.underlying9 (hval 1 9 v1 rfl rfl) h1
  clear hA0 hval0
  simp only [List.append_nil] at hW'
  refine (walk a0 a1 w0 w1 W).mono fun e W' ⟨he, hg⟩ => ?_
  subst he
  exact ⟨_, rfl, post_of_same (pa := []) (pv := []) hW' (fun _ _ _ => (trodAll_cons_mk (shut_bool Yba.underlying4 _) trodAll_mk0)) (fun sp _ => (trodAll_cons_mk (shut_string Yba.underlying9 w0) (trodAll_cons_mk (shut_string Yba.underlying9 w1) trodAll_mk0))) (fun _ _ => rfl) rfl
    (hg.frame _) hg.2.1 (ok_one (by kernel_rfl) rfl (okWide_bool_mk Yba.underlying4 _))⟩

theorem over : Rows.lawS0007AOrderRow.holds Yba.pinned (OpenSpec.ofChange Rows.lawS0007AOrderSpec) :=
  OpenClaim.holds_of_wide 4 Yba.f4 rfl rfl rfl rfl rfl rfl rfl ⟨rfl, rfl, rfl, rfl, rfl⟩ rfl rfl rfl rfl rfl (by kernel_rfl) Yba.func4 (by kernel_rfl)
    (of_decide_eq_true (by kernel_rfl)) (by unfold Func.isWrapper; first | (rw [if_pos (by decide +kernel)]; kernel_rfl) | (rw [if_neg (by decide +kernel)]; exact ⟨rfl, rfl⟩))
    (fun os started H enc _ => lifted os started H enc)

/-- ████ THE STATEMENT ████ -/
theorem proved : Rows.LawS0007AOrderSaid :=
  over
#print axioms proved
end Go.Proofs.Ybulkcu.lawS0007AOrder
