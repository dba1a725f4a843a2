/-
  'LawS0003AHooks' ITSELF: the walk of function 3.
-/
import Derived.Test.YbulkaqBuildSt2
import Derived.Test.YbulkaqSelOk
namespace Go.Proofs.Ybulkaq
open Go.RowKit
set_option linter.unusedVariables false

/-- 'zzs0003abuild' by its contract. -/
def BuildOk : Prop := ∀ {W : World} (B : BlkD) {vI vT vO : Value} (hI : ItemsAt W vI B) (hT : StrsAt W vT B.tnil B.nT B.tabs) (hO : StrsAt W vO B.onil B.nO B.ord) (hwk : B.wk < 256),
    Calls Yba.prog 5 #[.agg #[.int .i64 B.off, .bool B.dist, vI, vT, .int .u8 B.wk, .string B.wn, vO, .bool B.grp, .bool B.lim, .string B.cnt, .bool B.hasOff, .string B.offS]] W fun e w' =>
      ∃ s, e = .returned (.tuple #[.pointer (some ⟨s, 0, none⟩), .int .i64 (refsD (dOf B)), .int .i64 (subsD (dOf B))]) ∧ W.heap.size ≤ s ∧ SelIn w' (W.heap.size ≤ ·) (Ex w' (W.heap.size ≤ ·)) s (dOf B) ∧ KeptX (fun _ => False) W w'

theorem Rd.of_kept_items {W w : World} {v : Value} {B : BlkD} (h : ItemsAt W v B) (k : KeptX (fun _ => False) W w) : ItemsAt w v B := by
  obtain ⟨ao, c, h1, h2, h3, h4⟩ := h
  refine ⟨ao, c, h1, h2, h3, fun i hi => ?_⟩
  obtain ⟨g, o, h5, h6, h7⟩ := h4 i hi
  exact ⟨g, o, h5, h6.kept k (fun h => h), h7⟩
theorem Rd.of_kept_strs {W w : World} {v : Value} {nil : Bool} {n : Nat} {t : Nat → ByteArray} (h : StrsAt W v nil n t) (k : KeptX (fun _ => False) W w) : StrsAt w v nil n t := by
  obtain ⟨ao, c, h1, h2, h3, h4⟩ := h
  refine ⟨ao, c, h1, h2, h3, fun i hi => ?_⟩
  obtain ⟨g, o, h5, h6, h7⟩ := h4 i hi
  exact ⟨g, o, h5, h6.kept k (fun h => h), h7⟩

theorem refsTo_le' (D : SelD) (k : Nat) : refsTo D k ≤ k := by
  induction k with
  | zero => exact Nat.le_refl _
  | succ k ih => simp only [refsTo]; unfold refsOf; split <;> omega
theorem subsTo_le' (D : SelD) (k : Nat) : subsTo D k ≤ k := by
  induction k with
  | zero => exact Nat.le_refl _
  | succ k ih => simp only [subsTo]; unfold subsOf; split <;> omega

/-- The counts are small. -/
theorem counts_le (B : BlkD) (iN : B.nI ≤ 300) (oN : B.nO ≤ 300) : refsD (dOf B) ≤ 1000 ∧ subsD (dOf B) ≤ 1000 := by
  have h1 : refsTo (dOf B) B.nI ≤ B.nI := refsTo_le' _ _
  have h2 : subsTo (dOf B) B.nI ≤ B.nI := subsTo_le' _ _
  have r : ∀ k, refsOf k ≤ 1 := fun k => by unfold refsOf; split <;> omega
  have s : ∀ k, subsOf k ≤ 1 := fun k => by unfold subsOf; split <;> omega
  have g : (dOf B).nGrp ≤ 300 := by show (if B.grp then B.nO else 0) ≤ 300; split <;> omega
  have e1 : refsD (dOf B) = refsTo (dOf B) B.nI + refsOf (dOf B).wk + (dOf B).nGrp + refsOf (dOf B).hk + B.nO := rfl
  have e2 : subsD (dOf B) = subsTo (dOf B) B.nI + subsOf (dOf B).wk + subsOf (dOf B).hk := rfl
  have := r (dOf B).wk
  have := r (dOf B).hk
  have := s (dOf B).wk
  have := s (dOf B).hk
  omega

/-- The five variables, laid one behind another. -/
theorem Hooks.new (w : World) : Hooks (((((w.alloc (.cells #[.bool true] 4)).alloc (.cells #[.int .i64 0] 3)).alloc (.cells #[.int .i64 0] 3)).alloc (.cells #[.pointer none] 26)).alloc (.cells #[.pointer none] 26)) w.heap.size 0 0 none none := by
  have h0 := At.new w #[.bool true] 4
  have h1 := At.new (w.alloc (.cells #[.bool true] 4)) #[.int .i64 0] 3
  have h2 := At.new ((w.alloc (.cells #[.bool true] 4)).alloc (.cells #[.int .i64 0] 3)) #[.int .i64 0] 3
  have h3 := At.new (((w.alloc (.cells #[.bool true] 4)).alloc (.cells #[.int .i64 0] 3)).alloc (.cells #[.int .i64 0] 3)) #[.pointer none] 26
  have h4 := At.new ((((w.alloc (.cells #[.bool true] 4)).alloc (.cells #[.int .i64 0] 3)).alloc (.cells #[.int .i64 0] 3)).alloc (.cells #[.pointer none] 26)) #[.pointer none] 26
  simp only [World.size_alloc] at h1 h2 h3 h4
  exact ⟨(((h0.alloc _).alloc _).alloc _).alloc _, ((h1.alloc _).alloc _).alloc _, (h2.alloc _).alloc _, h3.alloc _, h4⟩

set_option maxRecDepth 100000 in
set_option maxHeartbeats 4000000 in
theorem law_in (build_ok : BuildOk) {W : World} (B : BlkD) {vI vT vO : Value} (hI : ItemsAt W vI B) (hT : StrsAt W vT B.tnil B.nT B.tabs) (hO : StrsAt W vO B.onil B.nO B.ord) (hwk : B.wk < 256) :
    Calls Yba.prog 3 #[.agg #[.int .i64 B.off, .bool B.dist, vI, vT, .int .u8 B.wk, .string B.wn, vO, .bool B.grp, .bool B.lim, .string B.cnt, .bool B.hasOff, .string B.offS]] W fun e w' => e = .returned (.bool true) ∧ KeptX (fun _ => False) W w' := by
  have HB : ∀ w, KeptX (fun _ => False) W w → Calls Yba.prog 5 _ w _ := fun w k => build_ok B (Rd.of_kept_items hI k) (Rd.of_kept_strs hT k) (Rd.of_kept_strs hO k) hwk
  obtain ⟨iao, icp, rfl, iz, iN, iE⟩ := hI
  obtain ⟨tao, tcp, rfl, tz, tN, tE⟩ := hT
  obtain ⟨oao, ocp, rfl, oz, oN, oE⟩ := hO
  clear iz tz oz iE tE oE
  have n1 : ¬ (300 : Int) < (B.nI : Int) := by omega
  have n2 : ¬ (300 : Int) < (B.nT : Int) := by omega
  have n3 : ¬ (300 : Int) < (B.nO : Int) := by omega
  obtain ⟨W1, hW1⟩ : ∃ W1, W1 = W.alloc (.cells #[.int .i64 B.off, .bool B.dist, .slice iao B.nI icp, .slice tao B.nT tcp, .int .u8 B.wk, .string B.wn, .slice oao B.nO ocp, .bool B.grp, .bool B.lim, .string B.cnt, .bool B.hasOff, .string B.offS] 25) := ⟨_, rfl⟩
  have HW : Hid (W1 = W.alloc (.cells #[.int .i64 B.off, .bool B.dist, .slice iao B.nI icp, .slice tao B.nT tcp, .int .u8 B.wk, .string B.wn, .slice oao B.nO ocp, .bool B.grp, .bool B.lim, .string B.cnt, .bool B.hasOff, .string B.offS] 25)) := hW1
  have kO : KeptX (fun _ => False) W W1 := by rw [hW1]; exact (KeptX.refl _ W).alloc _
  have bx1 : At W1 W.heap.size 0 [.int .i64 B.off, .bool B.dist, .slice iao B.nI icp, .slice tao B.nT tcp, .int .u8 B.wk, .string B.wn, .slice oao B.nO ocp, .bool B.grp, .bool B.lim, .string B.cnt, .bool B.hasOff, .string B.offS] := by rw [hW1]; exact At.new W #[.int .i64 B.off, .bool B.dist, .slice iao B.nI icp, .slice tao B.nT tcp, .int .u8 B.wk, .string B.wn, .slice oao B.nO ocp, .bool B.grp, .bool B.lim, .string B.cnt, .bool B.hasOff, .string B.offS] 25
  clear hW1
  have c0 := bx1.cell (j := 0) rfl
  have c1 := bx1.cell (j := 1) rfl
  have c2 := bx1.cell (j := 2) rfl
  have c3 := bx1.cell (j := 3) rfl
  have c4 := bx1.cell (j := 4) rfl
  have c5 := bx1.cell (j := 5) rfl
  have c6 := bx1.cell (j := 6) rfl
  have c7 := bx1.cell (j := 7) rfl
  have c8 := bx1.cell (j := 8) rfl
  have c9 := bx1.cell (j := 9) rfl
  have c10 := bx1.cell (j := 10) rfl
  have c11 := bx1.cell (j := 11) rfl
  simp only [Nat.zero_add] at c0 c1 c2 c3 c4 c5 c6 c7 c8 c9 c10 c11
  have hZ := bx1.lt
  obtain ⟨r1, s1⟩ := counts_le B iN oN
  obtain ⟨R, hR⟩ : ∃ R, refsD (dOf B) = R := ⟨_, rfl⟩
  obtain ⟨S, hS⟩ : ∃ S, subsD (dOf B) = S := ⟨_, rfl⟩
  have HB1 := HB W1 kO
  rw [hR, hS] at HB1
  go_enter Yba.func3, Yba.ntmps3
  go_upto_region 1 with fail
  rw [← HW.out]
  go_upto_region 4 with (first | (go_at_call 5; refine HB1.mono ?_; rintro e w2 ⟨s, rfl, hs, sel, k2⟩) | fail)
  obtain ⟨H, hH⟩ : ∃ H, w2.heap.size = H := ⟨_, rfl⟩
  clear c0 c1 c2 c3 c4 c5 c6 c7 c8 c9 c10 c11 HB HB1 HW bx1
  go_upto_region 7 with fail
  rw [show H + 1 + 1 + 1 + 1 = H + 4 from rfl, show H + 1 + 1 + 1 = H + 3 from rfl, show H + 1 + 1 = H + 2 from rfl]
  have hk3 := Hooks.new w2
  obtain ⟨w3, hw3⟩ : ∃ w3, w3 = ((((w2.alloc (.cells #[.bool true] 4)).alloc (.cells #[.int .i64 0] 3)).alloc (.cells #[.int .i64 0] 3)).alloc (.cells #[.pointer none] 26)).alloc (.cells #[.pointer none] 26) := ⟨_, rfl⟩
  rw [← hw3] at hk3 ⊢
  have k3 : KeptX (fun _ => False) w2 w3 := by rw [hw3]; exact (((((KeptX.refl _ _).alloc _).alloc _).alloc _).alloc _).alloc _
  have hs3 : w3.heap.size = H + 5 := by rw [hw3]; simp [hH]
  rw [hH] at hk3
  clear hw3
  go_upto_region 8 with fail
  -- THE COPIER's BOX
  obtain ⟨w4, hw4⟩ : ∃ w4, w4 = w3.alloc (.cells #[blkFn H, refFn H] 43) := ⟨_, rfl⟩
  have hw4' := hw4
  unfold blkFn refFn at hw4'
  rw [← hw4']
  clear hw4'
  have k4 : KeptX (fun _ => False) w3 w4 := by rw [hw4]; exact (KeptX.refl _ _).alloc _
  have k24 := k3.trans k4
  have hs4 : w4.heap.size = H + 6 := by rw [hw4]; simp [hs3]
  have bx4 : At w4 (H + 5) 0 [blkFn H, refFn H] := by
    have := At.new w3 #[blkFn H, refFn H] 43
    rw [← hw4, hs3] at this
    exact this
  have hk4 : Hooks w4 H 0 0 none none := hk3.kept k4 (fun _ _ h => h)
  clear hw4 hk3 k3 k4
  have hsl := sel.lt
  rw [hH] at hsl
  have selA : SelIn w2 (· < H) (Ex w2 (· < H)) s (dOf B) := sel.at (fun b _ hb => by show b < H; omega) (fun v k nm n h => h.at (fun b _ hb => by show b < H; omega))
  have sel4 : SelIn w4 (· < H) (Ex w4 (· < H)) s (dOf B) := selA.kept hsl k24 (fun _ _ _ h => h) (fun v k nm n h => h.kept k24 (fun _ _ _ h => h))
  have HS := selOk_Ex H w4 0 0 s none none (dOf B) sel4 hsl hk4 (by omega) (by omega)
  rw [hR, hS] at HS
  unfold cpV blkFn refFn at HS
  have b0 := bx4.cell (j := 0) rfl
  have b1 := bx4.cell (j := 1) rfl
  unfold blkFn at b0
  unfold refFn at b1
  simp only [Nat.zero_add] at b0 b1
  clear sel selA
  go_upto_region 9 with (first | (go_at_call 9; refine HS.mono ?_; rintro e w5 ⟨Yc, rfl, hYc, selC, k5, hk5⟩) | fail)
  rw [hS] at s1
  simp only [Nat.zero_add] at hk5
  obtain ⟨q0, q1, q2, q3, q4⟩ := hk5
  have l0 := q0.cell (j := 0) rfl
  have l1 := q1.cell (j := 0) rfl
  have l2 := q2.cell (j := 0) rfl
  have l3 := q3.cell (j := 0) rfl
  have l4 := q4.cell (j := 0) rfl
  simp only [Nat.zero_add] at l0 l1 l2 l3 l4
  have hnk : ∀ b, b < H → b < w4.heap.size → ¬ hk H b := fun b h1 _ h2 => by have := h2.1; omega
  have selB : SelIn w5 (· < H) (Ex w5 (· < H)) s (dOf B) := sel4.kept hsl k5 hnk (fun v k nm n h => h.kept k5 hnk)
  have HC := cmp_all selB selC hsl hYc (fun b (h1 : b < H) (h2 : w4.heap.size ≤ b) => by omega)
  obtain ⟨j, hj, _⟩ := size_of (e := 55) (n := 9) (by kernel_rfl)
  have E1 : ∀ (a : Addr) w, (binOp .eql 26 (.pointer (some a)) (.pointer (some a))).run Yba.prog w = .ok (.bool true) w := fun a w => run_eql_ptr_same w a Yba.underlying26 hj
  have hW2 := k2.size
  have kF : KeptX (fun _ => False) W w5 := (kO.trans (k2.trans k24)).then k5 (fun i hi h => by have := h.1; have := kO.size; omega)
  clear selB selC sel4 HS b0 b1 bx4 hk4 q0 q1 q2 q3 q4
  go_wp2_with (first | rw [E1] | (go_at_call 10; refine HC.mono ?_; rintro e w6 ⟨rfl, n, rfl⟩) | fail)
  go_ret
  exact ⟨rfl, kF.drewN n⟩

end Go.Proofs.Ybulkaq
