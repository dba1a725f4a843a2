/-
  WHAT THE LAW BUILDS: 'zzs0003acol', 'zzs0003amk'.
-/
import Derived.Test.YbulkaqSub
namespace Go.Proofs.Ybulkaq
open Go.RowKit
set_option linter.unusedVariables false

theorem At.next (w : World) (o : Obj) (cs : Array Value) (t : TypeId) : At ((w.alloc o).alloc (.cells cs t)) (w.heap.size + 1) 0 cs.toList := by
  have := At.new (w.alloc o) cs t
  simpa using this

set_option maxHeartbeats 1000000 in
theorem acol_ok (nm : ByteArray) (n : Nat) (w : World) (hn : n ≤ 1000) :
    Calls Yba.prog 12 #[.string nm, .int .i64 n] w fun e w' => ∃ b', e = .returned (.pointer (some ⟨b', 0, none⟩)) ∧ w.heap.size ≤ b' ∧ ColAt w' (w.heap.size ≤ ·) b' nm n ∧ Below w.heap.size w w' := by
  have hr1 : IntKind.u64.wrap (n : Int) = (n : Int) := IntWalk.u64_in _ ⟨by omega, by omega⟩
  by_cases hm : nm.size % 2 = 0
  · have hm' : ((nm.size : Int)).tmod 2 = 0 := by rw [Int.tmod_eq_emod_of_nonneg (by omega)]; omega
    go_enter Yba.func12, Yba.ntmps12
    go_wp2
    go_ret
    refine ⟨_, rfl, Nat.le_refl _, ⟨_, (At.new w _ _).alloc _, ?_⟩, ((Below.refl _ _).alloc (Nat.le_refl _) _).alloc (by simp) _⟩
    unfold tblOf
    rw [if_pos hm]
    exact ⟨w.heap.size + 1, by show w.heap.size ≤ _; omega, rfl, At.next w _ _ _⟩
  · have hm' : ¬ ((nm.size : Int)).tmod 2 = 0 := by rw [Int.tmod_eq_emod_of_nonneg (by omega)]; omega
    go_enter Yba.func12, Yba.ntmps12
    go_wp2
    go_ret
    refine ⟨_, rfl, Nat.le_refl _, ⟨_, At.new w _ _, ?_⟩, (Below.refl _ _).alloc (Nat.le_refl _) _⟩
    unfold tblOf
    rw [if_neg hm]
    rfl

def MkPost (w : World) (k : Nat) (nm : ByteArray) (n : Nat) (e : Ending) (w' : World) : Prop :=
  ∃ v, e = .returned (.tuple #[v, .int .i64 (refsOf k), .int .i64 (subsOf k)]) ∧ Ex w' (w.heap.size ≤ ·) v k nm n ∧ Below w.heap.size w w'

set_option maxRecDepth 100000 in
set_option maxHeartbeats 1000000 in
theorem mk0 (nm : ByteArray) (n : Nat) (w : World) (hn : n ≤ 1000) : Calls Yba.prog 11 #[.int .u8 0, .string nm, .int .i64 n] w (MkPost w 0 nm n) := by
  go_enter Yba.func11, Yba.ntmps11
  go_wp2_with (first | (go_at_call 12; refine (acol_ok nm n _ hn).mono ?_; rintro e w1 ⟨b, rfl, hb, hc, hbl⟩) | fail)
  go_ret3
  exact ⟨_, rfl, .inr ⟨by omega, b, hb, rfl, hc⟩, hbl⟩

set_option maxRecDepth 100000 in
set_option maxHeartbeats 1000000 in
theorem mk1 (nm : ByteArray) (n : Nat) (w : World) (hn : n ≤ 1000) : Calls Yba.prog 11 #[.int .u8 1, .string nm, .int .i64 n] w (MkPost w 1 nm n) := by
  go_enter Yba.func11, Yba.ntmps11
  go_wp2_with fail
  go_ret3
  exact ⟨_, rfl, .inr ⟨by omega, w.heap.size, Nat.le_refl _, rfl, At.new w _ _⟩, (Below.refl _ _).alloc (Nat.le_refl _) _⟩

set_option maxRecDepth 100000 in
set_option maxHeartbeats 1000000 in
theorem mk2 (nm : ByteArray) (n : Nat) (w : World) (hn : n ≤ 1000) : Calls Yba.prog 11 #[.int .u8 2, .string nm, .int .i64 n] w (MkPost w 2 nm n) := by
  go_enter Yba.func11, Yba.ntmps11
  go_wp2_with (first | (go_at_call 12; refine (acol_ok nm n _ hn).mono ?_; rintro e w1 ⟨b, rfl, hb, hc, hbl⟩) | fail)
  go_ret3
  have hs := hbl.size
  have ka : ∀ o1 o2, KeptX (fun _ => False) w1 ((w1.alloc o1).alloc o2) := fun o1 o2 => ((KeptX.refl _ _).alloc o1).alloc o2
  exact ⟨_, rfl, .inr ⟨by omega, w1.heap.size + 1, b, w1.heap.size, by show _ ≤ _; omega, hb, hs, rfl, At.next w1 _ _ _, hc.kept (ka _ _) (fun h => h) (fun _ _ _ h => h), At.alloc (At.new w1 _ _) _⟩, (hbl.alloc hs _).alloc (by simp; omega) _⟩

set_option maxRecDepth 100000 in
set_option maxHeartbeats 1000000 in
theorem mk4 (k : Nat) (nm : ByteArray) (n : Nat) (w : World) (hk : 4 ≤ k) (hk2 : k < 256) : Calls Yba.prog 11 #[.int .u8 k, .string nm, .int .i64 n] w (MkPost w k nm n) := by
  have h0 : ¬ (k : Int) = 0 := by omega
  have h1 : ¬ (k : Int) = 1 := by omega
  have h2 : ¬ (k : Int) = 2 := by omega
  have h3 : ¬ (k : Int) = 3 := by omega
  go_enter Yba.func11, Yba.ntmps11
  go_wp2_with fail
  go_ret3
  have e1 : refsOf k = 0 := by unfold refsOf; rw [if_neg (by omega)]
  have e2 : subsOf k = 0 := by unfold subsOf; rw [if_neg (by omega)]
  refine ⟨_, by rw [e1, e2]; rfl, .inr ⟨by omega, ?_⟩, Below.refl _ _⟩
  obtain ⟨j, rfl⟩ : ∃ j, k = j + 4 := ⟨k - 4, by omega⟩
  rfl

set_option maxRecDepth 100000 in
set_option maxHeartbeats 1000000 in
theorem mk3 (nm : ByteArray) (n : Nat) (w : World) (hn : n ≤ 1000) : Calls Yba.prog 11 #[.int .u8 3, .string nm, .int .i64 n] w (MkPost w 3 nm n) := by
  go_enter Yba.func11, Yba.ntmps11
  go_wp2_with (first | (go_at_call 12; refine (acol_ok nm n _ hn).mono ?_; rintro e w1 ⟨b, rfl, hb, hc, hbl⟩) | fail)
  go_ret3
  have hs := hbl.size
  have ka : ∀ o1 o2 o3 o4, KeptX (fun _ => False) w1 ((((w1.alloc o1).alloc o2).alloc o3).alloc o4) := fun o1 o2 o3 o4 => ((((KeptX.refl _ _).alloc o1).alloc o2).alloc o3).alloc o4
  refine ⟨_, rfl, .inl ⟨rfl, w1.heap.size + 1 + 1 + 1, w1.heap.size + 1 + 1, by show _ ≤ _; omega, by show _ ≤ _; omega, rfl, ?_, ?_⟩, (((hbl.alloc hs _).alloc (by simp; omega) _).alloc (by simp; omega) _).alloc (by simp; omega) _⟩
  · have := At.next ((w1.alloc (.cells #[.iface 29 (.pointer (some ⟨b, 0, none⟩)), .pointer none, .string nm] 62)).alloc (.cells #[.pointer (some ⟨w1.heap.size, 0, none⟩)] 60)) (.cells #[.int .i64 n, .bool false, .slice (some ⟨w1.heap.size + 1, 0, none⟩) 1 1, .slice none 0 0, .nilIface, .slice none 0 0, .nilIface, .slice none 0 0, .pointer none] 55) #[.pointer (some ⟨w1.heap.size + 1 + 1, 0, none⟩), .int .i64 n] 98
    simpa using this
  · have h55 := At.next (w1.alloc (.cells #[.iface 29 (.pointer (some ⟨b, 0, none⟩)), .pointer none, .string nm] 62)) (.cells #[.pointer (some ⟨w1.heap.size, 0, none⟩)] 60) #[.int .i64 n, .bool false, .slice (some ⟨w1.heap.size + 1, 0, none⟩) 1 1, .slice none 0 0, .nilIface, .slice none 0 0, .nilIface, .slice none 0 0, .pointer none] 55
    simp only [World.size_alloc] at h55
    refine ⟨_, _, _, _, _, _, _, false, h55.alloc _, ⟨_, 1, rfl, rfl, by show 1 ≤ _; omega, fun i hi => ?_⟩, ⟨none, 0, rfl, rfl, by show 0 ≤ _; omega, fun i hi => absurd hi (Nat.not_lt_zero i)⟩, rfl, ⟨none, 0, rfl, rfl, by show 0 ≤ _; omega, fun i hi => absurd hi (Nat.not_lt_zero i)⟩, rfl, ⟨none, 0, rfl, rfl, by show 0 ≤ _; omega, fun i hi => absurd hi (Nat.not_lt_zero i)⟩, rfl⟩
    obtain rfl : i = 0 := by have : i < 1 := hi; omega
    have h60 := At.next w1 (.cells #[.iface 29 (.pointer (some ⟨b, 0, none⟩)), .pointer none, .string nm] 62) #[.pointer (some ⟨w1.heap.size, 0, none⟩)] 60
    refine ⟨w1.heap.size + 1, 0, _, by show _ ≤ _; omega, rfl, (h60.alloc _).alloc _, w1.heap.size, 0, _, _, hs, rfl, (((At.new w1 #[.iface 29 (.pointer (some ⟨b, 0, none⟩)), .pointer none, .string nm] 62).alloc _).alloc _).alloc _, ⟨b, hb, rfl, hc.kept (ka _ _ _ _) (fun h => h) (fun _ _ _ h => h)⟩, rfl⟩

theorem mk_ok (k : Nat) (nm : ByteArray) (n : Nat) (w : World) (hk : k < 256) (hn : n ≤ 1000) : Calls Yba.prog 11 #[.int .u8 k, .string nm, .int .i64 n] w (MkPost w k nm n) := by
  match k with
  | 0 => exact mk0 nm n w hn
  | 1 => exact mk1 nm n w hn
  | 2 => exact mk2 nm n w hn
  | 3 => exact mk3 nm n w hn
  | k + 4 => exact mk4 (k + 4) nm n w (by omega) hk

end Go.Proofs.Ybulkaq
