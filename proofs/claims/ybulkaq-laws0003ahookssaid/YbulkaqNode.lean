/-
  '(Copier).node' BY CONTRACTS OF ITS OWN: a column, a literal, a binary (whose operands it leaves shared).
-/
import Derived.Test.YbulkaqHooks
import Derived.Laws.EntriesVeiled
namespace Go.Proofs.Ybulkaq
open Go.RowKit
set_option linter.unusedVariables false

/-- The copier. -/
def cpV (H : Nat) : Value := .agg #[blkFn H, refFn H]

theorem IdPtr.isPtr {W : World} {R : Nat → Prop} {v : Value} {x : Option (ByteArray × ByteArray × Int)} (h : IdPtr W R v x) : ∃ o, v = .pointer o := by
  match x, h with
  | none, h => exact ⟨none, h⟩
  | some (nm, raw, n), ⟨b, hR, hv, hb⟩ => exact ⟨_, hv⟩

@[go_sem] theorem neq_fn40 (f : Fn) (fi ca : Array Value) (w : World) : (binOp .neq 40 (.func f fi ca) .nilFunc).run Yba.prog w = .ok (.bool true) w := by kernel_rfl
@[go_sem] theorem neq_fn41 (f : Fn) (fi ca : Array Value) (w : World) : (binOp .neq 41 (.func f fi ca) .nilFunc).run Yba.prog w = .ok (.bool true) w := by kernel_rfl

/-- The world behind the first two boxes of 'node', and a callee that keeps them. -/
theorem two_behind {W w2 : World} {B : Nat} {cs ds : Array Value} {t u : TypeId} (hB : W.heap.size + 2 ≤ B) (hb2 : Below B ((W.alloc (.cells cs t)).alloc (.cells ds u)) w2) :
    At w2 W.heap.size 0 cs.toList ∧ At w2 (W.heap.size + 1) 0 ds.toList := by
  have h1 : At ((W.alloc (.cells cs t)).alloc (.cells ds u)) W.heap.size 0 cs.toList := (At.new W cs t).alloc _
  have h2 : At ((W.alloc (.cells cs t)).alloc (.cells ds u)) (W.heap.size + 1) 0 ds.toList := by
    have := At.new (W.alloc (.cells cs t)) ds u
    simpa using this
  exact ⟨h1.same (hb2.block _ (by omega)), h2.same (hb2.block _ (by omega))⟩

/-- THE WORLD BEHIND 'c.Table = shallow(x.Table)'. -/
theorem col_behind {W w2 : World} {H r q b : Nat} {nm : ByteArray} {n : Nat} {o c : Option Addr} {bx : Obj} {to t2 : Option Addr} (a : At W b 0 [.pointer to, .string nm, .string nm, .int .i64 n, .int .u64 ((n : Int) + 1), .int .u32 n]) (ht : IdPtr W (· < H) (.pointer to) (tblOf nm n)) (hb : b < H) (hH : Hooks W H r q o c)
    (ht2 : IdPtr w2 (fun k => W.heap.size + 2 ≤ k) (.pointer t2) (tblOf nm n))
    (hb2 : Below (W.heap.size + 2) ((W.alloc bx).alloc (.cells #[.pointer to, .string nm, .string nm, .int .i64 n, .int .u64 ((n : Int) + 1), .int .u32 n] 38)) w2) (w3 : World) (hw3 : w3 = w2.setCell ⟨W.heap.size + 1, 0, none⟩ (.pointer t2)) :
    ColAt w3 (· < H) b nm n ∧ ColAt w3 (W.heap.size ≤ ·) (W.heap.size + 1) nm n ∧ Hooks w3 H r q o c ∧ KeptX (hk H) W w3 := by
  have hHl := hH.lt
  have k2 : KeptX (hk H) W w2 := (((KeptX.refl (hk H) W).alloc bx).alloc _).trans (KeptX.of_below (by simpa using hb2))
  have k3 : KeptX (hk H) W w3 := by rw [hw3]; exact k2.setCell (.inl (by simp)) _
  have k2' : KeptX (fun _ => False) W w2 := (((KeptX.refl _ W).alloc bx).alloc _).trans (KeptX.of_below (by simpa using hb2))
  have k3' : KeptX (fun _ => False) W w3 := by rw [hw3]; exact k2'.setCell (.inl (by simp)) _
  refine ⟨?_, ?_, hH.kept k3' (fun _ _ h => h), k3⟩
  · exact ColAt.kept ⟨_, a, ht⟩ k3' (fun h => h) (fun _ _ _ h => h)
  · have hn : At ((W.alloc bx).alloc (.cells #[.pointer to, .string nm, .string nm, .int .i64 n, .int .u64 ((n : Int) + 1), .int .u32 n] 38)) (W.heap.size + 1) 0 [.pointer to, .string nm, .string nm, .int .i64 n, .int .u64 ((n : Int) + 1), .int .u32 n] := by
      have := At.new (W.alloc bx) #[.pointer to, .string nm, .string nm, .int .i64 n, .int .u64 ((n : Int) + 1), .int .u32 n] 38
      simpa using this
    have hn2 : At w2 (W.heap.size + 1) 0 _ := hn.same (hb2.block _ (by omega))
    refine ⟨.pointer t2, ?_, ?_⟩
    · rw [hw3]
      have := hn2.set 0 (.pointer t2) [.pointer t2, .string nm, .string nm, .int .i64 n, .int .u64 ((n : Int) + 1), .int .u32 n] (fun i v hi => by
        match i, hi with
        | 0, hi => exact .inl ⟨rfl, by simpa using hi.symm, rfl⟩
        | i + 1, hi => exact .inr ⟨by omega, by simpa using hi⟩)
      exact this
    · have hk3 : KeptX (fun k => k = W.heap.size + 1) w2 w3 := by rw [hw3]; exact (KeptX.refl (fun k => k = W.heap.size + 1) w2).setCell (p := ⟨W.heap.size + 1, 0, none⟩) (.inr rfl) _
      exact (ht2.kept hk3 (fun b hb _ e => by omega)).at (fun b hb _ => by omega)

set_option maxRecDepth 100000 in
set_option maxHeartbeats 1000000 in
theorem node_col {W : World} {H r q b : Nat} {nm : ByteArray} {n : Nat} {o c : Option Addr} (h : ColAt W (· < H) b nm n) (hb : b < H) (hH : Hooks W H r q o c) (hr : r ≤ 200000) :
    Calls Yba.prog 21 #[cpV H, .iface 29 (.pointer (some ⟨b, 0, none⟩))] W fun e w' => ∃ b', e = .returned (.iface 29 (.pointer (some ⟨b', 0, none⟩))) ∧ W.heap.size ≤ b' ∧ ColAt w' (W.heap.size ≤ ·) b' nm n ∧ KeptX (hk H) W w' ∧ Hooks w' H (r + 1) q o c := by
  obtain ⟨t, a, ht⟩ := h
  obtain ⟨to, rfl⟩ := ht.isPtr
  have hHl := hH.lt
  have h1 := a.cell (j := 0) rfl
  simp only [Nat.zero_add] at h1
  have hbW : b < W.heap.size := by omega
  have hbW1 : b < W.heap.size + 1 := by omega
  have k2 : ∀ o1 o2, KeptX (hk H) W ((W.alloc o1).alloc o2) := fun o1 o2 => ((KeptX.refl _ W).alloc o1).alloc o2
  unfold cpV blkFn refFn
  go_enter Yba.func21, Yba.ntmps21
  go_wp2_with (first | (go_at_call 23; refine (shallow_col b to nm n _ (a.alloc _)).mono ?_; rintro e w1 ⟨rfl, rfl⟩) | (go_at_call 14; refine (shallow_ptr (ht.kept (k2 _ _) (fun b hb _ => fun h => by have := h.1; omega))).mono ?_; rintro e w2 ⟨t2, rfl, ht2, hb2⟩; obtain ⟨t2o, rfl⟩ := ht2.isPtr; simp only [World.size_alloc] at ht2 hb2; have hcol := col_behind a ht hb hH ht2 hb2 _ rfl; obtain ⟨q1, q2⟩ := two_behind (Nat.le_refl _) hb2; have hc1 := q2.cell (j := 0) rfl; have hf1 := q2.frozen 0; have hc2 := q1.cell (j := 1) rfl; have hl1 := q2.lt; simp only [Nat.zero_add] at hc1 hc2) | (go_at_call 6; refine (hook_ref hcol.1 hcol.2.1 hb (by show W.heap.size ≤ _; omega) (fun b h1 h2 => by omega) hcol.2.2.1 hr (fun b h1 h2 => by have := h2.1; omega) (fun b h1 h2 => by have := h2.2; omega)).mono ?_; rintro e w4 ⟨rfl, hH4, k4, hs4⟩) | fail)
  go_ret
  exact ⟨_, rfl, by omega, hcol.2.1.kept k4 (fun h => by have := h.2; omega) (fun b h1 _ h2 => by have := h2.2; omega), hcol.2.2.2.trans k4, hH4⟩

set_option maxRecDepth 100000 in
set_option maxHeartbeats 1000000 in
theorem node_lit {W : World} {H b : Nat} {raw val : ByteArray} {n : Nat} (h : LitAt W b raw val n) :
    Calls Yba.prog 21 #[cpV H, .iface 71 (.pointer (some ⟨b, 0, none⟩))] W fun e w' => ∃ b', e = .returned (.iface 71 (.pointer (some ⟨b', 0, none⟩))) ∧ W.heap.size ≤ b' ∧ LitAt w' b' raw val n ∧ Below W.heap.size W w' := by
  unfold cpV blkFn refFn
  go_enter Yba.func21, Yba.ntmps21
  go_wp2_with (first | (go_at_call 18; refine (shallow_lit b raw val n _ (At.alloc h _)).mono ?_; rintro e w1 ⟨rfl, rfl⟩) | fail)
  go_ret
  refine ⟨_, rfl, by omega, ?_, ((Below.refl _ _).alloc (Nat.le_refl _) _).alloc (by simp) _⟩
  exact (two_behind (Nat.le_refl _) (Below.refl _ _)).2

set_option maxRecDepth 100000 in
set_option maxHeartbeats 1000000 in
/-- 'node' of a binary: a box of its own, the operands shared. -/
theorem node_bin {W : World} {H b : Nat} {op : ByteArray} {x y : Option Addr} (h : At W b 0 [.string op, .iface 29 (.pointer x), .iface 71 (.pointer y)]) :
    Calls Yba.prog 21 #[cpV H, .iface 93 (.pointer (some ⟨b, 0, none⟩))] W fun e w' => ∃ b', e = .returned (.iface 93 (.pointer (some ⟨b', 0, none⟩))) ∧ W.heap.size ≤ b' ∧ At w' b' 0 [.string op, .iface 29 (.pointer x), .iface 71 (.pointer y)] ∧ Below W.heap.size W w' := by
  unfold cpV blkFn refFn
  go_enter Yba.func21, Yba.ntmps21
  go_wp2_with (first | (go_at_call 34; refine (shallow_bin b op x y _ (At.alloc h _)).mono ?_; rintro e w1 ⟨rfl, rfl⟩) | fail)
  go_ret
  refine ⟨_, rfl, by omega, ?_, ((Below.refl _ _).alloc (Nat.le_refl _) _).alloc (by simp) _⟩
  exact (two_behind (Nat.le_refl _) (Below.refl _ _)).2

end Go.Proofs.Ybulkaq
