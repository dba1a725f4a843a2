/-
  THE TWO HOOKS ('LawS0003AHooks$1', '$2') BY CONTRACTS OF THEIR OWN, and the four 'shallow's.
-/
import Derived.Test.YbulkaqCmp
namespace Go.Proofs.Ybulkaq
open Go.RowKit
set_option linter.unusedVariables false

/-- The five variables that the hooks share with the law: ok, nref, nblk, lastO, lastC. -/
def hk (H : Nat) (k : Nat) : Prop := H ≤ k ∧ k < H + 5

/-- THE HOOKS' STATE: ok still true; r references and q blocks told; the last block and its copy. -/
def Hooks (W : World) (H r q : Nat) (o c : Option Addr) : Prop :=
  At W H 0 [.bool true] ∧ At W (H + 1) 0 [.int .i64 r] ∧ At W (H + 2) 0 [.int .i64 q] ∧ At W (H + 3) 0 [.pointer o] ∧ At W (H + 4) 0 [.pointer c]

theorem Hooks.kept {X : Nat → Prop} {W W' : World} {H r q : Nat} {o c : Option Addr} (h : Hooks W H r q o c) (k : KeptX X W W') (hx : ∀ b, hk H b → ¬ X b) : Hooks W' H r q o c := by
  obtain ⟨h0, h1, h2, h3, h4⟩ := h
  exact ⟨h0.kept k (hx _ ⟨by omega, by omega⟩), h1.kept k (hx _ ⟨by omega, by omega⟩), h2.kept k (hx _ ⟨by omega, by omega⟩), h3.kept k (hx _ ⟨by omega, by omega⟩), h4.kept k (hx _ ⟨by omega, by omega⟩)⟩

theorem Hooks.lt {W : World} {H r q : Nat} {o c : Option Addr} (h : Hooks W H r q o c) : H + 4 < W.heap.size := h.2.2.2.2.lt

def refFn (H : Nat) : Value := .func (.func 6) #[] #[.pointer (some ⟨H + 1, 0, none⟩), .pointer (some ⟨H, 0, none⟩)]
def blkFn (H : Nat) : Value := .func (.func 8) #[] #[.pointer (some ⟨H + 2, 0, none⟩), .pointer (some ⟨H + 3, 0, none⟩), .pointer (some ⟨H + 4, 0, none⟩)]

theorem At.set1 {W : World} {b : Nat} {v : Value} (h : At W b 0 [v]) (u : Value) : At (W.setCell ⟨b, 0, none⟩ u) b 0 [u] :=
  At.set h 0 u [u] fun i v hi => by
    match i, hi with
    | 0, hi => exact .inl ⟨rfl, by simpa using hi.symm, rfl⟩

set_option maxRecDepth 100000 in
set_option maxHeartbeats 1000000 in
theorem hook_ref {W : World} {R R' : Nat → Prop} {b b' H r q : Nat} {nm : ByteArray} {n : Nat} {o c : Option Addr} (h : ColAt W R b nm n) (h' : ColAt W R' b' nm n) (hb : R b) (hb' : R' b') (hd : ∀ b, R b → ¬ R' b)
    (hH : Hooks W H r q o c) (hr : r ≤ 200000) (hx : ∀ b, R b → ¬ hk H b) (hx' : ∀ b, R' b → ¬ hk H b) :
    Calls Yba.prog 6 #[.pointer (some ⟨b, 0, none⟩), .pointer (some ⟨b', 0, none⟩), .pointer (some ⟨H + 1, 0, none⟩), .pointer (some ⟨H, 0, none⟩)] W fun e w' => e = .returned (.tuple #[]) ∧ Hooks w' H (r + 1) q o c ∧ KeptX (hk H) W w' ∧ w'.heap.size = W.heap.size := by
  -- THE WORLD BEHIND 'nref++'
  obtain ⟨g0, g1, g2, g3, g4⟩ := hH
  have n1 := g1.cell (j := 0) rfl
  have nf := g1.frozen 0
  simp only [Nat.zero_add] at n1
  obtain ⟨W1, hW1⟩ : ∃ W1, W1 = W.setCell ⟨H + 1, 0, none⟩ (.int .i64 ((r : Int) + 1)) := ⟨_, rfl⟩
  have HW : Hid (W1 = W.setCell ⟨H + 1, 0, none⟩ (.int .i64 ((r : Int) + 1))) := hW1
  have k1 : KeptX (hk H) W W1 := by rw [hW1]; exact (KeptX.refl _ W).setCell (.inr ⟨by simp, by simp⟩) _
  have hH1 : Hooks W1 H (r + 1) q o c := by
    rw [hW1]
    refine ⟨g0.set_other (by simp) _, ?_, g2.set_other (by simp) _, g3.set_other (by simp) _, g4.set_other (by simp) _⟩
    have := g1.set1 (.int .i64 ((r : Int) + 1))
    exact this
  have hsz : W1.heap.size = W.heap.size := by rw [hW1]; simp
  clear hW1
  have hc := h.kept k1 (hx b hb) (fun b hb _ => hx b hb)
  have hc' := h'.kept k1 (hx' b' hb') (fun b hb _ => hx' b hb)
  obtain ⟨t, a, ht⟩ := hc
  obtain ⟨t', a', ht'⟩ := hc'
  have h1 := a.cell (j := 0) rfl
  have h2 := a.cell (j := 1) rfl
  have h3 := a.cell (j := 2) rfl
  have h4 := a.cell (j := 3) rfl
  have h5 := a.cell (j := 4) rfl
  have h6 := a.cell (j := 5) rfl
  have h1' := a'.cell (j := 0) rfl
  have h2' := a'.cell (j := 1) rfl
  have h3' := a'.cell (j := 2) rfl
  have h4' := a'.cell (j := 3) rfl
  have h5' := a'.cell (j := 4) rfl
  have h6' := a'.cell (j := 5) rfl
  simp only [Nat.zero_add] at h1 h2 h3 h4 h5 h6 h1' h2' h3' h4' h5' h6'
  have qq := eqlN a a' (fun e => hd b hb (e ▸ hb')) Yba.underlying29 size38 0 0
  have HI : ∀ k, Calls Yba.prog 7 #[t, t'] (W1.drewN k) fun e w' => e = .returned (.bool true) ∧ ∃ m, w' = (W1.drewN k).drewN m := fun k => ident_same (ht.kept (keepN W1 k) noX) (ht'.kept (keepN W1 k) noX) hd
  have fin : ∀ k, Hooks (W1.drewN k) H (r + 1) q o c ∧ KeptX (hk H) W (W1.drewN k) ∧ (W1.drewN k).heap.size = W.heap.size := fun k => ⟨hH1.kept (keepN W1 k) (fun _ _ h => h), k1.drewN k, hsz⟩
  clear a a' ht ht' h h' g0 g1 g2 g3 g4 k1 hH1 hsz
  go_enter Yba.func6, Yba.ntmps6
  go_wp2
  rw [← HW.out]
  clear HW n1 nf
  go_quiet ((go_at_call 7; exact Calls.quiet_of (HI _)))
  go_wp2
  go_end0
  exact ⟨rfl, fin _⟩

set_option maxHeartbeats 400000 in
theorem hook_blk {W : World} {H r q : Nat} {o c : Option Addr} (so co : Option Addr) (hH : Hooks W H r q o c) (hq : q ≤ 200000) :
    Calls Yba.prog 8 #[.pointer so, .pointer co, .pointer (some ⟨H + 2, 0, none⟩), .pointer (some ⟨H + 3, 0, none⟩), .pointer (some ⟨H + 4, 0, none⟩)] W fun e w' => e = .returned (.tuple #[]) ∧ Hooks w' H r (q + 1) so co ∧ KeptX (hk H) W w' ∧ w'.heap.size = W.heap.size := by
  obtain ⟨g0, g1, g2, g3, g4⟩ := hH
  have n2 := g2.cell (j := 0) rfl
  have n3 := g3.cell (j := 0) rfl
  have n4 := g4.cell (j := 0) rfl
  have f2 := g2.frozen 0
  have f3 := g3.frozen 0
  have f4 := g4.frozen 0
  simp only [Nat.zero_add] at n2 n3 n4
  have fin : ∀ w' : World, w' = ((W.setCell ⟨H + 2, 0, none⟩ (.int .i64 ((q : Int) + 1))).setCell ⟨H + 3, 0, none⟩ (.pointer so)).setCell ⟨H + 4, 0, none⟩ (.pointer co) → Hooks w' H r (q + 1) so co ∧ KeptX (hk H) W w' ∧ w'.heap.size = W.heap.size := by
    rintro w' rfl
    refine ⟨⟨?_, ?_, ?_, ?_, ?_⟩, ?_, by simp⟩
    · exact ((g0.set_other (by simp) _).set_other (by simp) _).set_other (by simp) _
    · exact ((g1.set_other (by simp) _).set_other (by simp) _).set_other (by simp) _
    · have := g2.set1 (.int .i64 ((q : Int) + 1))
      exact (this.set_other (by simp) _).set_other (by simp) _
    · exact ((g3.set_other (by simp) _).set1 _).set_other (by simp) _
    · exact ((g4.set_other (by simp) _).set_other (by simp) _).set1 _
    · exact (((KeptX.refl _ W).setCell (.inr ⟨by simp, by simp⟩) _).setCell (.inr ⟨by simp, by simp⟩) _).setCell (.inr ⟨by simp, by simp⟩) _
  clear g0 g1 g2 g3 g4
  go_enter Yba.func8, Yba.ntmps8
  go_wp2
  go_end0
  exact ⟨rfl, fin _ rfl⟩

set_option maxHeartbeats 400000 in
theorem shallow_id (b : Nat) (nm raw : ByteArray) (n : Int) (w : World) (h : At w b 0 [.string nm, .string raw, .int .i64 n]) :
    Calls Yba.prog 14 #[.pointer (some ⟨b, 0, none⟩)] w fun e w' => e = .returned (.pointer (some ⟨w.heap.size, 0, none⟩)) ∧ w' = w.alloc (.cells #[.string nm, .string raw, .int .i64 n] 32) := by
  have h1 := h.cell (j := 0) rfl
  have h2 := h.cell (j := 1) rfl
  have h3 := h.cell (j := 2) rfl
  simp only [Nat.zero_add] at h1 h2 h3
  clear h
  go_enter Yba.func14, Yba.ntmps14
  go_wp2
  go_ret
  exact ⟨rfl, rfl⟩

set_option maxHeartbeats 400000 in
theorem shallow_id_nil (w : World) : Calls Yba.prog 14 #[.pointer none] w fun e w' => e = .returned (.pointer none) ∧ w' = w := by
  go_enter Yba.func14, Yba.ntmps14
  go_wp2
  go_ret
  exact ⟨rfl, rfl⟩

/-- 'shallow' of an alias or a table: a new box, or nil. -/
theorem shallow_ptr {W : World} {R : Nat → Prop} {v : Value} {x : Option (ByteArray × ByteArray × Int)} (h : IdPtr W R v x) :
    Calls Yba.prog 14 #[v] W fun e w' => ∃ v', e = .returned v' ∧ IdPtr w' (fun b => W.heap.size ≤ b) v' x ∧ Below W.heap.size W w' := by
  match x, h with
  | none, h => rw [show v = .pointer none from h]; exact (shallow_id_nil W).mono fun e w' ⟨he, hw⟩ => ⟨_, he, rfl, by rw [hw]; exact Below.refl _ _⟩
  | some (nm, raw, n), ⟨b, hR, hv, hb⟩ =>
    rw [hv]
    exact (shallow_id b _ _ _ W hb).mono fun e w' ⟨he, hw⟩ => ⟨_, he, ⟨_, Nat.le_refl _, rfl, by rw [hw]; exact At.new W #[_, _, _] 32⟩, by rw [hw]; exact (Below.refl _ _).alloc (Nat.le_refl _) _⟩

set_option maxHeartbeats 400000 in
theorem shallow_lit (b : Nat) (raw val : ByteArray) (n : Nat) (w : World) (h : LitAt w b raw val n) :
    Calls Yba.prog 18 #[.pointer (some ⟨b, 0, none⟩)] w fun e w' => e = .returned (.pointer (some ⟨w.heap.size, 0, none⟩)) ∧ w' = w.alloc (.cells #[.int .i64 0, .string raw, .string val, .int .i64 n] 74) := by
  have h1 := At.cell h (j := 0) rfl
  have h2 := At.cell h (j := 1) rfl
  have h3 := At.cell h (j := 2) rfl
  have h4 := At.cell h (j := 3) rfl
  simp only [Nat.zero_add] at h1 h2 h3 h4
  clear h
  go_enter Yba.func18, Yba.ntmps18
  go_wp2
  go_ret
  exact ⟨rfl, rfl⟩

set_option maxHeartbeats 400000 in
theorem shallow_lit_nil (w : World) : Calls Yba.prog 18 #[.pointer none] w fun e w' => e = .returned (.pointer none) ∧ w' = w := by
  go_enter Yba.func18, Yba.ntmps18
  go_wp2
  go_ret
  exact ⟨rfl, rfl⟩

theorem shallow_litp {W : World} {R : Nat → Prop} {v : Value} {n : Nat} {x : Option ByteArray} (h : LitPtr W R v n x) :
    Calls Yba.prog 18 #[v] W fun e w' => ∃ v', e = .returned v' ∧ LitPtr w' (fun b => W.heap.size ≤ b) v' n x ∧ Below W.heap.size W w' := by
  match x, h with
  | none, h => rw [show v = .pointer none from h]; exact (shallow_lit_nil W).mono fun e w' ⟨he, hw⟩ => ⟨_, he, rfl, by rw [hw]; exact Below.refl _ _⟩
  | some nm, ⟨b, hR, hv, hb⟩ =>
    rw [hv]
    exact (shallow_lit b _ _ _ W hb).mono fun e w' ⟨he, hw⟩ => ⟨_, he, ⟨_, Nat.le_refl _, rfl, by rw [hw]; exact At.new W #[_, _, _, _] 74⟩, by rw [hw]; exact (Below.refl _ _).alloc (Nat.le_refl _) _⟩

set_option maxHeartbeats 400000 in
theorem shallow_col (b : Nat) (t : Option Addr) (nm : ByteArray) (n : Nat) (w : World) (h : At w b 0 [.pointer t, .string nm, .string nm, .int .i64 n, .int .u64 ((n : Int) + 1), .int .u32 n]) :
    Calls Yba.prog 23 #[.pointer (some ⟨b, 0, none⟩)] w fun e w' => e = .returned (.pointer (some ⟨w.heap.size, 0, none⟩)) ∧ w' = w.alloc (.cells #[.pointer t, .string nm, .string nm, .int .i64 n, .int .u64 ((n : Int) + 1), .int .u32 n] 38) := by
  have h1 := h.cell (j := 0) rfl
  have h2 := h.cell (j := 1) rfl
  have h3 := h.cell (j := 2) rfl
  have h4 := h.cell (j := 3) rfl
  have h5 := h.cell (j := 4) rfl
  have h6 := h.cell (j := 5) rfl
  simp only [Nat.zero_add] at h1 h2 h3 h4 h5 h6
  clear h
  go_enter Yba.func23, Yba.ntmps23
  go_wp2
  go_ret
  exact ⟨rfl, rfl⟩

set_option maxHeartbeats 400000 in
theorem shallow_bin (b : Nat) (op : ByteArray) (x y : Option Addr) (w : World) (h : At w b 0 [.string op, .iface 29 (.pointer x), .iface 71 (.pointer y)]) :
    Calls Yba.prog 34 #[.pointer (some ⟨b, 0, none⟩)] w fun e w' => e = .returned (.pointer (some ⟨w.heap.size, 0, none⟩)) ∧ w' = w.alloc (.cells #[.string op, .iface 29 (.pointer x), .iface 71 (.pointer y)] 95) := by
  have h1 := h.cell (j := 0) rfl
  have h2 := h.cell (j := 1) rfl
  have h3 := h.cell (j := 2) rfl
  simp only [Nat.zero_add] at h1 h2 h3
  clear h
  go_enter Yba.func34, Yba.ntmps34
  go_wp2
  go_ret
  exact ⟨rfl, rfl⟩

end Go.Proofs.Ybulkaq
