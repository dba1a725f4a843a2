/-
  SUBQUERIES: '(Copier).subquery', 'node' and 'Expr' of one, given what 'Select' does to the block inside it.
-/
import Derived.Test.YbulkaqSt3
import Derived.Deep.DeepCutAuto
namespace Go.Proofs.Ybulkaq
open Go.RowKit
set_option linter.unusedVariables false

/-- What 'Select' is known to do on the blocks over a family of expressions. -/
def SelOk (E : EP) (H B : Nat) : Prop := ∀ (W : World) (r q b : Nat) (o c : Option Addr) (D : SelD), SelIn W (· < H) (E W (· < H)) b D → b < H → Hooks W H r q o c → r + refsD D ≤ B → q + subsD D + 1 ≤ B →
  Calls Yba.prog 9 #[cpV H, .pointer (some ⟨b, 0, none⟩)] W fun e w' => ∃ Y, e = .returned (.pointer (some ⟨Y, 0, none⟩)) ∧ W.heap.size ≤ Y ∧ SelIn w' (W.heap.size ≤ ·) (E w' (W.heap.size ≤ ·)) Y D ∧ KeptX (hk H) W w' ∧ Hooks w' H (r + refsD D) (q + subsD D + 1) (some ⟨b, 0, none⟩) (some ⟨Y, 0, none⟩)

/-- The copy of a subquery. -/
def SubCp (W w' : World) (H r q : Nat) (nm : ByteArray) (n : Nat) (p : Value) : Prop :=
  ∃ b' s', p = .pointer (some ⟨b', 0, none⟩) ∧ W.heap.size ≤ b' ∧ W.heap.size ≤ s' ∧ At w' b' 0 [.pointer (some ⟨s', 0, none⟩), .int .i64 n] ∧ SelIn w' (W.heap.size ≤ ·) (E0 w' (W.heap.size ≤ ·)) s' (innerD nm n) ∧ KeptX (hk H) W w' ∧ ∃ o' c', Hooks w' H (r + 1) (q + 1) o' c'

theorem refsD_inner (nm : ByteArray) (n : Nat) : refsD (innerD nm n) = 1 := rfl
theorem subsD_inner (nm : ByteArray) (n : Nat) : subsD (innerD nm n) = 0 := rfl

set_option maxRecDepth 100000 in
set_option maxHeartbeats 2000000 in
theorem subq_ok {W : World} {H r q b s : Nat} {nm : ByteArray} {n : Nat} {o c : Option Addr} (sel : SelOk E0 H 200000) (ha : At W b 0 [.pointer (some ⟨s, 0, none⟩), .int .i64 n]) (hb : b < H) (hs : s < H) (hS : SelIn W (· < H) (E0 W (· < H)) s (innerD nm n)) (hH : Hooks W H r q o c) (hr : r + 1 ≤ 200000) (hq : q + 1 ≤ 200000) :
    Calls Yba.prog 28 #[cpV H, .pointer (some ⟨b, 0, none⟩)] W fun e w' => ∃ p, e = .returned p ∧ SubCp W w' H r q nm n p := by
  have hHl := hH.lt
  obtain ⟨W1, hW1⟩ : ∃ W1, W1 = W.alloc (.cells #[blkFn H, refFn H] 43) := ⟨_, rfl⟩
  have HW : Hid (W1 = W.alloc (.cells #[blkFn H, refFn H] 43)) := hW1
  have kW1 : KeptX (fun _ => False) W W1 := by rw [hW1]; exact (KeptX.refl _ W).alloc _
  have hs1 : W1.heap.size = W.heap.size + 1 := by rw [hW1]; simp
  have bx1 : At W1 W.heap.size 0 [blkFn H, refFn H] := by rw [hW1]; exact At.new W #[blkFn H, refFn H] 43
  clear hW1
  have a1 := ha.kept kW1 (fun h => h)
  have hS1 : SelIn W1 (· < H) (E0 W1 (· < H)) s (innerD nm n) := hS.kept hs kW1 (fun _ _ _ h => h) (fun v k nm n h => h.kept kW1 (fun _ _ _ h => h))
  have HX := sel W1.drew r q s o c (innerD nm n) (hS1.kept hs (keepN W1 1) noX (fun v k nm n h => h.kept (keepN W1 1) noX)) hs ((hH.kept kW1 (fun _ _ h => h)).kept (keepN W1 1) (fun _ _ h => h)) (by rw [refsD_inner]; omega) (by rw [subsD_inner]; omega)
  rw [refsD_inner, subsD_inner] at HX
  unfold cpV at HX
  have b0 := bx1.cell (j := 0) rfl
  have b1 := bx1.cell (j := 1) rfl
  have e0 := a1.cell (j := 0) rfl
  have e1 := a1.cell (j := 1) rfl
  simp only [Nat.zero_add] at b0 b1 e0 e1
  have nb : ¬ hk H b := fun h => by have := h.1; omega
  have nz : ¬ hk H W.heap.size := fun h => by have := h.2; omega
  unfold cpV
  go_enter Yba.func28, Yba.ntmps28
  go_upto_region 3 with fail
  rw [← HW.out]
  go_region_held3 (fun w' => w'.cell? ⟨W.heap.size, 0, none⟩ = some (blkFn H) ∧ w'.cell? ⟨W.heap.size, 1, none⟩ = some (refFn H) ∧ w'.cell? ⟨b, 0, none⟩ = some (.pointer (some ⟨s, 0, none⟩)) ∧ w'.cell? ⟨b, 1, none⟩ = some (.int .i64 n)) (go_keep) ((go_at_call 9; refine HX.mono ?_; rintro e w2 ⟨Y, rfl, hY, hS2, k2, hH2⟩; have kx2 : KeptX (hk H) W1 w2 := (KeptX.refl _ W1).drew.trans k2; have y0 := (bx1.kept kx2 nz).cell (j := 0) rfl; have y1 := (bx1.kept kx2 nz).cell (j := 1) rfl; have y2 := (a1.kept kx2 nb).cell (j := 0) rfl; have y3 := (a1.kept kx2 nb).cell (j := 1) rfl; simp only [Nat.zero_add] at y0 y1 y2 y3))
  go_wp2
  go_ret
  have ka : ∀ o1, KeptX (fun _ => False) w2 (w2.alloc o1) := fun o1 => (KeptX.refl _ _).alloc o1
  have hsz : W1.heap.size ≤ w2.heap.size := kx2.size
  have hY' : W1.heap.size ≤ Y := hY
  refine ⟨_, rfl, w2.heap.size, Y, rfl, by omega, by omega, At.new w2 #[.pointer (some ⟨Y, 0, none⟩), .int .i64 n] 98, ?_, (kW1.mono (fun _ _ h => h.elim)).trans (kx2.trans ((ka _).mono (fun _ _ h => h.elim))), _, _, hH2.kept (ka _) (fun _ _ h => h)⟩
  exact (hS2.kept (R := (W1.drew.heap.size ≤ ·)) hY (ka _) (fun _ _ _ h => h) (fun v k nm n h => h.kept (ka _) (fun _ _ _ h => h))).at (fun b (hb : W1.heap.size ≤ b) _ => by omega) (fun v k nm n h => h.at (fun b (hb : W1.heap.size ≤ b) _ => by omega))

set_option maxRecDepth 100000 in
set_option maxHeartbeats 2000000 in
theorem node_sub {W : World} {H r q b s : Nat} {nm : ByteArray} {n : Nat} {o c : Option Addr} (sel : SelOk E0 H 200000) (ha : At W b 0 [.pointer (some ⟨s, 0, none⟩), .int .i64 n]) (hb : b < H) (hs : s < H) (hS : SelIn W (· < H) (E0 W (· < H)) s (innerD nm n)) (hH : Hooks W H r q o c) (hr : r + 1 ≤ 200000) (hq : q + 1 ≤ 200000) :
    Calls Yba.prog 21 #[cpV H, .iface 96 (.pointer (some ⟨b, 0, none⟩))] W fun e w' => ∃ p, e = .returned (.iface 96 p) ∧ ∃ W0, KeptX (fun _ => False) W W0 ∧ SubCp W0 w' H r q nm n p := by
  have k1 : ∀ o1, KeptX (fun _ => False) W (W.alloc o1) := fun o1 => (KeptX.refl _ W).alloc o1
  have HX : ∀ o1, Calls Yba.prog 28 #[cpV H, .pointer (some ⟨b, 0, none⟩)] (W.alloc o1) _ := fun o1 => subq_ok sel (ha.kept (k1 o1) (fun h => h)) hb hs (hS.kept hs (k1 o1) (fun _ _ _ h => h) (fun v k nm n h => h.kept (k1 o1) (fun _ _ _ h => h))) (hH.kept (k1 o1) (fun _ _ h => h)) hr hq
  unfold cpV at HX ⊢
  go_enter Yba.func21, Yba.ntmps21
  go_wp2_with (first | (go_at_call 28; refine (HX _).mono ?_; rintro e w2 ⟨p, rfl, hp⟩) | fail)
  go_ret
  exact ⟨_, rfl, _, k1 _, hp⟩

theorem expr_E3 {W : World} {H r q : Nat} {v : Value} {nm : ByteArray} {n : Nat} {o c : Option Addr} (sel : SelOk E0 H 200000) (h : E3 W (· < H) v nm n) (hH : Hooks W H r q o c) (hr : r + 1 ≤ 200000) (hq : q + 1 ≤ 200000) :
    Calls Yba.prog 13 #[cpV H, v] W fun e w' => ∃ v', e = .returned v' ∧ E3 w' (W.heap.size ≤ ·) v' nm n ∧ KeptX (hk H) W w' ∧ ∃ o' c', Hooks w' H (r + 1) (q + 1) o' c' := by
  obtain ⟨b, s, hb, hs, rfl, ha, hS⟩ := h
  refine (expr_leaf (Q := fun p w' => ∃ W0, KeptX (fun _ => False) W W0 ∧ SubCp W0 w' H r q nm n p) (fun o1 => ?_) slots_96 ?_).mono ?_
  · have k1 : KeptX (fun _ => False) W (W.alloc o1) := (KeptX.refl _ W).alloc o1
    refine (node_sub sel (ha.kept k1 (fun h => h)) hb hs (hS.kept hs k1 (fun _ _ _ h => h) (fun v k nm n h => h.kept k1 (fun _ _ _ h => h))) (hH.kept k1 (fun _ _ h => h)) hr hq).mono ?_
    rintro e w' ⟨p, rfl, W0, k0, hp⟩
    exact ⟨p, rfl, W0, k1.trans k0, hp⟩
  · rintro p w' o1 ⟨W0, k0, b', s', rfl, h1, h2, h3, h4, h5, oo, cc, h6⟩
    have ka : KeptX (fun _ => False) w' (w'.alloc o1) := (KeptX.refl _ _).alloc o1
    exact ⟨W0, k0, b', s', rfl, h1, h2, h3.alloc o1, h4.kept h2 ka (fun _ _ _ h => h) (fun v k nm n h => h.kept ka (fun _ _ _ h => h)), h5.alloc o1, oo, cc, h6.kept ka (fun _ _ h => h)⟩
  · rintro e w' ⟨p, rfl, W0, k0, b', s', rfl, h1, h2, h3, h4, h5, h6⟩
    have hsz := k0.size
    exact ⟨_, rfl, ⟨b', s', by omega, by omega, rfl, h3, h4.at (fun b (hb : W0.heap.size ≤ b) _ => by omega) (fun v k nm n h => h.at (fun b (hb : W0.heap.size ≤ b) _ => by omega))⟩, (k0.mono (fun _ _ h => h.elim)).trans h5, h6⟩

theorem exprOk_Ex {H : Nat} (sel : SelOk E0 H 200000) : ExprOk Ex H 100000 := fun W r q o c v k nm n h hH hr hq => by
  rcases h with ⟨rfl, h3⟩ | ⟨hk, h0⟩
  · exact (expr_E3 sel h3 hH (by omega) (by omega)).mono fun e w' ⟨v', he, h1, h2, h3⟩ => ⟨v', he, .inl ⟨rfl, h1⟩, h2, h3⟩
  · refine (expr_E0 h0 hH (by omega)).mono fun e w' ⟨v', he, h1, h2, h3⟩ => ⟨v', he, .inr ⟨hk, h1⟩, h2, o, c, ?_⟩
    have : subsOf k = 0 := by unfold subsOf; rw [if_neg hk]
    rw [this]; exact h3

end Go.Proofs.Ybulkaq
