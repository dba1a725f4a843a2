/-
  'appendSlots' AND '(Copier).Expr' over the law's expressions without a subquery.
-/
import Derived.Test.YbulkaqNode
import Derived.Deep.RegionHeld3
import Derived.Deep.RegionLaw
import Derived.Deep.RegionWith
import Derived.OwnWalk
import Derived.LoopN
namespace Go.Proofs.Ybulkaq
open Go.RowKit
set_option linter.unusedVariables false

set_option maxRecDepth 100000 in
set_option maxHeartbeats 1000000 in
theorem slots_29 (sl v : Value) (w : World) : Calls Yba.prog 22 #[sl, .iface 29 v] w fun e w' => e = .returned sl ∧ w = w' := by
  go_enter Yba.func22, Yba.ntmps22
  go_wp2
  go_ret
  exact ⟨rfl, rfl⟩
set_option maxRecDepth 100000 in
set_option maxHeartbeats 1000000 in
theorem slots_71 (sl v : Value) (w : World) : Calls Yba.prog 22 #[sl, .iface 71 v] w fun e w' => e = .returned sl ∧ w = w' := by
  go_enter Yba.func22, Yba.ntmps22
  go_wp2
  go_ret
  exact ⟨rfl, rfl⟩
set_option maxRecDepth 100000 in
set_option maxHeartbeats 1000000 in
theorem slots_96 (sl v : Value) (w : World) : Calls Yba.prog 22 #[sl, .iface 96 v] w fun e w' => e = .returned sl ∧ w = w' := by
  go_enter Yba.func22, Yba.ntmps22
  go_wp2
  go_ret
  exact ⟨rfl, rfl⟩

theorem Yba.info99 : (Yba.prog.info? 99).map (·.size) = some 1 := by kernel_rfl

set_option maxRecDepth 100000 in
set_option maxHeartbeats 1000000 in
theorem slots_bin {W : World} {g b : Nat} (hg : At W g 0 (List.replicate 16 (.pointer none))) (hb : b < W.heap.size) :
    Calls Yba.prog 22 #[.slice (some ⟨g, 0, none⟩) 0 16, .iface 93 (.pointer (some ⟨b, 0, none⟩))] W fun e w' => e = .returned (.slice (some ⟨g, 0, none⟩) 2 16) ∧ At w' g 0 [.pointer (some ⟨b, 1, none⟩), .pointer (some ⟨b, 2, none⟩)] ∧ KeptX (· = g) W w' := by
  obtain ⟨i, hi, hi1⟩ := size_of Yba.info99
  have c0 := hg.cell (j := 0) rfl
  have c1 := hg.cell (j := 1) rfl
  have f0 := hg.frozen 0
  have f1 := hg.frozen 1
  have hgl := hg.lt
  simp only [Nat.zero_add] at c0 c1
  go_enter Yba.func22, Yba.ntmps22
  go_wp2
  go_region_held3 (fun _ => True) (trivial) (fail)
  go_wp2
  go_ret
  refine ⟨rfl, ?_, ?_⟩
  · refine At.drewN ?_ 1
    refine At.alloc ?_ _
    have h1 := hg.set 0 (.pointer (some ⟨b, 1, none⟩)) [.pointer (some ⟨b, 1, none⟩), .pointer none] (fun i v hi => by
      match i, hi with
      | 0, hi => exact .inl ⟨rfl, by simpa using hi.symm, rfl⟩
      | 1, hi => exact .inr ⟨by omega, by simpa using hi⟩)
    exact h1.set 1 (.pointer (some ⟨b, 2, none⟩)) [.pointer (some ⟨b, 1, none⟩), .pointer (some ⟨b, 2, none⟩)] (fun i v hi => by
      match i, hi with
      | 0, hi => exact .inr ⟨by omega, by simpa using hi⟩
      | 1, hi => exact .inl ⟨rfl, by simpa using hi.symm, rfl⟩)
  · exact ((((KeptX.refl (· = g) W).setCell (p := ⟨g, 0, none⟩) (.inr rfl) _).setCell (p := ⟨g, 1, none⟩) (.inr rfl) _).alloc _).drew

/-- How many column references, and how many blocks, an expression holds. -/
def refsOf (k : Nat) : Nat := if k ≤ 3 ∧ k ≠ 1 then 1 else 0
def subsOf (k : Nat) : Nat := if k = 3 then 1 else 0

set_option maxRecDepth 100000 in
set_option maxHeartbeats 1000000 in
theorem expr_nil {W : World} {H : Nat} : Calls Yba.prog 13 #[cpV H, .nilIface] W fun e w' => e = .returned .nilIface ∧ Below W.heap.size W w' := by
  unfold cpV blkFn refFn
  go_enter Yba.func13, Yba.ntmps13
  go_wp2_with fail
  go_ret
  exact ⟨rfl, (Below.refl _ _).alloc (Nat.le_refl _) _⟩

set_option maxRecDepth 100000 in
set_option maxHeartbeats 1000000 in
/-- AN EXPRESSION THAT HOLDS NO PLACE FOR ANOTHER. -/
theorem expr_leaf {W : World} {H : Nat} {T : TypeId} {p : Value} {Q : Value → World → Prop} (hn : ∀ o1, Calls Yba.prog 21 #[cpV H, .iface T p] (W.alloc o1) fun e w' => ∃ p', e = .returned (.iface T p') ∧ Q p' w')
    (hs : ∀ sl p w, Calls Yba.prog 22 #[sl, .iface T p] w fun e w' => e = .returned sl ∧ w = w') (hQ : ∀ p' w' o1, Q p' w' → Q p' (w'.alloc o1)) :
    Calls Yba.prog 13 #[cpV H, .iface T p] W fun e w' => ∃ p', e = .returned (.iface T p') ∧ Q p' w' := by
  unfold cpV blkFn refFn at hn ⊢
  go_enter Yba.func13, Yba.ntmps13
  go_wp2_with (first | (go_at_call 21; refine (hn _).mono ?_; rintro e w1 ⟨p1, rfl, h1⟩) | (go_at_call 22; refine (hs _ _ _).mono ?_; rintro e w2 ⟨rfl, rfl⟩) | fail)
  refine wp_loop_rounds 1 ?_
  rw [rounds_succ]
  go_wp2_with fail
  go_ret
  exact ⟨_, rfl, hQ _ _ _ h1⟩

theorem expr_col {W : World} {H r q b : Nat} {nm : ByteArray} {n : Nat} {o c : Option Addr} (h : ColAt W (· < H) b nm n) (hb : b < H) (hH : Hooks W H r q o c) (hr : r ≤ 200000) :
    Calls Yba.prog 13 #[cpV H, .iface 29 (.pointer (some ⟨b, 0, none⟩))] W fun e w' => ∃ p', e = .returned (.iface 29 p') ∧ ∃ b', p' = .pointer (some ⟨b', 0, none⟩) ∧ W.heap.size ≤ b' ∧ ColAt w' (W.heap.size ≤ ·) b' nm n ∧ KeptX (hk H) W w' ∧ Hooks w' H (r + 1) q o c := by
  have hHl := hH.lt
  refine expr_leaf (fun o1 => ?_) slots_29 ?_
  · have k1 : KeptX (fun _ => False) W (W.alloc o1) := (KeptX.refl _ W).alloc o1
    refine (node_col (h.kept k1 (fun h => h) (fun _ _ _ h => h)) hb (hH.kept k1 (fun _ _ h => h)) hr).mono ?_
    rintro e w' ⟨b', rfl, h1, h2, h3, h4⟩
    simp only [World.size_alloc] at h1 h2
    exact ⟨_, rfl, b', rfl, by omega, h2.at (fun b hb _ => by omega), ((KeptX.refl (hk H) W).alloc o1).trans h3, h4⟩
  · rintro p' w' o1 ⟨b', rfl, h1, h2, h3, h4⟩
    have k1 : KeptX (fun _ => False) w' (w'.alloc o1) := (KeptX.refl _ w').alloc o1
    exact ⟨b', rfl, h1, h2.kept k1 (fun h => h) (fun _ _ _ h => h), h3.alloc o1, h4.kept k1 (fun _ _ h => h)⟩

theorem expr_lit {W : World} {H b : Nat} {nm val : ByteArray} {n : Nat} (h : LitAt W b nm val n) :
    Calls Yba.prog 13 #[cpV H, .iface 71 (.pointer (some ⟨b, 0, none⟩))] W fun e w' => ∃ p', e = .returned (.iface 71 p') ∧ ∃ b', p' = .pointer (some ⟨b', 0, none⟩) ∧ W.heap.size ≤ b' ∧ LitAt w' b' nm val n ∧ Below W.heap.size W w' := by
  refine expr_leaf (fun o1 => ?_) slots_71 ?_
  · refine (node_lit (At.alloc h o1)).mono ?_
    rintro e w' ⟨b', rfl, h1, h2, h3⟩
    simp only [World.size_alloc] at h1 h3
    exact ⟨_, rfl, b', rfl, by omega, h2, ((Below.refl _ W).alloc (Nat.le_refl _) o1).trans (h3.mono (by omega))⟩
  · rintro p' w' o1 ⟨b', rfl, h1, h2, h3⟩
    exact ⟨b', rfl, h1, At.alloc h2 o1, h3.alloc (by have := h3.size; omega) o1⟩

set_option maxRecDepth 100000 in
set_option maxHeartbeats 2000000 in
theorem expr_bin {W : World} {H r q b x y : Nat} {nm : ByteArray} {n : Nat} {o c : Option Addr} (h : At W b 0 [.string ⟨#[43]⟩, .iface 29 (.pointer (some ⟨x, 0, none⟩)), .iface 71 (.pointer (some ⟨y, 0, none⟩))]) (hx : ColAt W (· < H) x nm n) (hxH : x < H) (hy : LitAt W y nm ⟨#[]⟩ n) (hyH : y < H)
    (hH : Hooks W H r q o c) (hr : r ≤ 200000) :
    Calls Yba.prog 13 #[cpV H, .iface 93 (.pointer (some ⟨b, 0, none⟩))] W fun e w' => ∃ v', e = .returned v' ∧ E0 w' (W.heap.size ≤ ·) v' 2 nm n ∧ KeptX (hk H) W w' ∧ Hooks w' H (r + 1) q o c := by
  have hHl := hH.lt
  have hn : ∀ o1, Calls Yba.prog 21 #[cpV H, .iface 93 (.pointer (some ⟨b, 0, none⟩))] (W.alloc o1) _ := fun o1 => node_bin (h.alloc o1)
  have hbin : ∀ w g b, At w g 0 (List.replicate 16 (.pointer none)) → b < w.heap.size → Calls Yba.prog 22 #[.slice (some ⟨g, 0, none⟩) 0 16, .iface 93 (.pointer (some ⟨b, 0, none⟩))] w _ := fun w g b h1 h2 => slots_bin h1 h2
  unfold cpV blkFn refFn at hn ⊢
  go_enter Yba.func13, Yba.ntmps13
  go_wp2_with (first | (go_at_call 21; refine (hn _).mono ?_; rintro e w1 ⟨b1, rfl, hb1, hc1, hk1⟩) | (go_at_call 22; refine (hbin _ _ _ (At.new _ _ _) (by have := hc1.lt; simp; omega)).mono ?_; rintro e w2 ⟨rfl, hs2, hk2⟩) | fail)
  simp only [World.size_alloc] at hb1 hk1
  have hb1l := hc1.lt
  have k1 : KeptX (fun _ => False) W w1 := ((KeptX.refl _ W).alloc _).trans (KeptX.of_below (by simpa using hk1))
  have hs1 : W.heap.size + 1 ≤ w1.heap.size := by have := hk1.size; simpa using this
  have k2 : KeptX (fun k => k = w1.heap.size) w1 w2 := ((KeptX.refl _ w1).alloc _).trans hk2
  have kW2 : KeptX (fun _ => False) W w2 := k1.then k2 (fun i hi e => by omega)
  have hbox : At w2 W.heap.size 0 [blkFn H, refFn H] := by
    have h1 : At w1 W.heap.size 0 [blkFn H, refFn H] := (At.new W #[blkFn H, refFn H] 43).same (hk1.block _ (by omega))
    exact h1.kept k2 (by omega)
  have hbin2 := hc1.kept k2 (by omega)
  have hx2 := hx.kept kW2 (fun h => h) (fun _ _ _ h => h)
  have hy2 : LitAt w2 y nm ⟨#[]⟩ n := At.kept hy kW2 (fun h => h)
  have hH2 := hH.kept kW2 (fun _ _ h => h)
  have hw2 := hs2.lt
  obtain ⟨g, hg⟩ : ∃ g, g = w1.heap.size := ⟨_, rfl⟩
  rw [← hg] at hs2 hw2
  rw [← hg]
  have hgb : b1 < g := by omega
  clear hn hbin hk1 k1 k2 hk2 hc1 hx hy hH h
  clear hg
  unfold blkFn refFn at hbox
  have q0 := hbox.cell (j := 0) rfl
  have q1 := hbox.cell (j := 1) rfl
  have s0 := hs2.cell (j := 0) rfl
  have s1 := hs2.cell (j := 1) rfl
  have u1 := hbin2.cell (j := 1) rfl
  have u2 := hbin2.cell (j := 2) rfl
  have uf := hbin2.frozen 2
  simp only [Nat.zero_add] at q0 q1 s0 s1 u1 u2
  refine wp_loop_rounds 3 ?_
  rw [rounds_succ]
  go_wp2_with fail
  go_region_with (go_at_call 21; refine (node_lit (H := H) (At.drewN hy2 1)).mono ?_; rintro e w3 ⟨b2, rfl, hb2, hc2, hk3⟩; have hbin3 := hbin2.same (hk3.block b1 (Nat.lt_trans hgb hw2)); have u3 := hbin3.cell (j := 2) rfl; have f3 := hbin3.frozen 2; simp only [Nat.zero_add] at u3)
  all_goals
    obtain ⟨w4, hw4⟩ : ∃ w4, w4 = w3.setCell ⟨b1, 2, none⟩ (.iface 71 (.pointer (some ⟨b2, 0, none⟩))) := ⟨_, rfl⟩
    rw [← hw4]
    have k3 : KeptX (fun _ => False) w2 w3 := (KeptX.refl _ w2).drew.trans (KeptX.of_below hk3)
    have kW4 : KeptX (fun _ => False) W w4 := by rw [hw4]; exact (kW2.trans k3).setCell (.inl (by simp only; omega)) _
    have k4 : KeptX (fun k => k = b1) w2 w4 := by rw [hw4]; exact KeptX.setCell (X := fun k => k = b1) (k3.mono (fun _ _ h => h.elim)) (p := ⟨b1, 2, none⟩) (.inr rfl) _
    have hb2' : w2.heap.size ≤ b2 := hb2
    have hbox4 := hbox.kept k4 (by omega)
    have hs4 := hs2.kept k4 (by omega)
    have hx4 := hx2.kept k4 (by have := hx2.lt; omega) (fun i hi _ e => by omega)
    have hH4 := hH2.kept k4 (fun i hi e => by have := hi.2; omega)
    have hc4 : LitAt w4 b2 nm ⟨#[]⟩ n := by rw [hw4]; exact At.set_other hc2 (by simp only; omega) _
    have hbin4 : At w4 b1 0 [.string ⟨#[43]⟩, .iface 29 (.pointer (some ⟨x, 0, none⟩)), .iface 71 (.pointer (some ⟨b2, 0, none⟩))] := by
      rw [hw4]
      exact hbin3.set 2 (.iface 71 (.pointer (some ⟨b2, 0, none⟩))) _ (fun i v hi => by
        match i, hi with
        | 0, hi => exact .inr ⟨by omega, by simpa using hi⟩
        | 1, hi => exact .inr ⟨by omega, by simpa using hi⟩
        | 2, hi => exact .inl ⟨rfl, by simpa using hi.symm, rfl⟩)
    have hsz4 : w2.heap.size ≤ w4.heap.size := k4.size
    clear q0 q1 s0 s1 u1 u2 uf u3 f3 hbin3 hbin2 hk3 k3 k4 hc2 hb2 hbox hs2 hx2 hH2 hy2 hw4
    have q0 := hbox4.cell (j := 0) rfl
    have q1 := hbox4.cell (j := 1) rfl
    have s0 := hs4.cell (j := 0) rfl
    have u1 := hbin4.cell (j := 1) rfl
    have u2 := hbin4.cell (j := 2) rfl
    have uf := hbin4.frozen 1
    simp only [Nat.zero_add] at q0 q1 s0 u1 u2
    go_wp2_with (first | (go_at_call 22; refine (slots_71 _ _ _).mono ?_; rintro e w5 ⟨rfl, rfl⟩) | fail)
    rw [rounds_succ]
    go_wp2_with fail
    go_region_with (go_at_call 21; refine (node_col (H := H) (ColAt.kept hx4 (keepN w4 1) (fun h => h) noX) hxH (hH4.kept (keepN w4 1) (fun _ _ h => h)) hr).mono ?_; rintro e w6 ⟨b3, rfl, hb3, hc3, hk6, hH6⟩; have hbin6 := hbin4.same (hk6.block b1 (by show b1 < w4.heap.size; omega) (fun h => by have := h.2; omega)); have u3 := hbin6.cell (j := 1) rfl; have f3 := hbin6.frozen 1; simp only [Nat.zero_add] at u3)
    all_goals
      obtain ⟨w7, hw7⟩ : ∃ w7, w7 = w6.setCell ⟨b1, 1, none⟩ (.iface 29 (.pointer (some ⟨b3, 0, none⟩))) := ⟨_, rfl⟩
      rw [← hw7]
      have k6 : KeptX (hk H) w4 w6 := (KeptX.refl _ w4).drew.trans hk6
      have kW7 : KeptX (hk H) W w7 := by rw [hw7]; exact ((kW4.mono (fun _ _ h => h.elim)).trans k6).setCell (.inl (by simp only; omega)) _
      have k7 : KeptX (fun k => k = b1) w6 w7 := by rw [hw7]; exact KeptX.setCell (X := fun k => k = b1) (KeptX.refl _ _) (p := ⟨b1, 1, none⟩) (.inr rfl) _
      have hb3' : w4.heap.size ≤ b3 := hb3
      have hH7 := hH6.kept k7 (fun i hi e => by have := hi.2; omega)
      have hc7 : ColAt w7 (W.heap.size ≤ ·) b3 nm n := (hc3.kept k7 (by omega) (fun i (hi : w4.heap.size ≤ i) _ e => by omega)).at (fun i (hi : w4.heap.size ≤ i) _ => by omega)
      have hl7 : LitAt w7 b2 nm ⟨#[]⟩ n := At.kept (At.kept hc4 k6 (fun h => by have := h.2; omega)) k7 (by omega)
      have hbin7 : At w7 b1 0 [.string ⟨#[43]⟩, .iface 29 (.pointer (some ⟨b3, 0, none⟩)), .iface 71 (.pointer (some ⟨b2, 0, none⟩))] := by
        rw [hw7]
        exact hbin6.set 1 (.iface 29 (.pointer (some ⟨b3, 0, none⟩))) _ (fun i v hi => by
          match i, hi with
          | 0, hi => exact .inr ⟨by omega, by simpa using hi⟩
          | 1, hi => exact .inl ⟨rfl, by simpa using hi.symm, rfl⟩
          | 2, hi => exact .inr ⟨by omega, by simpa using hi⟩)
      clear q0 q1 s0 u1 u2 uf u3 f3 hbin6 hbin4 hk6 k6 k7 hc3 hb3 hbox4 hs4 hx4 hH4 hc4 hw7
      have u1 := hbin7.cell (j := 1) rfl
      simp only [Nat.zero_add] at u1
      go_wp2_with (first | (go_at_call 22; refine (slots_29 _ _ _).mono ?_; rintro e w8 ⟨rfl, rfl⟩) | fail)
      rw [rounds_succ]
      go_wp2_with fail
      go_ret
      exact ⟨_, rfl, ⟨b1, b3, b2, by omega, by omega, by omega, rfl, hbin7, hc7, hl7⟩, kW7, hH7⟩

/-- '(Copier).Expr' OVER EVERY EXPRESSION WITHOUT A SUBQUERY. -/
theorem expr_E0 {W : World} {H r q k : Nat} {v : Value} {nm : ByteArray} {n : Nat} {o c : Option Addr} (h : E0 W (· < H) v k nm n) (hH : Hooks W H r q o c) (hr : r ≤ 200000) :
    Calls Yba.prog 13 #[cpV H, v] W fun e w' => ∃ v', e = .returned v' ∧ E0 w' (W.heap.size ≤ ·) v' k nm n ∧ KeptX (hk H) W w' ∧ Hooks w' H (r + refsOf k) q o c := by
  have kf : ∀ {w'}, Below W.heap.size W w' → KeptX (hk H) W w' ∧ Hooks w' H r q o c := fun hb => ⟨KeptX.of_below hb, hH.kept (KeptX.of_below (X := fun _ => False) hb) (fun _ _ h => h)⟩
  match k, h with
  | 0, ⟨b, hR, hv, hc⟩ => rw [hv]; exact (expr_col hc hR hH hr).mono fun e w' ⟨p', he, b', hp, h1, h2, h3, h4⟩ => ⟨_, he, ⟨b', h1, by rw [hp], h2⟩, h3, h4⟩
  | 1, ⟨b, hR, hv, hc⟩ => rw [hv]; exact (expr_lit hc).mono fun e w' ⟨p', he, b', hp, h1, h2, h3⟩ => ⟨_, he, ⟨b', h1, by rw [hp], h2⟩, kf h3⟩
  | 2, ⟨b, x, y, hb, hx, hy, hv, h1, h2, h3⟩ => rw [hv]; exact expr_bin h1 h2 hx h3 hy hH hr
  | 3, h => exact h.elim
  | k + 4, h =>
    rw [show v = .nilIface from h]
    have : refsOf (k + 4) = 0 := by simp [refsOf]
    rw [this]
    exact expr_nil.mono fun e w' ⟨he, h3⟩ => ⟨_, he, rfl, kf h3⟩

end Go.Proofs.Ybulkaq
