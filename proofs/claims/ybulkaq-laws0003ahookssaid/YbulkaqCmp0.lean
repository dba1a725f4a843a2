/-
  'zzs0003alit' and 'zzs0003aexpr' on expressions without a subquery.
-/
import Derived.Test.YbulkaqTree
import Derived.Test.YbulkaqAsserts
import Derived.Deep.RegionWith
namespace Go.Proofs.Ybulkaq
open Go.RowKit

theorem size38 : (Yba.prog.info? 38).map (·.size) = some 6 := by kernel_rfl
theorem size95 : (Yba.prog.info? 95).map (·.size) = some 3 := by kernel_rfl

/-- The five facts that a walk wants of a pair of blocks. -/
theorem neqN {W : World} {b o b' o' : Nat} {vs vs' : List Value} {t e : TypeId} {m : Nat} (h : At W b o vs) (h' : At W b' o' vs') (hne : b ≠ b') (ht : Yba.prog.underlying t = some (.pointer e)) (hs : (Yba.prog.info? e).map (·.size) = some (m + 1)) (o1 o2 : Nat) :
    ∀ k, (binOp .neq t (.pointer (some ⟨b, o1, none⟩)) (.pointer (some ⟨b', o2, none⟩))).run Yba.prog (W.drewN k) = .ok (.bool true) (W.drewN k) := fun k => by
  obtain ⟨i, hi, hs⟩ := size_of hs
  exact neq_ptr (h.drewN k) (h'.drewN k) hne o1 o2 ht hi (by omega)
theorem eqlN {W : World} {b o b' o' : Nat} {vs vs' : List Value} {t e : TypeId} {m : Nat} (h : At W b o vs) (h' : At W b' o' vs') (hne : b ≠ b') (ht : Yba.prog.underlying t = some (.pointer e)) (hs : (Yba.prog.info? e).map (·.size) = some (m + 1)) (o1 o2 : Nat) :
    ∀ k, (binOp .eql t (.pointer (some ⟨b, o1, none⟩)) (.pointer (some ⟨b', o2, none⟩))).run Yba.prog (W.drewN k) = .ok (.bool false) (W.drewN k) := fun k => by
  obtain ⟨i, hi, hs⟩ := size_of hs
  exact eql_ptr (h.drewN k) (h'.drewN k) hne o1 o2 ht hi (by omega)

set_option maxHeartbeats 400000 in
theorem lit_both (b b' : Nat) (raw val : ByteArray) (n : Nat) (w : World) (h : LitAt w b raw val n) (h' : LitAt w b' raw val n) (hne : b ≠ b') :
    Calls Yba.prog 20 #[.pointer (some ⟨b, 0, none⟩), .pointer (some ⟨b', 0, none⟩)] w fun e w' => e = .returned (.bool true) ∧ ∃ k, w' = w.drewN k := by
  have h1 := At.cell h (j := 0) rfl
  have h2 := At.cell h (j := 1) rfl
  have h3 := At.cell h (j := 2) rfl
  have h4 := At.cell h (j := 3) rfl
  have h1' := At.cell h' (j := 0) rfl
  have h2' := At.cell h' (j := 1) rfl
  have h3' := At.cell h' (j := 2) rfl
  have h4' := At.cell h' (j := 3) rfl
  simp only [Nat.zero_add] at h1 h2 h3 h4 h1' h2' h3' h4'
  have q := neqN h h' hne Yba.underlying71 size74 0 0
  clear h h'
  go_enter Yba.func20, Yba.ntmps20
  go_wp2
  go_quiet (fail)
  go_wp2
  go_ret
  exact ⟨by simp, _, rfl⟩

set_option maxHeartbeats 400000 in
theorem lit_nil (w : World) : Calls Yba.prog 20 #[.pointer none, .pointer none] w fun e w' => e = .returned (.bool true) ∧ ∃ k, w' = w.drewN k := by
  go_enter Yba.func20, Yba.ntmps20
  go_wp2
  go_ret
  exact ⟨rfl, 0, rfl⟩

set_option maxRecDepth 100000 in
set_option maxHeartbeats 1000000 in
theorem cmp_col {W : World} {R R' : Nat → Prop} {b b' : Nat} {nm : ByteArray} {n : Nat} (h : ColAt W R b nm n) (h' : ColAt W R' b' nm n) (hb : R b) (hb' : R' b') (hd : ∀ b, R b → ¬ R' b) :
    Calls Yba.prog 19 #[.iface 29 (.pointer (some ⟨b, 0, none⟩)), .iface 29 (.pointer (some ⟨b', 0, none⟩))] W fun e w' => e = .returned (.bool true) ∧ ∃ k, w' = W.drewN k := by
  obtain ⟨t, a, ht⟩ := h
  obtain ⟨t', a', ht'⟩ := h'
  have h1 := a.cell (j := 0) rfl
  have h2 := a.cell (j := 1) rfl
  have h3 := a.cell (j := 2) rfl
  have h4 := a.cell (j := 3) rfl
  have h5 := a.cell (j := 4) rfl
  have h6 := a.cell (j := 5) rfl
  have h1' := a'.cell (j := 0) rfl
  have h2' := a'.cell (j := 1) rfl
  have h3' := a'.cell (j := 2) rfl
  have h4' := a'.cell (j := 3) rfl
  have h5' := a'.cell (j := 4) rfl
  have h6' := a'.cell (j := 5) rfl
  simp only [Nat.zero_add] at h1 h2 h3 h4 h5 h6 h1' h2' h3' h4' h5' h6'
  have q := neqN a a' (fun e => hd b hb (e ▸ hb')) Yba.underlying29 size38 0 0
  have hc : ∀ k, Calls Yba.prog 7 #[t, t'] (W.drewN k) fun e w' => e = .returned (.bool true) ∧ ∃ m, w' = (W.drewN k).drewN m := fun k =>
    ident_same (ht.kept (KeptX.drewN (KeptX.refl (fun _ => False) W) k) (fun _ _ _ h => h)) (ht'.kept (KeptX.drewN (KeptX.refl (fun _ => False) W) k) (fun _ _ _ h => h)) hd
  clear a a' ht ht'
  go_enter Yba.func19, Yba.ntmps19
  go_wp2
  go_quiet ((go_at_call 7; exact Calls.quiet_of (hc _)))
  go_wp2
  go_ret
  exact ⟨by simp, _, rfl⟩

set_option maxRecDepth 100000 in
set_option maxHeartbeats 1000000 in
theorem cmp_lit {W : World} {b b' : Nat} {raw val : ByteArray} {n : Nat} (h : LitAt W b raw val n) (h' : LitAt W b' raw val n) (hne : b ≠ b') :
    Calls Yba.prog 19 #[.iface 71 (.pointer (some ⟨b, 0, none⟩)), .iface 71 (.pointer (some ⟨b', 0, none⟩))] W fun e w' => e = .returned (.bool true) ∧ ∃ k, w' = W.drewN k := by
  have hc := lit_both b b' raw val n W h h' hne
  clear h h'
  go_enter Yba.func19, Yba.ntmps19
  go_wp2_with (first | (go_at_call 20; refine hc.mono ?_; rintro e w' ⟨rfl, k, rfl⟩) | fail)
  go_ret
  exact ⟨rfl, _, rfl⟩

set_option maxRecDepth 100000 in
set_option maxHeartbeats 1000000 in
theorem cmp_nil (W : World) : Calls Yba.prog 19 #[.nilIface, .nilIface] W fun e w' => e = .returned (.bool true) ∧ ∃ k, w' = W.drewN k := by
  go_enter Yba.func19, Yba.ntmps19
  go_wp2
  go_ret
  exact ⟨rfl, 0, rfl⟩

theorem keepN (W : World) (k : Nat) : KeptX (fun _ => False) W (W.drewN k) := KeptX.drewN (KeptX.refl (fun _ => False) W) k
theorem noX {R : Nat → Prop} {n : Nat} : ∀ b, R b → b < n → ¬ (fun _ : Nat => False) b := fun _ _ _ h => h

set_option maxRecDepth 100000 in
set_option maxHeartbeats 1000000 in
theorem cmp_bin {W : World} {R R' : Nat → Prop} {b x y b' x' y' : Nat} {nm : ByteArray} {n : Nat} (hb : R b) (hx : R x) (hy : R y) (hb' : R' b') (hx' : R' x') (hy' : R' y') (hd : ∀ b, R b → ¬ R' b)
    (a : At W b 0 [.string ⟨#[43]⟩, .iface 29 (.pointer (some ⟨x, 0, none⟩)), .iface 71 (.pointer (some ⟨y, 0, none⟩))]) (c : ColAt W R x nm n) (l : LitAt W y nm ⟨#[]⟩ n)
    (a' : At W b' 0 [.string ⟨#[43]⟩, .iface 29 (.pointer (some ⟨x', 0, none⟩)), .iface 71 (.pointer (some ⟨y', 0, none⟩))]) (c' : ColAt W R' x' nm n) (l' : LitAt W y' nm ⟨#[]⟩ n) :
    Calls Yba.prog 19 #[.iface 93 (.pointer (some ⟨b, 0, none⟩)), .iface 93 (.pointer (some ⟨b', 0, none⟩))] W fun e w' => e = .returned (.bool true) ∧ ∃ k, w' = W.drewN k := by
  have h1 := a.cell (j := 0) rfl
  have h2 := a.cell (j := 1) rfl
  have h3 := a.cell (j := 2) rfl
  have h1' := a'.cell (j := 0) rfl
  have h2' := a'.cell (j := 1) rfl
  have h3' := a'.cell (j := 2) rfl
  simp only [Nat.zero_add] at h1 h2 h3 h1' h2' h3'
  have q := neqN a a' (fun e => hd b hb (e ▸ hb')) Yba.underlying93 size95 0 0
  have hc : ∀ k, Calls Yba.prog 19 #[.iface 29 (.pointer (some ⟨x, 0, none⟩)), .iface 29 (.pointer (some ⟨x', 0, none⟩))] (W.drewN k) fun e w' => e = .returned (.bool true) ∧ ∃ m, w' = (W.drewN k).drewN m := fun k =>
    cmp_col (c.kept (keepN W k) (fun h => h) noX) (c'.kept (keepN W k) (fun h => h) noX) hx hx' hd
  have hl : ∀ k, Calls Yba.prog 19 #[.iface 71 (.pointer (some ⟨y, 0, none⟩)), .iface 71 (.pointer (some ⟨y', 0, none⟩))] (W.drewN k) fun e w' => e = .returned (.bool true) ∧ ∃ m, w' = (W.drewN k).drewN m := fun k =>
    cmp_lit (At.drewN l k) (At.drewN l' k) (fun e => hd y hy (e ▸ hy'))
  clear a a' c l c' l'
  go_enter Yba.func19, Yba.ntmps19
  go_wp2
  go_quiet ((first | (go_at_call_of 19 (Value.iface 29 (Value.pointer (some ⟨x, 0, none⟩))); exact Calls.quiet_of (hc _)) | (go_at_call_of 19 (Value.iface 71 (Value.pointer (some ⟨y, 0, none⟩))); exact Calls.quiet_of (hl _))))
  go_wp2
  go_ret
  exact ⟨by simp, _, rfl⟩

/-- Two expressions of one make, in different places: they compare equal. -/
theorem cmp_E0 {W : World} {R R' : Nat → Prop} {v v' : Value} {k : Nat} {nm : ByteArray} {n : Nat} (h : E0 W R v k nm n) (h' : E0 W R' v' k nm n) (hd : ∀ b, R b → ¬ R' b) :
    Calls Yba.prog 19 #[v, v'] W fun e w' => e = .returned (.bool true) ∧ ∃ k, w' = W.drewN k := by
  match k, h, h' with
  | 0, ⟨b, hb, hv, hc⟩, ⟨b', hb', hv', hc'⟩ => rw [hv, hv']; exact cmp_col hc hc' hb hb' hd
  | 1, ⟨b, hb, hv, hc⟩, ⟨b', hb', hv', hc'⟩ => rw [hv, hv']; exact cmp_lit hc hc' (fun e => hd b hb (e ▸ hb'))
  | 2, ⟨b, x, y, hb, hx, hy, hv, h1, h2, h3⟩, ⟨b', x', y', hb', hx', hy', hv', h1', h2', h3'⟩ => rw [hv, hv']; exact cmp_bin hb hx hy hb' hx' hy' hd h1 h2 h3 h1' h2' h3'
  | 3, h, _ => exact h.elim
  | _ + 4, h, h' => rw [show v = .nilIface from h, show v' = .nilIface from h']; exact cmp_nil W

end Go.Proofs.Ybulkaq
