/-
  EVERY EXPRESSION OF THE LAW's, subqueries too: 'zzs0003aexpr', and with it 'zzs0003asel' over them.
-/
import Derived.Test.YbulkaqCmpSel
namespace Go.Proofs.Ybulkaq
open Go.RowKit
set_option linter.unusedVariables false

/-- The block of a subquery made of 'nm' and 'n': one item, a column. -/
def innerD (nm : ByteArray) (n : Nat) : SelD :=
  { off := n, dist := false, items := fun _ => ⟨0, nm, n, none, nm⟩, nItems := 1, tabs := fun _ => ⟨⟨#[]⟩, 0, none⟩, nTabs := 0, tabsNil := true, wk := 4, wn := ⟨#[]⟩,
    grp := fun _ => (⟨#[]⟩, 0), nGrp := 0, grpNil := true, hk := 4, hn := ⟨#[]⟩, ord := fun _ => (⟨#[]⟩, 0), nOrd := 0, ordNil := true, lim := none }

def E3 (W : World) (R : Nat → Prop) (v : Value) (nm : ByteArray) (n : Nat) : Prop :=
  ∃ b s, R b ∧ R s ∧ v = .iface 96 (.pointer (some ⟨b, 0, none⟩)) ∧ At W b 0 [.pointer (some ⟨s, 0, none⟩), .int .i64 n] ∧ SelIn W R (E0 W R) s (innerD nm n)

/-- An expression: kind 3 a subquery; the others as 'E0'. -/
def Ex (W : World) (R : Nat → Prop) (v : Value) (k : Nat) (nm : ByteArray) (n : Nat) : Prop :=
  (k = 3 ∧ E3 W R v nm n) ∨ (k ≠ 3 ∧ E0 W R v k nm n)

theorem Row.kept {X R : Nat → Prop} {W W' : World} {v : Value} {nil : Bool} {n : Nat} {P P' : Nat → Value → Prop} (h : Row W R v nil n P) (hk : KeptX X W W') (hx : ∀ b, R b → b < W.heap.size → ¬ X b) (hP : ∀ i u, i < n → P i u → P' i u) : Row W' R v nil n P' := by
  obtain ⟨ao, c, hv, hz, hn, he⟩ := h
  refine ⟨ao, c, hv, hz, hn, fun i hi => ?_⟩
  obtain ⟨g, o, u, hR, ha, hu, hp⟩ := he i hi
  exact ⟨g, o, u, hR, ha, hu.kept hk (hx g hR hu.lt), hP i u hi hp⟩

theorem Row.at {R R' : Nat → Prop} {W : World} {v : Value} {nil : Bool} {n : Nat} {P P' : Nat → Value → Prop} (h : Row W R v nil n P) (hr : ∀ b, R b → b < W.heap.size → R' b) (hP : ∀ i u, i < n → P i u → P' i u) : Row W R' v nil n P' := by
  obtain ⟨ao, c, hv, hz, hn, he⟩ := h
  refine ⟨ao, c, hv, hz, hn, fun i hi => ?_⟩
  obtain ⟨g, o, u, hR, ha, hu, hp⟩ := he i hi
  exact ⟨g, o, u, hr g hR hu.lt, ha, hu, hP i u hi hp⟩

theorem LitPtr.kept {X R : Nat → Prop} {W W' : World} {v : Value} {n : Nat} {x : Option ByteArray} (h : LitPtr W R v n x) (k : KeptX X W W') (hx : ∀ b, R b → b < W.heap.size → ¬ X b) : LitPtr W' R v n x := by
  match x, h with
  | none, h => exact h
  | some nm, ⟨b, hR, hv, hb⟩ => exact ⟨b, hR, hv, At.kept hb k (hx b hR (At.lt hb))⟩
theorem LitPtr.at {R R' : Nat → Prop} {W : World} {v : Value} {n : Nat} {x : Option ByteArray} (h : LitPtr W R v n x) (hr : ∀ b, R b → b < W.heap.size → R' b) : LitPtr W R' v n x := by
  match x, h with
  | none, h => exact h
  | some nm, ⟨b, hR, hv, hb⟩ => exact ⟨b, hr b hR (At.lt hb), hv, hb⟩
theorem LimPtr.kept {X R : Nat → Prop} {W W' : World} {v : Value} {x : Option (ByteArray × Option ByteArray)} (h : LimPtr W R v x) (k : KeptX X W W') (hx : ∀ b, R b → b < W.heap.size → ¬ X b) : LimPtr W' R v x := by
  match x, h with
  | none, h => exact h
  | some (c, o), ⟨b, cv, ov, hR, hv, hb, h1, h2⟩ => exact ⟨b, cv, ov, hR, hv, hb.kept k (hx b hR hb.lt), h1.kept k hx, h2.kept k hx⟩
theorem LimPtr.at {R R' : Nat → Prop} {W : World} {v : Value} {x : Option (ByteArray × Option ByteArray)} (h : LimPtr W R v x) (hr : ∀ b, R b → b < W.heap.size → R' b) : LimPtr W R' v x := by
  match x, h with
  | none, h => exact h
  | some (c, o), ⟨b, cv, ov, hR, hv, hb, h1, h2⟩ => exact ⟨b, cv, ov, hr b hR hb.lt, hv, hb, h1.at hr, h2.at hr⟩

theorem SelIn.kept {X R : Nat → Prop} {W W' : World} {E E' : Value → Nat → ByteArray → Nat → Prop} {b : Nat} {D : SelD} (h : SelIn W R E b D) (hb : R b) (hk : KeptX X W W') (hx : ∀ b, R b → b < W.heap.size → ¬ X b) (hE : ∀ v k nm n, E v k nm n → E' v k nm n) : SelIn W' R E' b D := by
  obtain ⟨iv, fv, wv, gv, hv, ov, lv, inil, a, hi, hf, hw, hg, hh, ho, hl⟩ := h
  refine ⟨iv, fv, wv, gv, hv, ov, lv, inil, a.kept hk (hx b hb a.lt), hi.kept hk hx ?_, hf.kept hk hx ?_, hE _ _ _ _ hw, hg.kept hk hx ?_, hE _ _ _ _ hh, ho.kept hk hx ?_, hl.kept hk hx⟩
  · rintro i u _ ⟨b, o, ev, av, h1, h2, h3, h4, h5⟩; exact ⟨b, o, ev, av, h1, h2, h3.kept hk (hx b h1 h3.lt), hE _ _ _ _ h4, h5.kept hk hx⟩
  · rintro i u _ ⟨b, o, av, h1, h2, h3, h5⟩; exact ⟨b, o, av, h1, h2, h3.kept hk (hx b h1 h3.lt), h5.kept hk hx⟩
  · intro i u _ h; exact hE _ _ _ _ h
  · rintro i u _ ⟨b, ev, h1, h2, h3, h4⟩; exact ⟨b, ev, h1, h2, h3.kept hk (hx b h1 h3.lt), hE _ _ _ _ h4⟩

theorem SelIn.at {R R' : Nat → Prop} {W : World} {E E' : Value → Nat → ByteArray → Nat → Prop} {b : Nat} {D : SelD} (h : SelIn W R E b D) (hr : ∀ b, R b → b < W.heap.size → R' b) (hE : ∀ v k nm n, E v k nm n → E' v k nm n) : SelIn W R' E' b D := by
  obtain ⟨iv, fv, wv, gv, hv, ov, lv, inil, a, hi, hf, hw, hg, hh, ho, hl⟩ := h
  refine ⟨iv, fv, wv, gv, hv, ov, lv, inil, a, hi.at hr ?_, hf.at hr ?_, hE _ _ _ _ hw, hg.at hr ?_, hE _ _ _ _ hh, ho.at hr ?_, hl.at hr⟩
  · rintro i u _ ⟨b, o, ev, av, h1, h2, h3, h4, h5⟩; exact ⟨b, o, ev, av, hr b h1 h3.lt, h2, h3, hE _ _ _ _ h4, h5.at hr⟩
  · rintro i u _ ⟨b, o, av, h1, h2, h3, h5⟩; exact ⟨b, o, av, hr b h1 h3.lt, h2, h3, h5.at hr⟩
  · intro i u _ h; exact hE _ _ _ _ h
  · rintro i u _ ⟨b, ev, h1, h2, h3, h4⟩; exact ⟨b, ev, hr b h1 h3.lt, h2, h3, hE _ _ _ _ h4⟩

theorem SelIn.lt {W : World} {R : Nat → Prop} {E : Value → Nat → ByteArray → Nat → Prop} {b : Nat} {D : SelD} (h : SelIn W R E b D) : b < W.heap.size := by
  obtain ⟨iv, fv, wv, gv, hv, ov, lv, inil, a, _⟩ := h; exact a.lt

theorem Ex.kept {X R : Nat → Prop} {W W' : World} {v : Value} {k : Nat} {nm : ByteArray} {n : Nat} (h : Ex W R v k nm n) (hk : KeptX X W W') (hx : ∀ b, R b → b < W.heap.size → ¬ X b) : Ex W' R v k nm n := by
  rcases h with ⟨h3, b, s, hb, hs, hv, h1, h2⟩ | ⟨h3, h⟩
  · exact .inl ⟨h3, b, s, hb, hs, hv, h1.kept hk (hx b hb h1.lt), h2.kept hs hk hx fun v k nm n h => h.kept hk hx⟩
  · exact .inr ⟨h3, h.kept hk hx⟩

theorem Ex.at {R R' : Nat → Prop} {W : World} {v : Value} {k : Nat} {nm : ByteArray} {n : Nat} (h : Ex W R v k nm n) (hr : ∀ b, R b → b < W.heap.size → R' b) : Ex W R' v k nm n := by
  rcases h with ⟨h3, b, s, hb, hs, hv, h1, h2⟩ | ⟨h3, h⟩
  · exact .inl ⟨h3, b, s, hr b hb h1.lt, hr s hs h2.lt, hv, h1, h2.at hr fun v k nm n h => h.at hr⟩
  · exact .inr ⟨h3, h.at hr⟩

theorem yes_E0 {W : World} {R R' : Nat → Prop} (hd : ∀ b, R b → ¬ R' b) : ∀ v v' k nm n, E0 W R v k nm n → E0 W R' v' k nm n → Yes W 19 #[v, v'] := fun v v' k nm n h h' =>
  yes_of fun m => cmp_E0 (h.kept (keepN W m) noX) (h'.kept (keepN W m) noX) hd

theorem size98 : (Yba.prog.info? 98).map (·.size) = some 2 := by kernel_rfl

set_option maxRecDepth 100000 in
set_option maxHeartbeats 1000000 in
theorem cmp_E3 {W : World} {R R' : Nat → Prop} {v v' : Value} {nm : ByteArray} {n : Nat} (h : E3 W R v nm n) (h' : E3 W R' v' nm n) (hd : ∀ b, R b → ¬ R' b) :
    Calls Yba.prog 19 #[v, v'] W fun e w' => e = .returned (.bool true) ∧ ∃ k, w' = W.drewN k := by
  obtain ⟨b, s, hb, hs, rfl, a, hS⟩ := h
  obtain ⟨b', s', hb', hs', rfl, a', hS'⟩ := h'
  have c0 := a.cell (j := 0) rfl
  have c1 := a.cell (j := 1) rfl
  have d0 := a'.cell (j := 0) rfl
  have d1 := a'.cell (j := 1) rfl
  simp only [Nat.zero_add] at c0 c1 d0 d1
  have q := neqN a a' (fun e => hd b hb (e ▸ hb')) Yba.underlying96 size98 0 0
  have hc : ∀ k, Calls Yba.prog 10 #[.pointer (some ⟨s, 0, none⟩), .pointer (some ⟨s', 0, none⟩)] (W.drewN k) fun e w' => e = .returned (.bool true) ∧ ∃ m, w' = (W.drewN k).drewN m := fun k =>
    cmp_sel (hS.kept hs (keepN W k) noX fun v k' nm n h => h.kept (keepN W k) noX) (hS'.kept hs' (keepN W k) noX fun v k' nm n h => h.kept (keepN W k) noX) hs hs' hd (yes_E0 hd)
  clear a a' hS hS'
  go_enter Yba.func19, Yba.ntmps19
  go_wp2
  go_quiet ((go_at_call 10; exact Calls.quiet_of (hc _)))
  go_wp2
  go_ret
  exact ⟨by simp, _, rfl⟩

theorem cmp_Ex {W : World} {R R' : Nat → Prop} {v v' : Value} {k : Nat} {nm : ByteArray} {n : Nat} (h : Ex W R v k nm n) (h' : Ex W R' v' k nm n) (hd : ∀ b, R b → ¬ R' b) :
    Calls Yba.prog 19 #[v, v'] W fun e w' => e = .returned (.bool true) ∧ ∃ k, w' = W.drewN k := by
  rcases h with ⟨h3, h⟩ | ⟨h3, h⟩ <;> rcases h' with ⟨h3', h'⟩ | ⟨h3', h'⟩
  · exact cmp_E3 h h' hd
  · exact absurd h3 h3'
  · exact absurd h3' h3
  · exact cmp_E0 h h' hd

/-- THE COMPARER's CONTRACT, whole. -/
theorem cmp_all {W : World} {R R' : Nat → Prop} {b b' : Nat} {D : SelD} (h : SelIn W R (Ex W R) b D) (h' : SelIn W R' (Ex W R') b' D) (hb : R b) (hb' : R' b') (hd : ∀ b, R b → ¬ R' b) :
    Calls Yba.prog 10 #[.pointer (some ⟨b, 0, none⟩), .pointer (some ⟨b', 0, none⟩)] W fun e w' => e = .returned (.bool true) ∧ ∃ k, w' = W.drewN k :=
  cmp_sel h h' hb hb' hd fun v v' k nm n hx hx' => yes_of fun m => cmp_Ex (hx.kept (keepN W m) noX) (hx'.kept (keepN W m) noX) hd

end Go.Proofs.Ybulkaq
