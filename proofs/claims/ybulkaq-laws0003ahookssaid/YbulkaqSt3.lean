/-
  THE STATES OF '(Copier).Select' BEHIND 'c.Having': plain facts on memory, no walk.
-/
import Derived.Test.YbulkaqSt2
namespace Go.Proofs.Ybulkaq
open Go.RowKit
set_option linter.unusedVariables false

structure ID (E : EP) (H : Nat) (W1 : World) (D : SelD) (r q Y hi : Nat) (iv fv wv gv hv ov lv : Value) (w : World) : Prop where
  ic : IC E H W1 D r q Y hi iv fv [.int .i64 D.off, .bool D.dist, iv, fv, wv, gv, hv, ov, lv] w
  wh : E w (Till Y hi) wv D.wk D.wn 0
  gr : Row w (Till Y hi) gv D.grpNil D.nGrp (fun i u => E w (Till Y hi) u 0 (D.grp i).1 (D.grp i).2)
  ha : E w (Till Y hi) hv D.hk D.hn 0

theorem Till.hk {H Y hi b : Nat} (hH5 : H + 5 ≤ Y) (h : Till Y hi b) : ¬ hk H b := hk_not (by have := h.1; omega)

theorem kpE {E : EP} (eo : EOk E) {H Y hi cb co l : Nat} {w w' : World} {v : Value} {k : Nat} {nm : ByteArray} {n : Nat} (h : E w (Till Y hi) v k nm n) (hH5 : H + 5 ≤ Y) (kp : Kp H cb co l w w') (hc : cb = Y ∨ hi ≤ cb) : E w' (Till Y hi) v k nm n :=
  eo.kept h kp.kept (fun b hb _ e => e.elim (hb.hk hH5) (fun e => by have := hb.1; have := hb.2; omega))
theorem Row.kp {E : EP} (eo : EOk E) {H Y hi cb co l : Nat} {w w' : World} {v : Value} {nil : Bool} {n : Nat} {d : Nat → ByteArray × Nat} (h : Row w (Till Y hi) v nil n (fun i u => E w (Till Y hi) u 0 (d i).1 (d i).2)) (hH5 : H + 5 ≤ Y) (kp : Kp H cb co l w w') (hc : cb = Y ∨ hi ≤ cb) : Row w' (Till Y hi) v nil n (fun i u => E w' (Till Y hi) u 0 (d i).1 (d i).2) :=
  h.kept kp.kept (fun b hb _ e => e.elim (hb.hk hH5) (fun e => by have := hb.1; have := hb.2; omega)) (fun i u _ he => kpE eo he hH5 kp hc)
theorem Row.raise {E : EP} (eo : EOk E) {Y hi hi' : Nat} {w : World} {v : Value} {nil : Bool} {n : Nat} {d : Nat → ByteArray × Nat} (h : Row w (Till Y hi) v nil n (fun i u => E w (Till Y hi) u 0 (d i).1 (d i).2)) (hh : hi ≤ hi') : Row w (Till Y hi') v nil n (fun i u => E w (Till Y hi') u 0 (d i).1 (d i).2) :=
  h.at (fun b hb _ => hb.mono hh) (fun i u _ he => eo.at_ he (fun b hb _ => hb.mono hh))

/-- A store elsewhere than in the copy's own cells. -/
theorem ID.kp {E : EP} (eo : EOk E) {H : Nat} {W1 : World} {D : SelD} {r q r' q' Y hi cb co l : Nat} {iv fv wv gv hv ov lv : Value} {w w' : World} (h : ID E H W1 D r q Y hi iv fv wv gv hv ov lv w) (hH5 : H + 5 ≤ Y) (hY : W1.heap.size = Y) (k : Kp H cb co l w w') (hc : hi ≤ cb ∧ Y + 1 ≤ cb) (h' : ∃ o c, Hooks w' H r' q' o c) : ID E H W1 D r' q' Y hi iv fv wv gv hv ov lv w' :=
  ⟨⟨Kp.from h.ic.kept k (by omega), h', k.at h.ic.room (hk_not hH5) (fun e => by omega), h.ic.items.kp eo hH5 k (.inr hc), h.ic.tabs.kp hH5 k (.inr hc), Nat.le_trans h.ic.size k.kept.size⟩, kpE eo h.wh hH5 k (.inr hc.1), Row.kp eo h.gr hH5 k (.inr hc.1), kpE eo h.ha hH5 k (.inr hc.1)⟩

theorem ID.set7 {E : EP} (eo : EOk E) {H : Nat} {W1 : World} {D : SelD} {r q r' q' Y hi : Nat} {iv fv wv gv hv ov lv : Value} {w w2 w3 : World} {o c : Option Addr} (h : ID E H W1 D r q Y hi iv fv wv gv hv ov lv w) (hH5 : H + 5 ≤ Y) (hY : W1.heap.size = Y)
    (k2 : KeptX (hk H) w w2) (h2 : Hooks w2 H r' q' o c) (u : Value) (hw3 : w3 = w2.setCell ⟨Y, 7, none⟩ u) : ID E H W1 D r' q' Y w2.heap.size iv fv wv gv hv u lv w3 := by
  obtain ⟨h3, s⟩ := h.ic.put eo hH5 hY rfl k2 h2 7 ⟨by omega, by omega⟩ u hw3
  have hh : hi ≤ w2.heap.size := Nat.le_trans h.ic.size k2.size
  exact ⟨h3, eo.at_ (kpE eo h.wh hH5 s (.inl rfl)) (fun b hb _ => hb.mono hh), (Row.kp eo h.gr hH5 s (.inl rfl)).raise eo hh, eo.at_ (kpE eo h.ha hH5 s (.inl rfl)) (fun b hb _ => hb.mono hh)⟩
theorem ID.set8 {E : EP} (eo : EOk E) {H : Nat} {W1 : World} {D : SelD} {r q r' q' Y hi : Nat} {iv fv wv gv hv ov lv : Value} {w w2 w3 : World} {o c : Option Addr} (h : ID E H W1 D r q Y hi iv fv wv gv hv ov lv w) (hH5 : H + 5 ≤ Y) (hY : W1.heap.size = Y)
    (k2 : KeptX (hk H) w w2) (h2 : Hooks w2 H r' q' o c) (u : Value) (hw3 : w3 = w2.setCell ⟨Y, 8, none⟩ u) : ID E H W1 D r' q' Y w2.heap.size iv fv wv gv hv ov u w3 := by
  obtain ⟨h3, s⟩ := h.ic.put eo hH5 hY rfl k2 h2 8 ⟨by omega, by omega⟩ u hw3
  have hh : hi ≤ w2.heap.size := Nat.le_trans h.ic.size k2.size
  exact ⟨h3, eo.at_ (kpE eo h.wh hH5 s (.inl rfl)) (fun b hb _ => hb.mono hh), (Row.kp eo h.gr hH5 s (.inl rfl)).raise eo hh, eo.at_ (kpE eo h.ha hH5 s (.inl rfl)) (fun b hb _ => hb.mono hh)⟩

/-- The copy's own cells stored anew; hi stays. -/
theorem ID.puts {E : EP} (eo : EOk E) {H : Nat} {W1 : World} {D : SelD} {r q r' q' Y hi j : Nat} {iv fv wv gv hv ov lv ov' lv' : Value} {w w3 : World} (h : ID E H W1 D r q Y hi iv fv wv gv hv ov lv w) (hH5 : H + 5 ≤ Y) (hY : W1.heap.size = Y) (s : Kp H Y j 1 w w3) (hj : 4 ≤ j ∧ j < 9)
    (room : At w3 Y 0 [.int .i64 D.off, .bool D.dist, iv, fv, wv, gv, hv, ov', lv']) (h' : ∃ o c, Hooks w3 H r' q' o c) : ID E H W1 D r' q' Y hi iv fv wv gv hv ov' lv' w3 :=
  ⟨⟨Kp.from h.ic.kept s (by omega), h', room, h.ic.items.kp eo hH5 s (by omega), h.ic.tabs.kp hH5 s (by omega), Nat.le_trans h.ic.size s.kept.size⟩, kpE eo h.wh hH5 s (.inl rfl), Row.kp eo h.gr hH5 s (.inl rfl), kpE eo h.ha hH5 s (.inl rfl)⟩

theorem ID.raise {E : EP} (eo : EOk E) {H : Nat} {W1 : World} {D : SelD} {r q Y hi hi' : Nat} {iv fv wv gv hv ov lv : Value} {w : World} (h : ID E H W1 D r q Y hi iv fv wv gv hv ov lv w) (hh : hi ≤ hi') (hs : hi' ≤ w.heap.size) : ID E H W1 D r q Y hi' iv fv wv gv hv ov lv w :=
  ⟨⟨h.ic.kept, h.ic.hooks, h.ic.room, h.ic.items.raise eo hh, h.ic.tabs.raise hh, hs⟩, eo.at_ h.wh (fun b hb _ => hb.mono hh), h.gr.raise eo hh, eo.at_ h.ha (fun b hb _ => hb.mono hh)⟩

def OrdF (E : EP) (D : SelD) (Y hi : Nat) (w : World) (v : Value) : Prop :=
  ∃ ao c, v = .slice ao D.nOrd c ∧ ao.isNone = D.ordNil ∧ ∀ i, i < D.nOrd → ∃ g, ao = some ⟨g, 0, none⟩ ∧ Till Y hi g ∧ Oel E (Till Y hi) w g (D.ord i) i
theorem OrdF.kp {E : EP} (eo : EOk E) {D : SelD} {H Y hi cb co l : Nat} {w w' : World} {v : Value} (h : OrdF E D Y hi w v) (hH5 : H + 5 ≤ Y) (k : Kp H cb co l w w') (hc : cb = Y ∨ hi ≤ cb) : OrdF E D Y hi w' v := by
  obtain ⟨ao, c, h1, h2, h3⟩ := h
  refine ⟨ao, c, h1, h2, fun i hi' => ?_⟩
  obtain ⟨g, h4, h5, h6⟩ := h3 i hi'
  exact ⟨g, h4, h5, h6.kp eo k (fun b hb _ => ⟨by have := hb.1; have := hb.2; omega, hb.hk hH5⟩) (h5.hk hH5) (fun e => by have := h5.1; have := h5.2; omega)⟩
theorem OrdF.raise {E : EP} (eo : EOk E) {D : SelD} {Y hi hi' : Nat} {w : World} {v : Value} (h : OrdF E D Y hi w v) (hh : hi ≤ hi') : OrdF E D Y hi' w v := by
  obtain ⟨ao, c, h1, h2, h3⟩ := h
  refine ⟨ao, c, h1, h2, fun i hi' => ?_⟩
  obtain ⟨g, h4, h5, h6⟩ := h3 i hi'
  exact ⟨g, h4, h5.mono hh, h6.at eo (fun b hb _ => hb.mono hh)⟩

/-- THE STATE IN THE ORDER's LOOP. -/
structure JOrd (E : EP) (H : Nat) (W1 : World) (D : SelD) (r q Y hi g : Nat) (iv fv wv gv hv lv : Value) (k : Nat) (w : World) : Prop where
  id : ID E H W1 D (r + k) q Y hi iv fv wv gv hv (.slice (some ⟨g, 0, none⟩) D.nOrd D.nOrd) lv w
  spare : ∀ j, j < D.nOrd → ∃ x, At w g j [x]
  done : ∀ i, i < k → Oel E (NewR Y g) w g (D.ord i) i

theorem JOrd.step {E : EP} (eo : EOk E) {H : Nat} {W1 : World} {D : SelD} {r q Y hi g : Nat} {iv fv wv gv hv lv : Value} {k : Nat} {w w5 w8 : World} (h : JOrd E H W1 D r q Y hi g iv fv wv gv hv lv k w) (hH5 : H + 5 ≤ Y) (hY : W1.heap.size = Y) (hg : hi ≤ g ∧ Y + 1 ≤ g) (hkn : k < D.nOrd) {cb : Nat} {ev : Value}
    (hcb : w.heap.size ≤ cb) (kp : Kp H cb 0 2 w w5) (a5 : At w5 cb 0 [ev, .int .i64 0]) (e5 : E w5 (fun b => w.heap.size ≤ b ∧ b ≠ cb) ev 0 (D.ord k).1 (D.ord k).2) (h5 : ∃ o c, Hooks w5 H (r + k + 1) q o c)
    (hw8 : w8 = w5.setCell ⟨g, k, none⟩ (.pointer (some ⟨cb, 0, none⟩))) : JOrd E H W1 D r q Y hi g iv fv wv gv hv lv (k + 1) w8 := by
  obtain ⟨id, spare, done⟩ := h
  have hsz := id.ic.size
  have hYl := id.ic.room.lt
  have hgl : g < w.heap.size := by obtain ⟨x, hx⟩ := spare k hkn; exact hx.lt
  have ng : ¬ hk H g := hk_not (by omega)
  have nc : ¬ hk H cb := hk_not (by omega)
  have s8 : Kp H g k 1 w5 w8 := by rw [hw8]; exact Kp.set _ _ ⟨by omega, by omega⟩ _
  have hsp5 : ∀ j, j < D.nOrd → ∃ x, At w5 g j [x] := fun j hj => by
    obtain ⟨x, hx⟩ := spare j hj
    exact ⟨x, kp.at hx ng (fun e => by omega)⟩
  have hnew : At w8 g k [.pointer (some ⟨cb, 0, none⟩)] := by
    obtain ⟨x, hx⟩ := hsp5 k hkn; rw [hw8]; exact hx.one _
  have h8 : ∃ o c, Hooks w8 H (r + (k + 1)) q o c := by
    obtain ⟨o, c, h5⟩ := h5
    exact ⟨o, c, h5.kept (X := fun b => b = g) (by rw [hw8]; exact KeptX.set1 _ _ _ _) (fun b hb e => ng (e ▸ hb))⟩
  refine ⟨(id.kp eo hH5 hY kp ⟨by omega, by omega⟩ h5).kp eo hH5 hY s8 hg h8, fun j hj => ?_, fun i hi => ?_⟩
  · by_cases e : j = k
    · subst e; exact ⟨_, hnew⟩
    · obtain ⟨x, hx⟩ := hsp5 j hj
      exact ⟨x, s8.at hx ng (fun _ => by simp only [List.length_cons, List.length_nil]; omega)⟩
  · by_cases e : i = k
    · subst e
      refine ⟨cb, ev, ⟨by omega, by omega⟩, hnew, s8.at a5 nc (fun e => by omega), ?_⟩
      exact eo.at_ (eo.kept e5 s8.kept (fun b hb _ e => e.elim (fun h => hk_not (by have := hb.1; omega) h) (fun h => by have := hb.1; omega))) (fun b hb _ => ⟨by have := hb.1; omega, by have := hb.1; omega⟩)
    · have d5 := (done i (by omega)).kp eo kp (fun b hb hl => ⟨by omega, hk_not (by have := hb.1; omega)⟩) ng (fun e => by omega)
      exact d5.kp eo s8 (fun b hb hl => ⟨hb.2, hk_not (by have := hb.1; omega)⟩) ng (fun e => by omega)

theorem JOrd.through {E : EP} (eo : EOk E) {H : Nat} {W1 : World} {D : SelD} {r q Y hi g : Nat} {iv fv wv gv hv lv : Value} {w : World} (h : JOrd E H W1 D r q Y hi g iv fv wv gv hv lv D.nOrd w) (hg : hi ≤ g ∧ Y + 1 ≤ g) (hn : D.ordNil = false) :
    ID E H W1 D (r + D.nOrd) q Y w.heap.size iv fv wv gv hv (.slice (some ⟨g, 0, none⟩) D.nOrd D.nOrd) lv w ∧ OrdF E D Y w.heap.size w (.slice (some ⟨g, 0, none⟩) D.nOrd D.nOrd) := by
  refine ⟨h.id.raise eo h.id.ic.size (Nat.le_refl _), _, _, rfl, hn.symm, fun i hi => ⟨g, rfl, ?_, (h.done i hi).at eo (fun b hb hl => ⟨hb.1, hl⟩)⟩⟩
  obtain ⟨x, hx⟩ := h.spare i hi
  exact ⟨hg.2, hx.lt⟩

/-- THE COPY WHOLE. -/
theorem ID.whole {E : EP} (eo : EOk E) {H : Nat} {W1 : World} {D : SelD} {r q Y hi Z : Nat} {iv fv wv gv hv ov lv : Value} {w : World} (h : ID E H W1 D r q Y hi iv fv wv gv hv ov lv w) (ho : OrdF E D Y hi w ov) (hl : LimPtr w (Till Y hi) lv D.lim) (hZ : Z ≤ Y) (hI : D.nItems ≤ 100000) (hT : D.nTabs ≤ 100000) (hO : D.nOrd ≤ 100000) :
    SelIn w (Z ≤ ·) (E w (Z ≤ ·)) Y D := by
  have ht : ∀ b, Till Y hi b → b < w.heap.size → Z ≤ b := fun b hb _ => by have := hb.1; omega
  obtain ⟨g, o, c, rfl, hi3⟩ := h.ic.items
  obtain ⟨ao, c2, rfl, ht2, ht3⟩ := h.ic.tabs
  obtain ⟨oo, c3, rfl, ho2, ho3⟩ := ho
  refine ⟨_, _, wv, gv, hv, _, lv, false, h.ic.room, ⟨_, c, rfl, rfl, hI, fun i hi => ?_⟩, ⟨_, c2, rfl, ht2, hT, fun i hi => ?_⟩, eo.at_ h.wh ht, h.gr.at ht (fun i u _ he => eo.at_ he ht), eo.at_ h.ha ht, ⟨_, c3, rfl, ho2, hO, fun i hi => ?_⟩, hl.at ht⟩
  · obtain ⟨h1, b', o', ev, av, hp, hu, ha, he, hid⟩ := hi3 i hi
    refine ⟨g, o, _, ?_, rfl, hu, b', o', ev, av, ?_, rfl, ha, eo.at_ he ht, hid.at ht⟩
    · rcases h1 with ⟨h1, _⟩ | ⟨h1, _⟩ <;> omega
    · rcases hp with ⟨_, h2, _⟩ | ⟨_, h2, _⟩
      · omega
      · have := h2.1; omega
  · obtain ⟨g, o, h0, h1, b', o', av, hp, hu, ha, hid⟩ := ht3 i hi
    refine ⟨g, o, _, ?_, h0, hu, b', o', av, ?_, rfl, ha, hid.at ht⟩
    · rcases h1 with ⟨h1, _⟩ | ⟨h1, _⟩ <;> omega
    · rcases hp with ⟨_, h2, _⟩ | ⟨_, h2, _⟩
      · omega
      · have := h2.1; omega
  · obtain ⟨g, h0, h1, b', ev, hp, hu, ha, he⟩ := ho3 i hi
    exact ⟨g, 0, _, by have := h1.1; omega, h0, by rw [Nat.zero_add]; exact hu, b', ev, by have := hp.1; omega, rfl, ha, eo.at_ he ht⟩

end Go.Proofs.Ybulkaq
