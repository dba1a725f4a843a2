/-
  THE STATES OF '(Copier).Select': plain facts on memory, no walk.
-/
import Derived.Test.YbulkaqRoom
namespace Go.Proofs.Ybulkaq
open Go.RowKit
set_option linter.unusedVariables false

/-- NOTHING HAS TURNED BUT THE HOOKS' VARIABLES AND THE CELLS [co, co + l) OF cb. -/
structure Kp (H cb co l : Nat) (w w' : World) : Prop where
  kept : KeptX (fun b => hk H b ∨ b = cb) w w'
  cells : ∀ o vs, At w cb o vs → (o + vs.length ≤ co ∨ co + l ≤ o) → At w' cb o vs

theorem Kp.refl (H cb co l : Nat) (w : World) : Kp H cb co l w w := ⟨KeptX.refl _ _, fun _ _ h _ => h⟩
theorem Kp.trans {H cb co l : Nat} {a b c : World} (h : Kp H cb co l a b) (k : Kp H cb co l b c) : Kp H cb co l a c :=
  ⟨h.kept.trans k.kept, fun o vs ha hp => k.cells o vs (h.cells o vs ha hp) hp⟩
theorem Kp.of_kept {H cb co l : Nat} {a b : World} (h : KeptX (hk H) a b) (hc : ¬ hk H cb) : Kp H cb co l a b :=
  ⟨h.mono (fun _ _ h => .inl h), fun o vs ha _ => ha.kept h hc⟩
theorem Kp.set {H cb co l : Nat} (w : World) (j : Nat) (hj : co ≤ j ∧ j < co + l) (u : Value) : Kp H cb co l w (w.setCell ⟨cb, j, none⟩ u) :=
  ⟨(KeptX.set1 w cb j u).mono (fun _ _ h => .inr h), fun o vs ha hp => ha.apart (.inr (by omega)) u⟩
theorem Kp.at {H cb co l b o : Nat} {w w' : World} {vs : List Value} (k : Kp H cb co l w w') (h : At w b o vs) (hb : ¬ hk H b) (hp : b = cb → o + vs.length ≤ co ∨ co + l ≤ o) : At w' b o vs := by
  by_cases e : b = cb
  · subst e; exact k.cells o vs h (hp rfl)
  · exact h.kept k.kept (fun h => h.elim hb e)
theorem Kp.from {H cb co l : Nat} {W w w' : World} (h : KeptX (hk H) W w) (k : Kp H cb co l w w') (hc : W.heap.size ≤ cb) : KeptX (hk H) W w' :=
  h.then k.kept (fun i hi e => e.elim (fun h => h) (fun e => by omega))
theorem Kp.fresh {H cb co l : Nat} {w w' : World} (k : Kp H cb co l w w') (hc : w.heap.size ≤ cb) : KeptX (hk H) w w' := Kp.from (KeptX.refl _ w) k hc
/-- Other places of the same make. -/
theorem Kp.as {H cb co l co' l' : Nat} {w w' : World} (k : Kp H cb co l w w') (h : co' ≤ co ∧ co + l ≤ co' + l') : Kp H cb co' l' w w' :=
  ⟨k.kept, fun o vs ha hp => k.cells o vs ha (by omega)⟩

/-- Item i of the copy. -/
def Elem (E : EP) (R : Nat → Prop) (w : World) (Y g o : Nat) (d : ItemD) (i : Nat) : Prop :=
  ∃ b' o' ev av, ((i = 0 ∧ b' = Y ∧ o' = 10) ∨ (i ≠ 0 ∧ R b' ∧ o' = 0)) ∧ At w g (o + i) [.pointer (some ⟨b', o', none⟩)] ∧ At w b' o' [ev, av, .string d.text] ∧ E w R ev d.k d.nm d.n ∧ IdPtr w R av d.al

theorem Elem.kp {E : EP} (eo : EOk E) {R : Nat → Prop} {H cb co l Y g o i : Nat} {d : ItemD} {w w' : World} (h : Elem E R w Y g o d i) (k : Kp H cb co l w w') (hR : ∀ b, R b → b < w.heap.size → b ≠ cb ∧ ¬ hk H b) (hY : ¬ hk H Y) (hg : ¬ hk H g)
    (h1 : cb = Y → co + l ≤ 10 ∨ 13 ≤ co) (h2 : cb = g → co + l ≤ o + i ∨ o + i + 1 ≤ co) : Elem E R w' Y g o d i := by
  obtain ⟨b', o', ev, av, hp, hu, ha, he, hi⟩ := h
  have hx : ∀ b, R b → b < w.heap.size → ¬ (hk H b ∨ b = cb) := fun b hb hl h => h.elim (hR b hb hl).2 (hR b hb hl).1
  refine ⟨b', o', ev, av, hp, k.at hu hg (fun e => ?_), ?_, eo.kept he k.kept hx, hi.kept k.kept hx⟩
  · simp only [List.length_cons, List.length_nil]; have := h2 e.symm; omega
  · rcases hp with ⟨_, rfl, rfl⟩ | ⟨_, hr, rfl⟩
    · exact k.at ha hY (fun e => by simp only [List.length_cons, List.length_nil]; have := h1 e.symm; omega)
    · exact k.at ha (hR _ hr ha.lt).2 (fun e => absurd e (hR _ hr ha.lt).1)

theorem Elem.at {E : EP} (eo : EOk E) {R R' : Nat → Prop} {Y g o i : Nat} {d : ItemD} {w : World} (h : Elem E R w Y g o d i) (hr : ∀ b, R b → b < w.heap.size → R' b) : Elem E R' w Y g o d i := by
  obtain ⟨b', o', ev, av, hp, hu, ha, he, hi⟩ := h
  exact ⟨b', o', ev, av, hp.imp (fun h => h) (fun h => ⟨h.1, hr _ h.2.1 ha.lt, h.2.2⟩), hu, ha, eo.at_ he hr, hi.at hr⟩

/-- Table i of the copy. -/
def Tel (R : Nat → Prop) (w : World) (Y g o : Nat) (d : TabD) (i : Nat) : Prop :=
  ∃ b' o' av, ((i = 0 ∧ b' = Y ∧ o' = 14) ∨ (i ≠ 0 ∧ R b' ∧ o' = 0)) ∧ At w g (o + i) [.iface 63 (.pointer (some ⟨b', o', none⟩))] ∧ At w b' o' [.string d.nm, .string ⟨#[]⟩, .int .i64 d.n, av] ∧ IdPtr w R av d.al

theorem Tel.kp {R : Nat → Prop} {H cb co l Y g o i : Nat} {d : TabD} {w w' : World} (h : Tel R w Y g o d i) (k : Kp H cb co l w w') (hR : ∀ b, R b → b < w.heap.size → b ≠ cb ∧ ¬ hk H b) (hY : ¬ hk H Y) (hg : ¬ hk H g)
    (h1 : cb = Y → co + l ≤ 14 ∨ 18 ≤ co) (h2 : cb = g → co + l ≤ o + i ∨ o + i + 1 ≤ co) : Tel R w' Y g o d i := by
  obtain ⟨b', o', av, hp, hu, ha, hi⟩ := h
  have hx : ∀ b, R b → b < w.heap.size → ¬ (hk H b ∨ b = cb) := fun b hb hl h => h.elim (hR b hb hl).2 (hR b hb hl).1
  refine ⟨b', o', av, hp, k.at hu hg (fun e => ?_), ?_, hi.kept k.kept hx⟩
  · simp only [List.length_cons, List.length_nil]; have := h2 e.symm; omega
  · rcases hp with ⟨_, rfl, rfl⟩ | ⟨_, hr, rfl⟩
    · exact k.at ha hY (fun e => by simp only [List.length_cons, List.length_nil]; have := h1 e.symm; omega)
    · exact k.at ha (hR _ hr ha.lt).2 (fun e => absurd e (hR _ hr ha.lt).1)

theorem Tel.at {R R' : Nat → Prop} {Y g o i : Nat} {d : TabD} {w : World} (h : Tel R w Y g o d i) (hr : ∀ b, R b → b < w.heap.size → R' b) : Tel R' w Y g o d i := by
  obtain ⟨b', o', av, hp, hu, ha, hi⟩ := h
  exact ⟨b', o', av, hp.imp (fun h => h) (fun h => ⟨h.1, hr _ h.2.1 ha.lt, h.2.2⟩), hu, ha, hi.at hr⟩

/-- Order entry i of the copy. -/
def Oel (E : EP) (R : Nat → Prop) (w : World) (g : Nat) (d : ByteArray × Nat) (i : Nat) : Prop :=
  ∃ b' ev, R b' ∧ At w g i [.pointer (some ⟨b', 0, none⟩)] ∧ At w b' 0 [ev, .int .i64 0] ∧ E w R ev 0 d.1 d.2

theorem Oel.kp {E : EP} (eo : EOk E) {R : Nat → Prop} {H cb co l g i : Nat} {d : ByteArray × Nat} {w w' : World} (h : Oel E R w g d i) (k : Kp H cb co l w w') (hR : ∀ b, R b → b < w.heap.size → b ≠ cb ∧ ¬ hk H b) (hg : ¬ hk H g)
    (h2 : cb = g → co + l ≤ i ∨ i + 1 ≤ co) : Oel E R w' g d i := by
  obtain ⟨b', ev, hp, hu, ha, he⟩ := h
  have hx : ∀ b, R b → b < w.heap.size → ¬ (hk H b ∨ b = cb) := fun b hb hl h => h.elim (hR b hb hl).2 (hR b hb hl).1
  refine ⟨b', ev, hp, k.at hu hg (fun e => ?_), k.at ha (hR _ hp ha.lt).2 (fun e => absurd e (hR _ hp ha.lt).1), eo.kept he k.kept hx⟩
  simp only [List.length_cons, List.length_nil]; have := h2 e.symm; omega

theorem Oel.at {E : EP} (eo : EOk E) {R R' : Nat → Prop} {g i : Nat} {d : ByteArray × Nat} {w : World} (h : Oel E R w g d i) (hr : ∀ b, R b → b < w.heap.size → R' b) : Oel E R' w g d i := by
  obtain ⟨b', ev, hp, hu, ha, he⟩ := h
  exact ⟨b', ev, hr _ hp ha.lt, hu, ha, eo.at_ he hr⟩

def refsTo (D : SelD) : Nat → Nat
  | 0 => 0
  | k + 1 => refsTo D k + refsOf (D.items k).k
def subsTo (D : SelD) : Nat → Nat
  | 0 => 0
  | k + 1 => subsTo D k + subsOf (D.items k).k
theorem refsTo_mono (D : SelD) {a b : Nat} (h : a ≤ b) : refsTo D a ≤ refsTo D b := by
  induction h with
  | refl => exact Nat.le_refl _
  | step _ ih => exact Nat.le_trans ih (Nat.le_add_right _ _)
theorem subsTo_mono (D : SelD) {a b : Nat} (h : a ≤ b) : subsTo D a ≤ subsTo D b := by
  induction h with
  | refl => exact Nat.le_refl _
  | step _ ih => exact Nat.le_trans ih (Nat.le_add_right _ _)
def refsD (D : SelD) : Nat := refsTo D D.nItems + refsOf D.wk + D.nGrp + refsOf D.hk + D.nOrd
def subsD (D : SelD) : Nat := subsTo D D.nItems + subsOf D.wk + subsOf D.hk

/-- The blocks from Y + 1 on, but for g. -/
abbrev NewR (Y g : Nat) : Nat → Prop := New (Y + 1) g
/-- The blocks from Y + 1 on, and under hi. -/
def Till (Y hi b : Nat) : Prop := Y + 1 ≤ b ∧ b < hi

/-- Where the copy's items, tables lie. -/
def Lies (Y g o o1 n : Nat) : Prop := (g = Y ∧ o = o1 ∧ n ≤ 1) ∨ (Y + 1 ≤ g ∧ o = 0)

/-- THE STATE IN THE ITEMS' LOOP. -/
structure IA (E : EP) (H : Nat) (W1 : World) (D : SelD) (r q Y g o cap : Nat) (fv wv gv hv ov lv : Value) (k : Nat) (w : World) : Prop where
  kept : KeptX (hk H) W1 w
  hooks : ∃ o c, Hooks w H (r + refsTo D k) (q + subsTo D k) o c
  room : At w Y 0 [.int .i64 D.off, .bool D.dist, .slice (some ⟨g, o, none⟩) k cap, fv, wv, gv, hv, ov, lv]
  item : ∃ x y z, At w Y 10 [x, y, z]
  tab : At w Y 13 [.nilIface, .string ⟨#[]⟩, .string ⟨#[]⟩, .int .i64 0, .pointer none]
  spare : ∀ j, j < D.nItems → ∃ x, At w g (o + j) [x]
  done : ∀ i, i < k → Elem E (NewR Y g) w Y g o (D.items i) i

theorem hk_not {H b : Nat} (h : H + 5 ≤ b) : ¬ hk H b := fun h2 => by have := h2.2; omega

theorem IA.step {E : EP} (eo : EOk E) {H : Nat} {W1 : World} {D : SelD} {r q Y g o cap : Nat} {fv wv gv hv ov lv : Value} {k : Nat} {w w5 w8 : World} (h : IA E H W1 D r q Y g o cap fv wv gv hv ov lv k w)
    (hH5 : H + 5 ≤ Y) (hY : W1.heap.size = Y) (lies : Lies Y g o 9 D.nItems) (hkn : k < D.nItems) {cb co : Nat} {ev av : Value} {ob : Obj}
    (place : (k = 0 ∧ cb = Y ∧ co = 10) ∨ (k ≠ 0 ∧ w.heap.size ≤ cb ∧ co = 0)) (kp : Kp H cb co 3 w w5) (a5 : At w5 cb co [ev, av, .string (D.items k).text])
    (e5 : E w5 (fun b => w.heap.size ≤ b ∧ b ≠ cb) ev (D.items k).k (D.items k).nm (D.items k).n) (i5 : IdPtr w5 (fun b => w.heap.size ≤ b ∧ b ≠ cb) av (D.items k).al)
    (h5 : ∃ o c, Hooks w5 H (r + refsTo D (k + 1)) (q + subsTo D (k + 1)) o c)
    (hw8 : w8 = ((w5.alloc ob).setCell ⟨g, o + k, none⟩ (.pointer (some ⟨cb, co, none⟩))).setCell ⟨Y, 2, none⟩ (.slice (some ⟨g, o, none⟩) (k + 1) cap)) :
    IA E H W1 D r q Y g o cap fv wv gv hv ov lv (k + 1) w8 := by
  obtain ⟨kept, _, room, item, tab, spare, done⟩ := h
  have hYl := room.lt
  have hgl : g < w.heap.size := by obtain ⟨x, hx⟩ := spare k hkn; exact hx.lt
  have hgY : Y ≤ g := by rcases lies with ⟨h, _⟩ | ⟨h, _⟩ <;> omega
  have hcY : Y ≤ cb := by rcases place with ⟨_, h, _⟩ | ⟨_, h, _⟩ <;> omega
  have nY : ¬ hk H Y := hk_not hH5
  have ng : ¬ hk H g := hk_not (by omega)
  have nc : ¬ hk H cb := hk_not (by omega)
  have k6 : KeptX (hk H) w5 (w5.alloc ob) := (KeptX.refl _ _).alloc ob
  have kp6 : ∀ cb co l, ¬ hk H cb → Kp H cb co l w5 (w5.alloc ob) := fun cb co l h => Kp.of_kept k6 h
  have s7 : Kp H g (o + k) 1 (w5.alloc ob) ((w5.alloc ob).setCell ⟨g, o + k, none⟩ (.pointer (some ⟨cb, co, none⟩))) := Kp.set _ _ ⟨by omega, by omega⟩ _
  have s8 : Kp H Y 2 1 ((w5.alloc ob).setCell ⟨g, o + k, none⟩ (.pointer (some ⟨cb, co, none⟩))) w8 := by rw [hw8]; exact Kp.set _ _ ⟨by omega, by omega⟩ _
  have one : ∀ v : Value, [v].length = 1 := fun _ => rfl
  have hsp5 : ∀ j, j < D.nItems → ∃ x, At (w5.alloc ob) g (o + j) [x] := fun j hj => by
    obtain ⟨x, hx⟩ := spare j hj
    exact ⟨x, At.alloc (kp.at hx ng (fun e => by simp only [one]; rcases place with ⟨h1, h2, h3⟩ | ⟨h1, h2, h3⟩ <;> rcases lies with ⟨l1, l2, l3⟩ | ⟨l1, l2⟩ <;> omega)) ob⟩
  have hnew : At ((w5.alloc ob).setCell ⟨g, o + k, none⟩ (.pointer (some ⟨cb, co, none⟩))) g (o + k) [.pointer (some ⟨cb, co, none⟩)] := by
    obtain ⟨x, hx⟩ := hsp5 k hkn; exact hx.one _
  have xs7 : KeptX (fun b => hk H b ∨ b = g) (w5.alloc ob) _ := s7.kept
  have xs8 := s8.kept
  refine ⟨?_, ?_, ?_, ?_, ?_, ?_, ?_⟩
  · exact Kp.from (Kp.from ((Kp.from kept kp (by omega)).trans k6) s7 (by omega)) s8 (by omega)
  · obtain ⟨oo, cc, h5⟩ := h5
    have k8 : KeptX (fun b => b = g ∨ b = Y) w5 w8 := by
      rw [hw8]
      exact (((KeptX.refl _ w5).alloc ob).setCell (X := fun b => b = g ∨ b = Y) (p := ⟨g, o + k, none⟩) (.inr (.inl rfl)) _).setCell (p := ⟨Y, 2, none⟩) (.inr (.inr rfl)) _
    exact ⟨oo, cc, h5.kept k8 (fun b hb e => e.elim (fun e => ng (e ▸ hb)) (fun e => nY (e ▸ hb)))⟩
  · have r5 := kp.at room nY (fun e => by simp only [List.length_cons, List.length_nil]; rcases place with ⟨h1, h2, h3⟩ | ⟨h1, h2, h3⟩ <;> omega)
    have r7 := s7.at (r5.alloc ob) nY (fun e => by simp only [List.length_cons, List.length_nil]; rcases lies with ⟨l1, l2, l3⟩ | ⟨l1, l2⟩ <;> omega)
    rw [hw8]
    exact r7.set 2 (.slice (some ⟨g, o, none⟩) (k + 1) cap) _ (fun i v hi => by
      match i, hi with
      | 0, hi => exact .inr ⟨by omega, by simpa using hi⟩
      | 1, hi => exact .inr ⟨by omega, by simpa using hi⟩
      | 2, hi => exact .inl ⟨rfl, by simpa using hi.symm, rfl⟩
      | i + 3, hi => exact .inr ⟨by omega, by simpa using hi⟩)
  · have h5 : ∃ x y z, At w5 Y 10 [x, y, z] := by
      rcases place with ⟨h1, h2, h3⟩ | ⟨h1, h2, h3⟩
      · subst h2 h3; exact ⟨_, _, _, a5⟩
      · obtain ⟨x, y, z, hx⟩ := item; exact ⟨x, y, z, kp.at hx nY (fun e => by omega)⟩
    obtain ⟨x, y, z, hx⟩ := h5
    exact ⟨x, y, z, s8.at (s7.at (hx.alloc ob) nY (fun e => by simp only [List.length_cons, List.length_nil]; rcases lies with ⟨l1, l2, l3⟩ | ⟨l1, l2⟩ <;> omega)) nY (fun e => by omega)⟩
  · have t5 := kp.at tab nY (fun e => by simp only [List.length_cons, List.length_nil]; rcases place with ⟨h1, h2, h3⟩ | ⟨h1, h2, h3⟩ <;> omega)
    exact s8.at (s7.at (t5.alloc ob) nY (fun e => by rcases lies with ⟨l1, l2, l3⟩ | ⟨l1, l2⟩ <;> omega)) nY (fun e => by omega)
  · intro j hj
    by_cases e : j = k
    · subst e; exact ⟨_, s8.at hnew ng (fun e => by simp only [one]; rcases lies with ⟨l1, l2, l3⟩ | ⟨l1, l2⟩ <;> omega)⟩
    · obtain ⟨x, hx⟩ := hsp5 j hj
      exact ⟨x, s8.at (s7.at hx ng (fun _ => by simp only [one]; omega)) ng (fun e => by simp only [one]; rcases lies with ⟨l1, l2, l3⟩ | ⟨l1, l2⟩ <;> omega)⟩
  · intro i hi
    by_cases e : i = k
    · subst e
      have ac : At w8 cb co [ev, av, .string (D.items i).text] := s8.at (s7.at (a5.alloc ob) nc (fun e => by simp only [List.length_cons, List.length_nil]; rcases lies with ⟨l1, l2, l3⟩ | ⟨l1, l2⟩ <;> rcases place with ⟨h1, h2, h3⟩ | ⟨h1, h2, h3⟩ <;> omega)) nc (fun e => by rcases place with ⟨h1, h2, h3⟩ | ⟨h1, h2, h3⟩ <;> omega)
      refine ⟨cb, co, ev, av, ?_, s8.at hnew ng (fun e => by simp only [one]; rcases lies with ⟨l1, l2, l3⟩ | ⟨l1, l2⟩ <;> omega), ac, ?_, ?_⟩
      · rcases place with ⟨h1, h2, h3⟩ | ⟨h1, h2, h3⟩
        · exact .inl ⟨h1, h2, h3⟩
        · exact .inr ⟨h1, ⟨by omega, by omega⟩, h3⟩
      · exact eo.at_ (eo.kept (eo.kept (eo.kept e5 k6 (fun b hb _ => hk_not (by have := hb.1; omega))) xs7 (fun b hb _ h => h.elim (fun h => hk_not (by have := hb.1; omega) h) (fun h => by have := hb.1; omega))) xs8 (fun b hb _ h => h.elim (fun h => hk_not (by have := hb.1; omega) h) (fun h => by have := hb.1; omega))) (fun b hb _ => ⟨by have := hb.1; omega, by have := hb.1; omega⟩)
      · exact ((((i5.kept k6 (fun b hb _ => hk_not (by have := hb.1; omega))).kept xs7 (fun b hb _ h => h.elim (fun h => hk_not (by have := hb.1; omega) h) (fun h => by have := hb.1; omega))).kept xs8 (fun b hb _ h => h.elim (fun h => hk_not (by have := hb.1; omega) h) (fun h => by have := hb.1; omega)))).at (fun b hb _ => ⟨by have := hb.1; omega, by have := hb.1; omega⟩)
    · have hR : ∀ {x : World} {c : Nat}, c = g ∨ c = Y → ∀ b, NewR Y g b → b < x.heap.size → b ≠ c ∧ ¬ hk H b := fun hc b hb _ => ⟨by have := hb.1; have := hb.2; omega, hk_not (by have := hb.1; omega)⟩
      have d5 := (done i (by omega)).kp eo kp (fun b hb hl => ⟨by rcases place with ⟨h1, h2, h3⟩ | ⟨h1, h2, h3⟩ <;> omega, hk_not (by have := hb.1; omega)⟩) nY ng (fun e => by rcases place with ⟨h1, h2, h3⟩ | ⟨h1, h2, h3⟩ <;> omega) (fun e => by rcases place with ⟨h1, h2, h3⟩ | ⟨h1, h2, h3⟩ <;> omega)
      have d6 := d5.kp eo (kp6 Y 0 0 nY) (hR (.inr rfl)) nY ng (fun _ => by omega) (fun _ => by omega)
      have d7 := d6.kp eo s7 (hR (.inl rfl)) nY ng (fun e => by rcases lies with ⟨l1, l2, l3⟩ | ⟨l1, l2⟩ <;> omega) (fun e => by omega)
      exact d7.kp eo s8 (hR (.inr rfl)) nY ng (fun e => by omega) (fun e => by rcases lies with ⟨l1, l2, l3⟩ | ⟨l1, l2⟩ <;> omega)

end Go.Proofs.Ybulkaq
