/-
  THE STATES OF '(Copier).Select' BEHIND THE ITEMS: plain facts on memory, no walk.
-/
import Derived.Test.YbulkaqSt
namespace Go.Proofs.Ybulkaq
open Go.RowKit
set_option linter.unusedVariables false

def LiesF (Y hi g o o1 n : Nat) : Prop := (g = Y ∧ o = o1 ∧ n ≤ 1) ∨ (Y + 1 ≤ g ∧ g < hi ∧ o = 0)

def ItemsF (E : EP) (D : SelD) (Y hi : Nat) (w : World) (v : Value) : Prop :=
  ∃ g o c, v = .slice (some ⟨g, o, none⟩) D.nItems c ∧ ∀ i, i < D.nItems → LiesF Y hi g o 9 D.nItems ∧ Elem E (Till Y hi) w Y g o (D.items i) i
def TabsF (D : SelD) (Y hi : Nat) (w : World) (v : Value) : Prop :=
  ∃ ao c, v = .slice ao D.nTabs c ∧ ao.isNone = D.tabsNil ∧ ∀ i, i < D.nTabs → ∃ g o, ao = some ⟨g, o, none⟩ ∧ LiesF Y hi g o 13 D.nTabs ∧ Tel (Till Y hi) w Y g o (D.tabs i) i

theorem Till.mono {Y hi hi' b : Nat} (h : Till Y hi b) (hh : hi ≤ hi') : Till Y hi' b := ⟨h.1, Nat.lt_of_lt_of_le h.2 hh⟩

theorem ItemsF.raise {E : EP} (eo : EOk E) {D : SelD} {Y hi hi' : Nat} {w : World} {v : Value} (h : ItemsF E D Y hi w v) (hh : hi ≤ hi') : ItemsF E D Y hi' w v := by
  obtain ⟨g, o, c, h1, h3⟩ := h
  exact ⟨g, o, c, h1, fun i hi => ⟨(h3 i hi).1.imp (fun h => h) (fun h => ⟨h.1, by omega, h.2.2⟩), (h3 i hi).2.at eo (fun b hb _ => hb.mono hh)⟩⟩
theorem TabsF.raise {D : SelD} {Y hi hi' : Nat} {w : World} {v : Value} (h : TabsF D Y hi w v) (hh : hi ≤ hi') : TabsF D Y hi' w v := by
  obtain ⟨ao, c, h1, h2, h3⟩ := h
  refine ⟨ao, c, h1, h2, fun i hi => ?_⟩
  obtain ⟨g, o, h4, h5, h6⟩ := h3 i hi
  exact ⟨g, o, h4, h5.imp (fun h => h) (fun h => ⟨h.1, by omega, h.2.2⟩), h6.at (fun b hb _ => hb.mono hh)⟩

theorem ItemsF.kp {E : EP} (eo : EOk E) {D : SelD} {H Y hi cb co l : Nat} {w w' : World} {v : Value} (h : ItemsF E D Y hi w v) (hH5 : H + 5 ≤ Y) (k : Kp H cb co l w w') (hc : (cb = Y ∧ (3 ≤ co ∧ co + l ≤ 9 ∨ 13 ≤ co)) ∨ (hi ≤ cb ∧ Y + 1 ≤ cb)) : ItemsF E D Y hi w' v := by
  obtain ⟨g, o, c, h1, h3⟩ := h
  refine ⟨g, o, c, h1, fun i hi' => ?_⟩
  obtain ⟨h2, h3⟩ := h3 i hi'
  have hgY : Y ≤ g := by rcases h2 with ⟨h, _⟩ | ⟨h, _⟩ <;> omega
  refine ⟨h2, h3.kp eo k (fun b hb _ => ⟨by have := hb.1; have := hb.2; omega, hk_not (by have := hb.1; omega)⟩) (hk_not hH5) (hk_not (by omega)) (fun e => by omega) (fun e => ?_)⟩
  rcases h2 with ⟨h4, h5, h6⟩ | ⟨h4, h5, h6⟩ <;> omega
theorem TabsF.kp {D : SelD} {H Y hi cb co l : Nat} {w w' : World} {v : Value} (h : TabsF D Y hi w v) (hH5 : H + 5 ≤ Y) (k : Kp H cb co l w w') (hc : (cb = Y ∧ co + l ≤ 13) ∨ (hi ≤ cb ∧ Y + 1 ≤ cb)) : TabsF D Y hi w' v := by
  obtain ⟨ao, c, h1, h2, h3⟩ := h
  refine ⟨ao, c, h1, h2, fun i hi' => ?_⟩
  obtain ⟨g, o, h4, h5, h6⟩ := h3 i hi'
  have hgY : Y ≤ g := by rcases h5 with ⟨h, _⟩ | ⟨h, _⟩ <;> omega
  refine ⟨g, o, h4, h5, h6.kp k (fun b hb _ => ⟨by have := hb.1; have := hb.2; omega, hk_not (by have := hb.1; omega)⟩) (hk_not hH5) (hk_not (by omega)) (fun e => by omega) (fun e => ?_)⟩
  rcases h5 with ⟨h4, h5, h6⟩ | ⟨h4, h5, h6⟩ <;> omega

/-- The items' loop is through. -/
theorem IA.through {E : EP} (eo : EOk E) {H : Nat} {W1 : World} {D : SelD} {r q Y g o cap : Nat} {fv wv gv hv ov lv : Value} {w : World} (h : IA E H W1 D r q Y g o cap fv wv gv hv ov lv D.nItems w) (lies : Lies Y g o 9 D.nItems) : ItemsF E D Y w.heap.size w (.slice (some ⟨g, o, none⟩) D.nItems cap) := by
  refine ⟨g, o, cap, rfl, fun i hi => ⟨?_, (h.done i hi).at eo (fun b hb hl => ⟨hb.1, hl⟩)⟩⟩
  rcases lies with h1 | h1
  · exact .inl h1
  · obtain ⟨x, hx⟩ := h.spare i hi
    exact .inr ⟨h1.1, hx.lt, h1.2⟩

/-- THE STATE IN THE TABLES' LOOP. -/
structure IB (E : EP) (H : Nat) (W1 : World) (D : SelD) (r q Y hi g o cap : Nat) (iv wv gv hv ov lv : Value) (k : Nat) (w : World) : Prop where
  kept : KeptX (hk H) W1 w
  hooks : ∃ o c, Hooks w H r q o c
  room : At w Y 0 [.int .i64 D.off, .bool D.dist, iv, .slice (some ⟨g, o, none⟩) k cap, wv, gv, hv, ov, lv]
  tab : ∃ x y z t, At w Y 14 [x, y, z, t]
  spare : ∀ j, j < D.nTabs → ∃ x, At w g (o + j) [x]
  items : ItemsF E D Y hi w iv
  done : ∀ i, i < k → Tel (NewR Y g) w Y g o (D.tabs i) i

def LiesB (Y hi g o n : Nat) : Prop := (g = Y ∧ o = 13 ∧ n ≤ 1) ∨ (Y + 1 ≤ g ∧ hi ≤ g ∧ o = 0)

theorem IB.step {E : EP} (eo : EOk E) {H : Nat} {W1 : World} {D : SelD} {r q Y hi g o cap : Nat} {iv wv gv hv ov lv : Value} {k : Nat} {w w5 w8 : World} (h : IB E H W1 D r q Y hi g o cap iv wv gv hv ov lv k w)
    (hH5 : H + 5 ≤ Y) (hY : W1.heap.size = Y) (lies : LiesB Y hi g o D.nTabs) (hhi : hi ≤ w.heap.size) (hkn : k < D.nTabs) {cb co : Nat} {av : Value} {ob : Obj}
    (place : (k = 0 ∧ cb = Y ∧ co = 14) ∨ (k ≠ 0 ∧ w.heap.size ≤ cb ∧ co = 0)) (kp : Kp H cb co 4 w w5) (a5 : At w5 cb co [.string (D.tabs k).nm, .string ⟨#[]⟩, .int .i64 (D.tabs k).n, av])
    (i5 : IdPtr w5 (fun b => w.heap.size ≤ b ∧ b ≠ cb) av (D.tabs k).al)
    (h5 : ∃ o c, Hooks w5 H r q o c)
    (hw8 : w8 = ((w5.alloc ob).setCell ⟨g, o + k, none⟩ (.iface 63 (.pointer (some ⟨cb, co, none⟩)))).setCell ⟨Y, 3, none⟩ (.slice (some ⟨g, o, none⟩) (k + 1) cap)) :
    IB E H W1 D r q Y hi g o cap iv wv gv hv ov lv (k + 1) w8 := by
  obtain ⟨kept, _, room, tab, spare, items, done⟩ := h
  have hYl := room.lt
  have hgl : g < w.heap.size := by obtain ⟨x, hx⟩ := spare k hkn; exact hx.lt
  have hgY : Y ≤ g := by rcases lies with ⟨h, _⟩ | ⟨h, _⟩ <;> omega
  have hcY : Y ≤ cb := by rcases place with ⟨_, h, _⟩ | ⟨_, h, _⟩ <;> omega
  have nY : ¬ hk H Y := hk_not hH5
  have ng : ¬ hk H g := hk_not (by omega)
  have nc : ¬ hk H cb := hk_not (by omega)
  have k6 : KeptX (hk H) w5 (w5.alloc ob) := (KeptX.refl _ _).alloc ob
  have kp6 : ∀ cb co l, ¬ hk H cb → Kp H cb co l w5 (w5.alloc ob) := fun cb co l h => Kp.of_kept k6 h
  have s7 : Kp H g (o + k) 1 (w5.alloc ob) ((w5.alloc ob).setCell ⟨g, o + k, none⟩ (.iface 63 (.pointer (some ⟨cb, co, none⟩)))) := Kp.set _ _ ⟨by omega, by omega⟩ _
  have s8 : Kp H Y 3 1 ((w5.alloc ob).setCell ⟨g, o + k, none⟩ (.iface 63 (.pointer (some ⟨cb, co, none⟩)))) w8 := by rw [hw8]; exact Kp.set _ _ ⟨by omega, by omega⟩ _
  have one : ∀ v : Value, [v].length = 1 := fun _ => rfl
  have hsp5 : ∀ j, j < D.nTabs → ∃ x, At (w5.alloc ob) g (o + j) [x] := fun j hj => by
    obtain ⟨x, hx⟩ := spare j hj
    exact ⟨x, At.alloc (kp.at hx ng (fun e => by simp only [one]; rcases place with ⟨h1, h2, h3⟩ | ⟨h1, h2, h3⟩ <;> rcases lies with ⟨l1, l2, l3⟩ | ⟨l1, l2, l3⟩ <;> omega)) ob⟩
  have hnew : At ((w5.alloc ob).setCell ⟨g, o + k, none⟩ (.iface 63 (.pointer (some ⟨cb, co, none⟩)))) g (o + k) [.iface 63 (.pointer (some ⟨cb, co, none⟩))] := by
    obtain ⟨x, hx⟩ := hsp5 k hkn; exact hx.one _
  have xs7 : KeptX (fun b => hk H b ∨ b = g) (w5.alloc ob) _ := s7.kept
  have xs8 := s8.kept
  refine ⟨?_, ?_, ?_, ?_, ?_, ?_, ?_⟩
  · exact Kp.from (Kp.from ((Kp.from kept kp (by omega)).trans k6) s7 (by omega)) s8 (by omega)
  · obtain ⟨oo, cc, h5⟩ := h5
    have k8 : KeptX (fun b => b = g ∨ b = Y) w5 w8 := by
      rw [hw8]
      exact (((KeptX.refl _ w5).alloc ob).setCell (X := fun b => b = g ∨ b = Y) (p := ⟨g, o + k, none⟩) (.inr (.inl rfl)) _).setCell (p := ⟨Y, 3, none⟩) (.inr (.inr rfl)) _
    exact ⟨oo, cc, h5.kept k8 (fun b hb e => e.elim (fun e => ng (e ▸ hb)) (fun e => nY (e ▸ hb)))⟩
  · have r5 := kp.at room nY (fun e => by simp only [List.length_cons, List.length_nil]; rcases place with ⟨h1, h2, h3⟩ | ⟨h1, h2, h3⟩ <;> omega)
    have r7 := s7.at (r5.alloc ob) nY (fun e => by simp only [List.length_cons, List.length_nil]; rcases lies with ⟨l1, l2, l3⟩ | ⟨l1, l2, l3⟩ <;> omega)
    rw [hw8]
    exact r7.set 3 (.slice (some ⟨g, o, none⟩) (k + 1) cap) _ (fun i v hi => by
      match i, hi with
      | 0, hi => exact .inr ⟨by omega, by simpa using hi⟩
      | 1, hi => exact .inr ⟨by omega, by simpa using hi⟩
      | 2, hi => exact .inr ⟨by omega, by simpa using hi⟩
      | 3, hi => exact .inl ⟨rfl, by simpa using hi.symm, rfl⟩
      | i + 4, hi => exact .inr ⟨by omega, by simpa using hi⟩)
  · have h5 : ∃ x y z t, At w5 Y 14 [x, y, z, t] := by
      rcases place with ⟨h1, h2, h3⟩ | ⟨h1, h2, h3⟩
      · subst h2 h3; exact ⟨_, _, _, _, a5⟩
      · obtain ⟨x, y, z, t, hx⟩ := tab; exact ⟨x, y, z, t, kp.at hx nY (fun e => by omega)⟩
    obtain ⟨x, y, z, t, hx⟩ := h5
    exact ⟨x, y, z, t, s8.at (s7.at (hx.alloc ob) nY (fun e => by simp only [List.length_cons, List.length_nil]; rcases lies with ⟨l1, l2, l3⟩ | ⟨l1, l2, l3⟩ <;> omega)) nY (fun e => by omega)⟩
  · intro j hj
    by_cases e : j = k
    · subst e; exact ⟨_, s8.at hnew ng (fun e => by simp only [one]; rcases lies with ⟨l1, l2, l3⟩ | ⟨l1, l2, l3⟩ <;> omega)⟩
    · obtain ⟨x, hx⟩ := hsp5 j hj
      exact ⟨x, s8.at (s7.at hx ng (fun _ => by simp only [one]; omega)) ng (fun e => by simp only [one]; rcases lies with ⟨l1, l2, l3⟩ | ⟨l1, l2, l3⟩ <;> omega)⟩
  · have i5 := items.kp eo hH5 kp (by rcases place with ⟨h1, h2, h3⟩ | ⟨h1, h2, h3⟩ <;> omega)
    have i6 := i5.kp eo hH5 (kp6 Y 3 0 nY) (by omega)
    have i7 := i6.kp eo hH5 s7 (by rcases lies with ⟨l1, l2, l3⟩ | ⟨l1, l2, l3⟩ <;> omega)
    exact i7.kp eo hH5 s8 (by omega)
  · intro i hi
    by_cases e : i = k
    · subst e
      have ac : At w8 cb co [.string (D.tabs i).nm, .string ⟨#[]⟩, .int .i64 (D.tabs i).n, av] := s8.at (s7.at (a5.alloc ob) nc (fun e => by simp only [List.length_cons, List.length_nil]; rcases lies with ⟨l1, l2, l3⟩ | ⟨l1, l2, l3⟩ <;> rcases place with ⟨h1, h2, h3⟩ | ⟨h1, h2, h3⟩ <;> omega)) nc (fun e => by rcases place with ⟨h1, h2, h3⟩ | ⟨h1, h2, h3⟩ <;> omega)
      refine ⟨cb, co, av, ?_, s8.at hnew ng (fun e => by simp only [one]; rcases lies with ⟨l1, l2, l3⟩ | ⟨l1, l2, l3⟩ <;> omega), ac, ?_⟩
      · rcases place with ⟨h1, h2, h3⟩ | ⟨h1, h2, h3⟩
        · exact .inl ⟨h1, h2, h3⟩
        · exact .inr ⟨h1, ⟨by omega, by omega⟩, h3⟩
      · exact ((((i5.kept k6 (fun b hb _ => hk_not (by have := hb.1; omega))).kept xs7 (fun b hb _ h => h.elim (fun h => hk_not (by have := hb.1; omega) h) (fun h => by have := hb.1; omega))).kept xs8 (fun b hb _ h => h.elim (fun h => hk_not (by have := hb.1; omega) h) (fun h => by have := hb.1; omega)))).at (fun b hb _ => ⟨by have := hb.1; omega, by have := hb.1; omega⟩)
    · have hR : ∀ {x : World} {c : Nat}, c = g ∨ c = Y → ∀ b, NewR Y g b → b < x.heap.size → b ≠ c ∧ ¬ hk H b := fun hc b hb _ => ⟨by have := hb.1; have := hb.2; omega, hk_not (by have := hb.1; omega)⟩
      have d5 := (done i (by omega)).kp kp (fun b hb hl => ⟨by rcases place with ⟨h1, h2, h3⟩ | ⟨h1, h2, h3⟩ <;> omega, hk_not (by have := hb.1; omega)⟩) nY ng (fun e => by rcases place with ⟨h1, h2, h3⟩ | ⟨h1, h2, h3⟩ <;> omega) (fun e => by rcases place with ⟨h1, h2, h3⟩ | ⟨h1, h2, h3⟩ <;> omega)
      have d6 := d5.kp (kp6 Y 0 0 nY) (hR (.inr rfl)) nY ng (fun _ => by omega) (fun _ => by omega)
      have d7 := d6.kp s7 (hR (.inl rfl)) nY ng (fun e => by rcases lies with ⟨l1, l2, l3⟩ | ⟨l1, l2, l3⟩ <;> omega) (fun e => by omega)
      exact d7.kp s8 (hR (.inr rfl)) nY ng (fun e => by omega) (fun e => by rcases lies with ⟨l1, l2, l3⟩ | ⟨l1, l2, l3⟩ <;> omega)

theorem IB.through {E : EP} {H : Nat} {W1 : World} {D : SelD} {r q Y hi g o cap : Nat} {iv wv gv hv ov lv : Value} {w : World} (h : IB E H W1 D r q Y hi g o cap iv wv gv hv ov lv D.nTabs w) (lies : LiesB Y hi g o D.nTabs) (hn : D.tabsNil = false) : TabsF D Y w.heap.size w (.slice (some ⟨g, o, none⟩) D.nTabs cap) := by
  refine ⟨_, cap, rfl, hn.symm, fun i hi => ⟨g, o, rfl, ?_, (h.done i hi).at (fun b hb hl => ⟨hb.1, hl⟩)⟩⟩
  rcases lies with h1 | h1
  · exact .inl h1
  · obtain ⟨x, hx⟩ := h.spare i hi
    exact .inr ⟨h1.1, hx.lt, h1.2.2⟩

/-- THE STATE BEHIND THE TABLES: the copy's nine cells are vs. -/
structure IC (E : EP) (H : Nat) (W1 : World) (D : SelD) (r q Y hi : Nat) (iv fv : Value) (vs : List Value) (w : World) : Prop where
  kept : KeptX (hk H) W1 w
  hooks : ∃ o c, Hooks w H r q o c
  room : At w Y 0 vs
  items : ItemsF E D Y hi w iv
  tabs : TabsF D Y hi w fv
  size : hi ≤ w.heap.size

theorem At.put {W : World} {b o : Nat} {vs : List Value} (h : At W b o vs) (j : Nat) (hj : j < vs.length) (u : Value) : At (W.setCell ⟨b, o + j, none⟩ u) b o (vs.set j u) :=
  h.set j u _ (fun i v hi => by
    by_cases e : i = j
    · subst e
      rw [List.getElem?_set_self hj] at hi
      exact .inl ⟨rfl, by simpa using hi.symm, by simp [hj]⟩
    · rw [List.getElem?_set_ne (Ne.symm e)] at hi
      exact .inr ⟨e, hi⟩)

/-- A callee, then a store into one of the nine cells behind the tables'. -/
theorem IC.put {E : EP} (eo : EOk E) {H : Nat} {W1 : World} {D : SelD} {r q r' q' Y hi : Nat} {iv fv : Value} {vs : List Value} {w w2 w3 : World} {o c : Option Addr} (h : IC E H W1 D r q Y hi iv fv vs w) (hH5 : H + 5 ≤ Y) (hY : W1.heap.size = Y) (hl : vs.length = 9)
    (k2 : KeptX (hk H) w w2) (h2 : Hooks w2 H r' q' o c) (j : Nat) (hj : 4 ≤ j ∧ j < 9) (u : Value) (hw3 : w3 = w2.setCell ⟨Y, j, none⟩ u) : IC E H W1 D r' q' Y w2.heap.size iv fv (vs.set j u) w3 ∧ Kp H Y j 1 w w3 := by
  have nY : ¬ hk H Y := hk_not hH5
  have s3 : Kp H Y j 1 w2 w3 := by rw [hw3]; exact Kp.set _ _ ⟨by omega, by omega⟩ _
  have s2 : Kp H Y j 1 w w2 := Kp.of_kept k2 nY
  have s := s2.trans s3
  have hsz : w2.heap.size ≤ w3.heap.size := s3.kept.size
  have hs2 := k2.size
  have hhi := h.size
  refine ⟨⟨Kp.from h.kept s (by omega), ⟨o, c, h2.kept (X := fun b => b = Y) (by rw [hw3]; exact KeptX.set1 _ _ _ _) (fun b hb e => nY (e ▸ hb))⟩, ?_, ((h.items.kp eo hH5 s (by omega)).raise eo (by omega)), ((h.tabs.kp hH5 s (by omega)).raise (by omega)), hsz⟩, s⟩
  have := (h.room.kept k2 nY).put j (by omega) u
  rw [hw3]
  rwa [Nat.zero_add] at this

end Go.Proofs.Ybulkaq
