/-
  THE STATES OF 'zzs0003abuild': plain facts on memory, no walk.
-/
import Derived.Test.YbulkaqData
namespace Go.Proofs.Ybulkaq
open Go.RowKit
set_option linter.unusedVariables false

def Bel (R : Nat → Prop) (w : World) (g : Nat) (d : ItemD) (i : Nat) : Prop :=
  ∃ b' ev av, R b' ∧ At w g i [.pointer (some ⟨b', 0, none⟩)] ∧ At w b' 0 [ev, av, .string d.text] ∧ Ex w R ev d.k d.nm d.n ∧ IdPtr w R av d.al
def Btel (R : Nat → Prop) (w : World) (g : Nat) (d : TabD) (i : Nat) : Prop :=
  ∃ b' av, R b' ∧ At w g i [.iface 63 (.pointer (some ⟨b', 0, none⟩))] ∧ At w b' 0 [.string d.nm, .string ⟨#[]⟩, .int .i64 d.n, av] ∧ IdPtr w R av d.al
def Boel (R : Nat → Prop) (w : World) (g : Nat) (d : ByteArray × Nat) (i : Nat) : Prop :=
  ∃ b' ev, R b' ∧ At w g i [.pointer (some ⟨b', 0, none⟩)] ∧ At w b' 0 [ev, .int .i64 0] ∧ Ex w R ev 0 d.1 d.2
def Bgel (R : Nat → Prop) (w : World) (g : Nat) (d : ByteArray × Nat) (i : Nat) : Prop :=
  ∃ ev, At w g i [ev] ∧ Ex w R ev 0 d.1 d.2

theorem Bel.fp {R : Nat → Prop} {cb co l g i : Nat} {d : ItemD} {w w' : World} (h : Bel R w g d i) (k : Fp cb co l w w') (hR : ∀ b, R b → b < w.heap.size → b ≠ cb) (h2 : cb = g → co + l ≤ i ∨ i + 1 ≤ co) : Bel R w' g d i := by
  obtain ⟨b', ev, av, hp, hu, ha, he, hi⟩ := h
  have hx : ∀ b, R b → b < w.heap.size → ¬ b = cb := hR
  exact ⟨b', ev, av, hp, k.at hu (fun e => by simp only [List.length_cons, List.length_nil]; have := h2 e.symm; omega), k.at ha (fun e => absurd e (hR _ hp ha.lt)), he.kept k.kept hx, hi.kept k.kept hx⟩
theorem Bel.at {R R' : Nat → Prop} {g i : Nat} {d : ItemD} {w : World} (h : Bel R w g d i) (hr : ∀ b, R b → b < w.heap.size → R' b) : Bel R' w g d i := by
  obtain ⟨b', ev, av, hp, hu, ha, he, hi⟩ := h
  exact ⟨b', ev, av, hr _ hp ha.lt, hu, ha, he.at hr, hi.at hr⟩
theorem Btel.fp {R : Nat → Prop} {cb co l g i : Nat} {d : TabD} {w w' : World} (h : Btel R w g d i) (k : Fp cb co l w w') (hR : ∀ b, R b → b < w.heap.size → b ≠ cb) (h2 : cb = g → co + l ≤ i ∨ i + 1 ≤ co) : Btel R w' g d i := by
  obtain ⟨b', av, hp, hu, ha, hi⟩ := h
  exact ⟨b', av, hp, k.at hu (fun e => by simp only [List.length_cons, List.length_nil]; have := h2 e.symm; omega), k.at ha (fun e => absurd e (hR _ hp ha.lt)), hi.kept k.kept hR⟩
theorem Btel.at {R R' : Nat → Prop} {g i : Nat} {d : TabD} {w : World} (h : Btel R w g d i) (hr : ∀ b, R b → b < w.heap.size → R' b) : Btel R' w g d i := by
  obtain ⟨b', av, hp, hu, ha, hi⟩ := h
  exact ⟨b', av, hr _ hp ha.lt, hu, ha, hi.at hr⟩
theorem Boel.fp {R : Nat → Prop} {cb co l g i : Nat} {d : ByteArray × Nat} {w w' : World} (h : Boel R w g d i) (k : Fp cb co l w w') (hR : ∀ b, R b → b < w.heap.size → b ≠ cb) (h2 : cb = g → co + l ≤ i ∨ i + 1 ≤ co) : Boel R w' g d i := by
  obtain ⟨b', ev, hp, hu, ha, he⟩ := h
  exact ⟨b', ev, hp, k.at hu (fun e => by simp only [List.length_cons, List.length_nil]; have := h2 e.symm; omega), k.at ha (fun e => absurd e (hR _ hp ha.lt)), he.kept k.kept hR⟩
theorem Boel.at {R R' : Nat → Prop} {g i : Nat} {d : ByteArray × Nat} {w : World} (h : Boel R w g d i) (hr : ∀ b, R b → b < w.heap.size → R' b) : Boel R' w g d i := by
  obtain ⟨b', ev, hp, hu, ha, he⟩ := h
  exact ⟨b', ev, hr _ hp ha.lt, hu, ha, he.at hr⟩
theorem Bgel.fp {R : Nat → Prop} {cb co l g i : Nat} {d : ByteArray × Nat} {w w' : World} (h : Bgel R w g d i) (k : Fp cb co l w w') (hR : ∀ b, R b → b < w.heap.size → b ≠ cb) (h2 : cb = g → co + l ≤ i ∨ i + 1 ≤ co) : Bgel R w' g d i := by
  obtain ⟨ev, hu, he⟩ := h
  exact ⟨ev, k.at hu (fun e => by simp only [List.length_cons, List.length_nil]; have := h2 e.symm; omega), he.kept k.kept hR⟩
theorem Bgel.at {R R' : Nat → Prop} {g i : Nat} {d : ByteArray × Nat} {w : World} (h : Bgel R w g d i) (hr : ∀ b, R b → b < w.heap.size → R' b) : Bgel R' w g d i := by
  obtain ⟨ev, hu, he⟩ := h
  exact ⟨ev, hu, he.at hr⟩

abbrev RP := (Nat → Prop) → World → Nat → Nat → Prop

structure POk (P : RP) : Prop where
  fp : ∀ {R : Nat → Prop} {cb co l g i : Nat} {w w' : World}, P R w g i → Fp cb co l w w' → (∀ b, R b → b < w.heap.size → b ≠ cb) → (cb = g → co + l ≤ i ∨ i + 1 ≤ co) → P R w' g i
  at_ : ∀ {R R' : Nat → Prop} {g i : Nat} {w : World}, P R w g i → (∀ b, R b → b < w.heap.size → R' b) → P R' w g i

def pItem (D : SelD) : RP := fun R w g i => Bel R w g (D.items i) i
def pTab (D : SelD) : RP := fun R w g i => Btel R w g (D.tabs i) i
def pOrd (D : SelD) : RP := fun R w g i => Boel R w g (D.ord i) i
def pGrp (D : SelD) : RP := fun R w g i => Bgel R w g (D.grp i) i
theorem pItem_ok (D : SelD) : POk (pItem D) := ⟨fun h k r x => Bel.fp h k r x, fun h r => Bel.at h r⟩
theorem pTab_ok (D : SelD) : POk (pTab D) := ⟨fun h k r x => Btel.fp h k r x, fun h r => Btel.at h r⟩
theorem pOrd_ok (D : SelD) : POk (pOrd D) := ⟨fun h k r x => Boel.fp h k r x, fun h r => Boel.at h r⟩
theorem pGrp_ok (D : SelD) : POk (pGrp D) := ⟨fun h k r x => Bgel.fp h k r x, fun h r => Bgel.at h r⟩

/-- A row that is through: its value, and each element; all under hi. -/
def RowF (P : RP) (Y hi : Nat) (w : World) (nil : Bool) (n : Nat) (v : Value) : Prop :=
  ∃ ao c, v = .slice ao n c ∧ ao.isNone = nil ∧ ∀ i, i < n → ∃ g, ao = some ⟨g, 0, none⟩ ∧ Till Y hi g ∧ P (Till Y hi) w g i
theorem RowF.fp {P : RP} (po : POk P) {Y hi cb co l n : Nat} {w w' : World} {nil : Bool} {v : Value} (h : RowF P Y hi w nil n v) (k : Fp cb co l w w') (hc : cb = Y ∨ hi ≤ cb) : RowF P Y hi w' nil n v := by
  obtain ⟨ao, c, h1, h2, h3⟩ := h
  refine ⟨ao, c, h1, h2, fun i hi' => ?_⟩
  obtain ⟨g, h4, h5, h6⟩ := h3 i hi'
  exact ⟨g, h4, h5, po.fp h6 k (fun b hb _ => by have := hb.1; have := hb.2; omega) (fun e => by have := h5.1; have := h5.2; omega)⟩
theorem RowF.raise {P : RP} (po : POk P) {Y hi hi' n : Nat} {w : World} {nil : Bool} {v : Value} (h : RowF P Y hi w nil n v) (hh : hi ≤ hi') : RowF P Y hi' w nil n v := by
  obtain ⟨ao, c, h1, h2, h3⟩ := h
  refine ⟨ao, c, h1, h2, fun i hi' => ?_⟩
  obtain ⟨g, h4, h5, h6⟩ := h3 i hi'
  exact ⟨g, h4, h5.mono hh, po.at_ h6 (fun b hb _ => hb.mono hh)⟩
theorem RowF.none (P : RP) (Y hi : Nat) (w : World) (c : Nat) : RowF P Y hi w true 0 (.slice none 0 c) := ⟨Option.none, c, rfl, rfl, fun i hi => absurd hi (Nat.not_lt_zero i)⟩

/-- A row that grows: k of its n elements are there. -/
structure RowG (P : RP) (Y g n k : Nat) (w : World) : Prop where
  spare : ∀ m, m < n → ∃ x, At w g m [x]
  done : ∀ i, i < k → P (NewR Y g) w g i

theorem RowG.fp {P : RP} (po : POk P) {Y g n k cb co l : Nat} {w w' : World} (h : RowG P Y g n k w) (f : Fp cb co l w w') (hc : cb = Y ∨ w.heap.size ≤ cb) (hg : Y + 1 ≤ g) (hgl : g < w.heap.size) : RowG P Y g n k w' :=
  ⟨fun m hm => by obtain ⟨x, hx⟩ := h.spare m hm; exact ⟨x, f.at hx (fun e => by omega)⟩, fun i hi => po.fp (h.done i hi) f (fun b hb hl => by have := hb.1; omega) (fun e => by omega)⟩

/-- The element is stored. -/
theorem RowG.put {P : RP} (po : POk P) {Y g n k : Nat} {w w' : World} {u : Value} (h : RowG P Y g n k w) (hk : k < n) (hw' : w' = w.setCell ⟨g, k, none⟩ u) (hnew : At w' g k [u] → P (NewR Y g) w' g k) : RowG P Y g n (k + 1) w' := by
  have s : Fp g k 1 w w' := by rw [hw']; exact Fp.set _ _ ⟨by omega, by omega⟩ _
  have hu : At w' g k [u] := by obtain ⟨x, hx⟩ := h.spare k hk; rw [hw']; exact hx.one u
  refine ⟨fun m hm => ?_, fun i hi => ?_⟩
  · by_cases e : m = k
    · subst e; exact ⟨u, hu⟩
    · obtain ⟨x, hx⟩ := h.spare m hm
      exact ⟨x, s.at hx (fun _ => by simp only [List.length_cons, List.length_nil]; omega)⟩
  · by_cases e : i = k
    · subst e; exact hnew hu
    · exact po.fp (h.done i (by omega)) s (fun b hb _ => hb.2) (fun _ => by omega)

theorem RowG.through {P : RP} (po : POk P) {Y g n : Nat} {w : World} (h : RowG P Y g n n w) (hg : Y + 1 ≤ g) (c : Nat) : RowF P Y w.heap.size w false n (.slice (some ⟨g, 0, none⟩) n c) :=
  ⟨_, c, rfl, rfl, fun i hi => ⟨g, rfl, ⟨hg, by obtain ⟨x, hx⟩ := h.spare i hi; exact hx.lt⟩, po.at_ (h.done i hi) (fun b hb hl => ⟨hb.1, hl⟩)⟩⟩

end Go.Proofs.Ybulkaq
