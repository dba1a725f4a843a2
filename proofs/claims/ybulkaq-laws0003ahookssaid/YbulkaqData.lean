/-
  WHAT THE LAW IS HANDED, as data; the block that it builds of it; frames without hooks.
-/
import Derived.Test.YbulkaqMk
namespace Go.Proofs.Ybulkaq
open Go.RowKit
set_option linter.unusedVariables false

structure ItD where
  k : Nat
  nm : ByteArray
  ha : Bool
  al : ByteArray
  text : ByteArray

/-- A 'ZzS0003ABlock'. -/
structure BlkD where
  off : Int
  dist : Bool
  items : Nat → ItD
  nI : Nat
  inil : Bool
  tabs : Nat → ByteArray
  nT : Nat
  tnil : Bool
  wk : Nat
  wn : ByteArray
  ord : Nat → ByteArray
  nO : Nat
  onil : Bool
  grp : Bool
  lim : Bool
  cnt : ByteArray
  hasOff : Bool
  offS : ByteArray

/-- The block that 'zzs0003abuild' makes of it. -/
def dOf (B : BlkD) : SelD :=
  { off := B.off, dist := B.dist,
    items := fun i => ⟨(B.items i).k % 4, (B.items i).nm, i, if (B.items i).ha then some ((B.items i).al, ⟨#[]⟩, i) else none, (B.items i).text⟩, nItems := B.nI,
    tabs := fun i => ⟨B.tabs i, i, if (B.tabs i).size % 2 = 1 then some (B.tabs i ++ ⟨#[120]⟩, ⟨#[]⟩, i) else none⟩, nTabs := B.nT, tabsNil := B.tnil,
    wk := B.wk % 5, wn := B.wn,
    grp := fun i => (B.ord i, i + 1), nGrp := if B.grp then B.nO else 0, grpNil := !(B.grp && !B.onil),
    hk := if B.grp then 1 else 4, hn := ⟨#[49]⟩,
    ord := fun i => (B.ord i, i), nOrd := B.nO, ordNil := B.onil,
    lim := if B.lim then some (B.cnt, if B.hasOff then some B.offS else none) else none }

/-- CELLS THAT ARE READ: from (b, o) on they hold the values vs, whatever else the block is. -/
def Rd (W : World) (b o : Nat) (vs : List Value) : Prop := b < W.heap.size ∧ ∀ j v, vs[j]? = some v → W.cell? ⟨b, o + j, none⟩ = some v
theorem Rd.cell {W : World} {b o : Nat} {vs : List Value} (h : Rd W b o vs) {j : Nat} {v : Value} (hj : vs[j]? = some v) : W.cell? ⟨b, o + j, none⟩ = some v := h.2 j v hj
theorem Rd.kept {X : Nat → Prop} {W W' : World} {b o : Nat} {vs : List Value} (h : Rd W b o vs) (k : KeptX X W W') (hx : ¬ X b) : Rd W' b o vs := by
  refine ⟨Nat.lt_of_lt_of_le h.1 k.size, fun j v hj => ?_⟩
  have := h.2 j v hj
  simp only [World.cell?, k.block b h.1 hx] at this ⊢
  exact this

/-- A slice of the law's items. -/
def ItemsAt (W : World) (v : Value) (B : BlkD) : Prop :=
  ∃ ao c, v = .slice ao B.nI c ∧ ao.isNone = B.inil ∧ B.nI ≤ 300 ∧ ∀ i, i < B.nI → ∃ g o, ao = some ⟨g, o, none⟩ ∧
    Rd W g (o + i * 5) [.int .u8 (B.items i).k, .string (B.items i).nm, .bool (B.items i).ha, .string (B.items i).al, .string (B.items i).text] ∧ (B.items i).k < 256
/-- A slice of strings. -/
def StrsAt (W : World) (v : Value) (nil : Bool) (n : Nat) (t : Nat → ByteArray) : Prop :=
  ∃ ao c, v = .slice ao n c ∧ ao.isNone = nil ∧ n ≤ 300 ∧ ∀ i, i < n → ∃ g o, ao = some ⟨g, o, none⟩ ∧ Rd W g (o + i) [.string (t i)] ∧ (t i).size ≤ 140737488351232

/-- NOTHING HAS TURNED BUT THE CELLS [co, co + l) OF cb. -/
structure Fp (cb co l : Nat) (w w' : World) : Prop where
  kept : KeptX (fun b => b = cb) w w'
  cells : ∀ o vs, At w cb o vs → (o + vs.length ≤ co ∨ co + l ≤ o) → At w' cb o vs

theorem Fp.trans {cb co l : Nat} {a b c : World} (h : Fp cb co l a b) (k : Fp cb co l b c) : Fp cb co l a c :=
  ⟨h.kept.trans k.kept, fun o vs ha hp => k.cells o vs (h.cells o vs ha hp) hp⟩
theorem Fp.of_kept {cb co l : Nat} {a b : World} (h : KeptX (fun _ => False) a b) : Fp cb co l a b :=
  ⟨h.mono (fun _ _ h => h.elim), fun o vs ha _ => ha.kept h (fun h => h)⟩
theorem Fp.set {cb co l : Nat} (w : World) (j : Nat) (hj : co ≤ j ∧ j < co + l) (u : Value) : Fp cb co l w (w.setCell ⟨cb, j, none⟩ u) :=
  ⟨KeptX.set1 w cb j u, fun o vs ha hp => ha.apart (.inr (by omega)) u⟩
theorem Fp.at {cb co l b o : Nat} {w w' : World} {vs : List Value} (k : Fp cb co l w w') (h : At w b o vs) (hp : b = cb → o + vs.length ≤ co ∨ co + l ≤ o) : At w' b o vs := by
  by_cases e : b = cb
  · subst e; exact k.cells o vs h (hp rfl)
  · exact h.kept k.kept e
theorem Fp.from {cb co l : Nat} {W w w' : World} (h : KeptX (fun _ => False) W w) (k : Fp cb co l w w') (hc : W.heap.size ≤ cb) : KeptX (fun _ => False) W w' :=
  h.then k.kept (fun i hi e => by omega)

end Go.Proofs.Ybulkaq
