/-
  A QUERY BLOCK, as data and in memory.
-/
import Derived.Test.YbulkaqCmp0
namespace Go.Proofs.Ybulkaq
open Go.RowKit

structure ItemD where
  k : Nat
  nm : ByteArray
  n : Nat
  al : Option (ByteArray × ByteArray × Int)
  text : ByteArray

structure TabD where
  nm : ByteArray
  n : Nat
  al : Option (ByteArray × ByteArray × Int)

/-- A block: its items, tables (none: nil), where (kind, name), group and order columns (none: nil), having (kind, name), limit (none: nil; count, and offset or nil). -/
structure SelD where
  off : Int
  dist : Bool
  items : Nat → ItemD
  nItems : Nat
  tabs : Nat → TabD
  nTabs : Nat
  tabsNil : Bool
  wk : Nat
  wn : ByteArray
  grp : Nat → ByteArray × Nat
  nGrp : Nat
  grpNil : Bool
  hk : Nat
  hn : ByteArray
  ord : Nat → ByteArray × Nat
  nOrd : Nat
  ordNil : Bool
  lim : Option (ByteArray × Option ByteArray)

/-- A slice of n elements: nil or not; element i holds a value of which P i is so. -/
def Row (W : World) (R : Nat → Prop) (v : Value) (nil : Bool) (n : Nat) (P : Nat → Value → Prop) : Prop :=
  ∃ ao c, v = .slice ao n c ∧ ao.isNone = nil ∧ n ≤ 100000 ∧ ∀ i, i < n → ∃ g o u, R g ∧ ao = some ⟨g, o, none⟩ ∧ At W g (o + i) [u] ∧ P i u

/-- A pointer to a Literal: nil, or a box of its own. -/
def LitPtr (W : World) (R : Nat → Prop) (v : Value) (n : Nat) : Option ByteArray → Prop
  | none => v = .pointer none
  | some nm => ∃ b, R b ∧ v = .pointer (some ⟨b, 0, none⟩) ∧ LitAt W b nm nm n

def LimPtr (W : World) (R : Nat → Prop) (v : Value) : Option (ByteArray × Option ByteArray) → Prop
  | none => v = .pointer none
  | some (cnt, off) => ∃ b cv ov, R b ∧ v = .pointer (some ⟨b, 0, none⟩) ∧ At W b 0 [cv, ov] ∧ LitPtr W R cv 0 (some cnt) ∧ LitPtr W R ov 1 off

def ItemIs (W : World) (R : Nat → Prop) (E : Value → Nat → ByteArray → Nat → Prop) (d : ItemD) (u : Value) : Prop :=
  ∃ b o ev av, R b ∧ u = .pointer (some ⟨b, o, none⟩) ∧ At W b o [ev, av, .string d.text] ∧ E ev d.k d.nm d.n ∧ IdPtr W R av d.al
def TabIs (W : World) (R : Nat → Prop) (d : TabD) (u : Value) : Prop :=
  ∃ b o av, R b ∧ u = .iface 63 (.pointer (some ⟨b, o, none⟩)) ∧ At W b o [.string d.nm, .string ⟨#[]⟩, .int .i64 d.n, av] ∧ IdPtr W R av d.al
def OrdIs (W : World) (R : Nat → Prop) (E : Value → Nat → ByteArray → Nat → Prop) (d : ByteArray × Nat) (u : Value) : Prop :=
  ∃ b ev, R b ∧ u = .pointer (some ⟨b, 0, none⟩) ∧ At W b 0 [ev, .int .i64 0] ∧ E ev 0 d.1 d.2

/-- The block D lies at (b, 0). -/
def SelIn (W : World) (R : Nat → Prop) (E : Value → Nat → ByteArray → Nat → Prop) (b : Nat) (D : SelD) : Prop :=
  ∃ iv fv wv gv hv ov lv inil, At W b 0 [.int .i64 D.off, .bool D.dist, iv, fv, wv, gv, hv, ov, lv] ∧
    Row W R iv inil D.nItems (fun i u => ItemIs W R E (D.items i) u) ∧
    Row W R fv D.tabsNil D.nTabs (fun i u => TabIs W R (D.tabs i) u) ∧
    E wv D.wk D.wn 0 ∧
    Row W R gv D.grpNil D.nGrp (fun i u => E u 0 (D.grp i).1 (D.grp i).2) ∧
    E hv D.hk D.hn 0 ∧
    Row W R ov D.ordNil D.nOrd (fun i u => OrdIs W R E (D.ord i) u) ∧
    LimPtr W R lv D.lim

end Go.Proofs.Ybulkaq
