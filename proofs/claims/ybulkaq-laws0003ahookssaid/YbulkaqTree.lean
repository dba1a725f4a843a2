/-
  THE TREES: what it is that an expression's value leads to. ONE FAMILY OF PREDICATES for what the law builds and for what the copier makes; 'R': where the blocks may lie.
-/
import Derived.Test.YbulkaqIdent
namespace Go.Proofs.Ybulkaq
open Go.RowKit

/-- The table of a column made of 'nm' and 'n'. -/
def tblOf (nm : ByteArray) (n : Nat) : Option (ByteArray × ByteArray × Int) := if nm.size % 2 = 0 then some (⟨#[116]⟩, ⟨#[]⟩, n) else none

def ColAt (W : World) (R : Nat → Prop) (b : Nat) (nm : ByteArray) (n : Nat) : Prop :=
  ∃ t, At W b 0 [t, .string nm, .string nm, .int .i64 n, .int .u64 ((n : Int) + 1), .int .u32 n] ∧ IdPtr W R t (tblOf nm n)

def LitAt (W : World) (b : Nat) (raw val : ByteArray) (n : Nat) : Prop := At W b 0 [.int .i64 0, .string raw, .string val, .int .i64 n]

/-- An expression without a subquery: kind 0 a column, 1 a literal, 2 a binary, 4 and more: nil. -/
def E0 (W : World) (R : Nat → Prop) (v : Value) (k : Nat) (nm : ByteArray) (n : Nat) : Prop :=
  match k with
  | 0 => ∃ b, R b ∧ v = .iface 29 (.pointer (some ⟨b, 0, none⟩)) ∧ ColAt W R b nm n
  | 1 => ∃ b, R b ∧ v = .iface 71 (.pointer (some ⟨b, 0, none⟩)) ∧ LitAt W b nm nm n
  | 2 => ∃ b x y, R b ∧ R x ∧ R y ∧ v = .iface 93 (.pointer (some ⟨b, 0, none⟩)) ∧
      At W b 0 [.string ⟨#[43]⟩, .iface 29 (.pointer (some ⟨x, 0, none⟩)), .iface 71 (.pointer (some ⟨y, 0, none⟩))] ∧ ColAt W R x nm n ∧ LitAt W y nm ⟨#[]⟩ n
  | 3 => False
  | _ => v = .nilIface

theorem IdPtr.kept {X R : Nat → Prop} {W W' : World} {v : Value} {x : Option (ByteArray × ByteArray × Int)} (h : IdPtr W R v x) (k : KeptX X W W') (hx : ∀ b, R b → b < W.heap.size → ¬ X b) : IdPtr W' R v x := by
  match x, h with
  | none, h => exact h
  | some (nm, raw, n), ⟨b, hR, hv, hb⟩ => exact ⟨b, hR, hv, hb.kept k (hx b hR hb.lt)⟩

theorem IdPtr.at {R R' : Nat → Prop} {W : World} {v : Value} {x : Option (ByteArray × ByteArray × Int)} (h : IdPtr W R v x) (hr : ∀ b, R b → b < W.heap.size → R' b) : IdPtr W R' v x := by
  match x, h with
  | none, h => exact h
  | some (nm, raw, n), ⟨b, hR, hv, hb⟩ => exact ⟨b, hr b hR hb.lt, hv, hb⟩

theorem ColAt.kept {X R : Nat → Prop} {W W' : World} {b : Nat} {nm : ByteArray} {n : Nat} (h : ColAt W R b nm n) (k : KeptX X W W') (hb : ¬ X b) (hx : ∀ b, R b → b < W.heap.size → ¬ X b) : ColAt W' R b nm n := by
  obtain ⟨t, h1, h2⟩ := h
  exact ⟨t, h1.kept k hb, h2.kept k hx⟩

theorem ColAt.at {R R' : Nat → Prop} {W : World} {b : Nat} {nm : ByteArray} {n : Nat} (h : ColAt W R b nm n) (hr : ∀ b, R b → b < W.heap.size → R' b) : ColAt W R' b nm n := by
  obtain ⟨t, h1, h2⟩ := h
  exact ⟨t, h1, h2.at hr⟩

theorem ColAt.lt {R : Nat → Prop} {W : World} {b : Nat} {nm : ByteArray} {n : Nat} (h : ColAt W R b nm n) : b < W.heap.size := by
  obtain ⟨t, h1, h2⟩ := h; exact h1.lt

theorem E0.kept {X R : Nat → Prop} {W W' : World} {v : Value} {k : Nat} {nm : ByteArray} {n : Nat} (h : E0 W R v k nm n) (hk : KeptX X W W') (hx : ∀ b, R b → b < W.heap.size → ¬ X b) : E0 W' R v k nm n := by
  match k, h with
  | 0, ⟨b, hR, hv, hc⟩ => exact ⟨b, hR, hv, hc.kept hk (hx b hR hc.lt) hx⟩
  | 1, ⟨b, hR, hv, hc⟩ => exact ⟨b, hR, hv, At.kept hc hk (hx b hR (At.lt hc))⟩
  | 2, ⟨b, x, y, hb, hxx, hy, hv, h1, h2, h3⟩ => exact ⟨b, x, y, hb, hxx, hy, hv, h1.kept hk (hx b hb h1.lt), h2.kept hk (hx x hxx h2.lt) hx, At.kept h3 hk (hx y hy (At.lt h3))⟩
  | 3, h => exact h
  | _ + 4, h => exact h

theorem E0.at {R R' : Nat → Prop} {W : World} {v : Value} {k : Nat} {nm : ByteArray} {n : Nat} (h : E0 W R v k nm n) (hr : ∀ b, R b → b < W.heap.size → R' b) : E0 W R' v k nm n := by
  match k, h with
  | 0, ⟨b, hR, hv, hc⟩ => exact ⟨b, hr b hR hc.lt, hv, hc.at hr⟩
  | 1, ⟨b, hR, hv, hc⟩ => exact ⟨b, hr b hR (At.lt hc), hv, hc⟩
  | 2, ⟨b, x, y, hb, hxx, hy, hv, h1, h2, h3⟩ => exact ⟨b, x, y, hr b hb h1.lt, hr x hxx h2.lt, hr y hy (At.lt h3), hv, h1, h2.at hr, h3⟩
  | 3, h => exact h
  | _ + 4, h => exact h

end Go.Proofs.Ybulkaq
