/-
  THE WORDS IN WHICH THE WALKS OF 'LawS0003AHooks' ARE TOLD: what lies where ('At'), what stays ('KeptX'), and when two pointers differ.
-/
import Derived.Test.YbulkaqRows
import Derived.WalkKit
import Derived.WalkSpells
import Derived.WalkLawsBesides
import Derived.RegionTactic
import Derived.Deep.QuietTactic
import Derived.BigQuiet
import Derived.LaidEqlPtr
import Derived.Laws.StructEq
namespace Go.Proofs.Ybulkaq
open Go.RowKit

/-- The block b is plain, and from offset o on it holds the values vs. -/
def At (W : World) (b o : Nat) (vs : List Value) : Prop :=
  ∃ cs t, W.heap[b]? = some (.cells cs t (0, 0)) ∧ ∀ j v, vs[j]? = some v → cs[o + j]? = some v

theorem At.lt {W : World} {b o : Nat} {vs : List Value} (h : At W b o vs) : b < W.heap.size := by
  obtain ⟨cs, t, h, _⟩ := h
  rcases Nat.lt_or_ge b W.heap.size with h1 | h1
  · exact h1
  · rw [Array.getElem?_eq_none h1] at h; cases h

theorem At.cell {W : World} {b o : Nat} {vs : List Value} (h : At W b o vs) {j : Nat} {v : Value} (hj : vs[j]? = some v) : W.cell? ⟨b, o + j, none⟩ = some v := by
  obtain ⟨cs, t, h, hc⟩ := h
  simp [World.cell?, h, hc j v hj]

theorem At.frozen {W : World} {b o : Nat} {vs : List Value} (h : At W b o vs) (j : Nat) : W.frozen? ⟨b, j, none⟩ = false := by
  obtain ⟨cs, t, h, hc⟩ := h
  simp [World.frozen?, h]

theorem At.same {W W' : World} {b o : Nat} {vs : List Value} (h : At W b o vs) (he : W'.heap[b]? = W.heap[b]?) : At W' b o vs := by
  obtain ⟨cs, t, h, hc⟩ := h
  exact ⟨cs, t, he.trans h, hc⟩

theorem At.drewN {W : World} {b o : Nat} {vs : List Value} (h : At W b o vs) (n : Nat) : At (W.drewN n) b o vs := h.same rfl

/-- A new block. -/
theorem At.new (W : World) (cs : Array Value) (t : TypeId) : At (W.alloc (.cells cs t)) W.heap.size 0 cs.toList := by
  refine ⟨cs, t, by show (W.heap.push _)[W.heap.size]? = _; exact Array.getElem?_push_size, fun j v h => ?_⟩
  rw [Nat.zero_add]; simpa using h

/-- A part of it. -/
theorem At.part {W : World} {b o : Nat} {vs us : List Value} (h : At W b o vs) (k : Nat) (hk : ∀ j v, us[j]? = some v → vs[k + j]? = some v) : At W b (o + k) us := by
  obtain ⟨cs, t, h, hc⟩ := h
  exact ⟨cs, t, h, fun j v hj => by rw [Nat.add_assoc]; exact hc _ _ (hk j v hj)⟩

/-- WHAT STAYS: all old blocks but those of X. -/
structure KeptX (X : Nat → Prop) (W W' : World) : Prop where
  os : W'.os = W.os
  tape : W'.tape = W.tape
  output : W'.output = W.output
  size : W.heap.size ≤ W'.heap.size
  block : ∀ k, k < W.heap.size → ¬ X k → W'.heap[k]? = W.heap[k]?

theorem KeptX.refl (X : Nat → Prop) (W : World) : KeptX X W W := ⟨rfl, rfl, rfl, Nat.le_refl _, fun _ _ _ => rfl⟩
theorem KeptX.trans {X : Nat → Prop} {a b c : World} (h : KeptX X a b) (k : KeptX X b c) : KeptX X a c :=
  ⟨k.os.trans h.os, k.tape.trans h.tape, k.output.trans h.output, Nat.le_trans h.size k.size, fun i hi hx => (k.block i (Nat.lt_of_lt_of_le hi h.size) hx).trans (h.block i hi hx)⟩
theorem KeptX.mono {X Y : Nat → Prop} {a b : World} (h : KeptX X a b) (hxy : ∀ k, k < a.heap.size → X k → Y k) : KeptX Y a b :=
  ⟨h.os, h.tape, h.output, h.size, fun i hi hy => h.block i hi fun hx => hy (hxy i hi hx)⟩
theorem KeptX.drew {X : Nat → Prop} {a b : World} (h : KeptX X a b) : KeptX X a b.drew := ⟨h.os, h.tape, h.output, h.size, h.block⟩
theorem KeptX.drewN {X : Nat → Prop} {a b : World} (h : KeptX X a b) (n : Nat) : KeptX X a (b.drewN n) := h.trans ⟨rfl, rfl, rfl, Nat.le_refl _, fun _ _ _ => rfl⟩
theorem KeptX.alloc {X : Nat → Prop} {a b : World} (h : KeptX X a b) (o : Obj) : KeptX X a (b.alloc o) :=
  h.trans ⟨rfl, rfl, rfl, by simp, fun k hk _ => Below.heap_alloc b o k hk⟩
theorem KeptX.setCell {X : Nat → Prop} {a b : World} (h : KeptX X a b) {p : Addr} (hp : a.heap.size ≤ p.block ∨ X p.block) (u : Value) : KeptX X a (b.setCell p u) :=
  ⟨h.os, h.tape, h.output, by simpa using h.size, fun k hk hx => by
    rw [Below.heap_setCell b p u k (fun e => by subst e; exact hp.elim (fun h1 => absurd hk (by omega)) hx)]
    exact h.block k hk hx⟩
theorem KeptX.of_below {X : Nat → Prop} {a b : World} (h : Below a.heap.size a b) : KeptX X a b := ⟨h.os, h.tape, h.output, h.size, fun k hk _ => h.block k hk⟩
theorem KeptX.below {X : Nat → Prop} {a b : World} {B : Nat} (h : KeptX X a b) (hB : B ≤ a.heap.size) (hX : ∀ k, k < B → ¬ X k) : Below B a b :=
  ⟨h.os, h.tape, h.output, h.size, fun k hk => h.block k (Nat.lt_of_lt_of_le hk hB) (hX k hk)⟩
/-- New blocks are no one's: a second frame may add its own to X. -/
theorem KeptX.then {X Y : Nat → Prop} {a b c : World} (h : KeptX X a b) (k : KeptX Y b c) (hY : ∀ i, i < a.heap.size → Y i → X i) : KeptX X a c :=
  ⟨k.os.trans h.os, k.tape.trans h.tape, k.output.trans h.output, Nat.le_trans h.size k.size, fun i hi hx => (k.block i (Nat.lt_of_lt_of_le hi h.size) (fun hy => hx (hY i hi hy))).trans (h.block i hi hx)⟩

theorem At.kept {X : Nat → Prop} {W W' : World} {b o : Nat} {vs : List Value} (h : At W b o vs) (k : KeptX X W W') (hx : ¬ X b) : At W' b o vs := h.same (k.block b h.lt hx)

/-- A store into it. -/
theorem At.set {W : World} {b o : Nat} {vs : List Value} (h : At W b o vs) (j : Nat) (u : Value) (us : List Value) (hus : ∀ i v, us[i]? = some v → (i = j ∧ v = u ∧ (vs[j]?).isSome) ∨ (i ≠ j ∧ vs[i]? = some v)) : At (W.setCell ⟨b, o + j, none⟩ u) b o us := by
  obtain ⟨cs, t, h, hc⟩ := h
  refine ⟨cs.setIfInBounds (o + j) u, t, ?_, fun i v hi => ?_⟩
  · simp [World.setCell, Array.getElem?_modify, h]
  · rcases hus i v hi with ⟨rfl, rfl, hs⟩ | ⟨hne, hi⟩
    · obtain ⟨v', hv'⟩ := Option.isSome_iff_exists.1 hs
      have := hc i v' hv'
      have hlt : o + i < cs.size := by
        rcases Nat.lt_or_ge (o + i) cs.size with h1 | h1
        · exact h1
        · rw [Array.getElem?_eq_none h1] at this; cases this
      simp [hlt]
    · rw [Array.getElem?_setIfInBounds_ne (by omega)]
      exact hc i v hi

theorem At.set_other {W : World} {b o : Nat} {vs : List Value} (h : At W b o vs) {p : Addr} (hp : p.block ≠ b) (u : Value) : At (W.setCell p u) b o vs := h.same (Below.heap_setCell W p u b (Ne.symm hp))
theorem At.alloc {W : World} {b o : Nat} {vs : List Value} (h : At W b o vs) (ob : Obj) : At (W.alloc ob) b o vs := h.same (Below.heap_alloc W ob b h.lt)

/-- POINTERS INTO DIFFERENT PLAIN BLOCKS DIFFER. -/
theorem neq_ptr {W : World} {b o b' o' : Nat} {vs vs' : List Value} {t e : TypeId} {i : TypeInfo} (h : At W b o vs) (h' : At W b' o' vs') (hne : b ≠ b') (o1 o2 : Nat) (ht : Yba.prog.underlying t = some (.pointer e)) (hi : Yba.prog.info? e = some i) (hs : i.size ≠ 0) :
    (binOp .neq t (.pointer (some ⟨b, o1, none⟩)) (.pointer (some ⟨b', o2, none⟩))).run Yba.prog W = .ok (.bool true) W := by
  obtain ⟨cs, t1, h, _⟩ := h
  obtain ⟨cs', t2, h', _⟩ := h'
  have hd : ∀ d : Nat, (Op.equalIn (d + 1) t (.pointer (some ⟨b, o1, none⟩)) (.pointer (some ⟨b', o2, none⟩))).run Yba.prog W = .ok false W := fun d => by
    simp [Op.equalIn, run_underlying ht, sizeOf, typeInfo, hi, hs, run_sameAddr_other W (a := ⟨b, o1, none⟩) (b := ⟨b', o2, none⟩) (fun e => hne (by injection e)) h h']
  simp only [binOp]
  simp [Op.equal, Op.maxDepth, hd 9999]

theorem eql_ptr {W : World} {b o b' o' : Nat} {vs vs' : List Value} {t e : TypeId} {i : TypeInfo} (h : At W b o vs) (h' : At W b' o' vs') (hne : b ≠ b') (o1 o2 : Nat) (ht : Yba.prog.underlying t = some (.pointer e)) (hi : Yba.prog.info? e = some i) (hs : i.size ≠ 0) :
    (binOp .eql t (.pointer (some ⟨b, o1, none⟩)) (.pointer (some ⟨b', o2, none⟩))).run Yba.prog W = .ok (.bool false) W := by
  obtain ⟨cs, t1, h, _⟩ := h
  obtain ⟨cs', t2, h', _⟩ := h'
  exact run_eql_ptr_other W ht hi hs (fun e => hne (by injection e)) h h'

/-- A type's size, as the closed fact gives it. -/
theorem size_of {e : TypeId} {n : Nat} (h : (Yba.prog.info? e).map (·.size) = some n) : ∃ i, Yba.prog.info? e = some i ∧ i.size = n := by
  cases hi : Yba.prog.info? e with
  | none => rw [hi] at h; cases h
  | some i => rw [hi] at h; exact ⟨i, rfl, by simpa using h⟩

end Go.Proofs.Ybulkaq
