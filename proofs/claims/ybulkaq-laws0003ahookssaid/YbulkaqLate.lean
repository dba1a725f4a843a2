/-
  A REGION THAT DRAWS ITS ORDER, LOADS A CELL AND AT ITS END STORES INTO IT ('x.f = append(x.f, g(..))'): the load may be taken first though the cell turns later, since what turns it waits for the load. After Derived/OrdersHeld.lean; 'S' is asked only while operation number l, which waits for the load, has not come up. No walk.
-/
import Derived.OrdersHeld
import Derived.Deep.RegionHeld
namespace Go.Proofs.Ybulkaq
open Go

section
variable {P : Program} {ops : Array Oper} {Q : Exit → Act → World → Prop} {md : Region.Mode} {S : World → Prop} {l : Nat}

/-- Whatever order is picked from here on, AND 'S' HOLDS BEHIND EVERY OPERATION WHILE NUMBER l HAS NOT COME UP. -/
def wpLate (P : Program) (md : Region.Mode) (ops : Array Oper) (Q : Exit → Act → World → Prop) (S : World → Prop) (l : Nat) : Nat → Array Bool → Act → World → Prop
  | 0, listed, a, w => Region.ready md ops listed = [] ∧ Q .normal a w
  | fuel + 1, listed, a, w =>
    (Region.ready md ops listed = [] → Q .normal a w) ∧
    ∀ i ∈ Region.ready md ops listed, wpOp P ops Q i (fun a' w' => ((listed.setIfInBounds i true).getD l true = false → S w') ∧ wpLate P md ops Q S l fuel (listed.setIfInBounds i true) a' w') a w

theorem wpAny_of_late : ∀ (fuel : Nat) (listed : Array Bool) (a : Act) (w : World), wpLate P md ops Q S l fuel listed a w → wpAny P md ops Q fuel listed a w
  | 0, _, _, _, h => h
  | fuel + 1, _, _, _, h => ⟨h.1, fun i hi => wpOp_mono (fun a' w' h' => wpAny_of_late fuel _ a' w' h'.2) (h.2 i hi)⟩

theorem not_waits {listed : Array Bool} {i : Nat} {oj : Oper} (hr : i ∈ Region.ready md ops listed) (hall : ∀ e ∈ oj.after, Region.binds md e = true → listed.getD e.on false = true) : ∀ e ∈ oj.after, Region.binds md e = true → e.on ≠ i := fun e he hb heq => by
  have h1 := hall e he hb
  have h0 := (mem_ready.1 hr).1
  rw [heq] at h1
  rcases Nat.lt_or_ge i listed.size with h' | h'
  · simp [h'] at h0 h1; rw [h0] at h1; cases h1
  · simp [Array.getElem?_eq_none h'] at h1

/-- An operation that yields its value in whatever world, or in every world that meets S while l waits for it: it may be taken first. -/
theorem wpLate_first {T : World → Prop} {i : Nat} {oi : Oper} {v : Value} (hi : ops[i]? = some oi) (hsel : ∀ (j : Nat) (o : Oper) cs b, ops[j]? = some o → o.op ≠ .select cs b)
    (hQ : ∀ c a w, Q (.panic c) (a.put oi.dst v) w → Q (.panic c) a w) (hl : l ≠ i) (hT : (∀ w, T w) ∨ ((∀ w, S w → T w) ∧ ∀ ol, ops[l]? = some ol → ∃ e ∈ ol.after, Region.binds md e = true ∧ e.on = i)) :
    ∀ (fuel : Nat) (listed : Array Bool) (a : Act) (w : World),
      (∀ j oj, ops[j]? = some oj → j ≠ i → listed.getD j true = false → (∀ e ∈ oj.after, Region.binds md e = true → e.on ≠ i) → oi.apart ops oj = true) →
      i ∈ Region.ready md ops listed → YieldsIf P ops T oi v a → T w → (listed.getD l true = false → S w) → ((∀ w, T w) ∨ listed.getD l true = false) →
      wpLate P md ops Q S l fuel (listed.setIfInBounds i true) (a.put oi.dst v) w → wpLate P md ops Q S l (fuel + 1) listed a w := by
  intro fuel
  induction fuel with
  | zero =>
    intro listed a w _ hr hy hTw hS _ H
    refine ⟨fun h => (by rw [h] at hr; cases hr), fun j hj => ?_⟩
    by_cases hji : j = i
    · subst hji; exact hy.wpOp hi hTw ⟨fun h => hS (by rw [getD_set_ne true (Ne.symm hl)] at h; exact h), H⟩
    · have := ready_mono hj hji
      rw [H.1] at this
      cases this
  | succ fuel ih =>
    intro listed a w hfree hr hy hTw hS hlate H
    refine ⟨fun h => (by rw [h] at hr; cases hr), fun j hj => ?_⟩
    by_cases hji : j = i
    · subst hji; exact hy.wpOp hi hTw ⟨fun h => hS (by rw [getD_set_ne true (Ne.symm hl)] at h; exact h), H⟩
    · have h1 := H.2 j (ready_mono hj hji)
      obtain ⟨hjun, oj, hoj, hall⟩ := mem_ready.1 hj
      have hnot := not_waits (oj := oj) hr hall
      have h2 := wpOp_putIf hoj (hfree j oj hoj hji hjun hnot) (fun cs b => hsel i oi cs b hi) (fun cs b => hsel j oj cs b hoj) hQ hy h1
      have hfree' : ∀ k ok, ops[k]? = some ok → k ≠ i → (listed.setIfInBounds j true).getD k true = false →
          (∀ e ∈ ok.after, Region.binds md e = true → e.on ≠ i) → oi.apart ops ok = true := fun k ok hk hki hun hno => by
        refine hfree k ok hk hki ?_ hno
        by_cases hjk : j = k
        · subst hjk; exact hjun
        · rw [getD_set_ne true hjk] at hun; exact hun
      refine wpOp_mono (fun a' w' h3 => ?_) h2
      have hSw : (listed.setIfInBounds j true).getD l true = false → S w' := fun h => h3.2.1 (by
        rw [Array.setIfInBounds_comm _ _ (Ne.symm hji), getD_set_ne true (Ne.symm hl)]; exact h)
      have hlate' : (∀ w, T w) ∨ (listed.setIfInBounds j true).getD l true = false := by
        rcases hT with hT | ⟨_, hwait⟩
        · exact .inl hT
        · rcases hlate with h | h
          · exact .inl h
          · refine .inr ?_
            have hjl : j ≠ l := fun e => by
              subst e
              obtain ⟨e, he, hb, hon⟩ := hwait oj hoj
              exact hnot e he hb hon
            rw [getD_set_ne true hjl]; exact h
      have hTw' : T w' := by
        rcases hT with hT | ⟨hST, _⟩
        · exact hT w'
        · rcases hlate' with h | h
          · exact h w'
          · exact hST w' (hSw h)
      refine ⟨hSw, ih (listed.setIfInBounds j true) a' w' hfree' (ready_mono hr (Ne.symm hji)) h3.1 hTw' hSw hlate' ?_⟩
      rw [Array.setIfInBounds_comm _ _ hji]
      exact h3.2.2

theorem op_at {i : Nat} {oi : Oper} {tl : List Oper} (hd : ops.toList.drop i = oi :: tl) : ops[i]? = some oi := by
  have : (ops.toList.drop i)[0]? = some oi := by rw [hd]; rfl
  rw [List.getElem?_drop] at this
  simpa using this

/-- Take number i first: it yields in whatever world. -/
theorem wpLate_take {i : Nat} {oi : Oper} {tl : List Oper} {v : Value} {fuel : Nat} {listed : Array Bool} {a : Act} {w : World} (hd : ops.toList.drop i = oi :: tl)
    (hs : Region.noSelect ops = true) (hf : Region.free md ops listed i = true) (hr : (Region.ready md ops listed).contains i = true) (hl : (l == i) = false)
    (hQ : ∀ c a w, Q (.panic c) (a.put oi.dst v) w → Q (.panic c) a w) (hw : Region.wanted oi (yielded ops a.tmps) = true) (hy : ∀ w, (execOp a.eval oi).run P w = .ok (.value v) w) (hS : S w)
    (h : wpLate P md ops Q S l fuel (listed.setIfInBounds i true) (a.put oi.dst v) w) : wpLate P md ops Q S l (fuel + 1) listed a w :=
  wpLate_first (T := fun _ => True) (op_at hd) (Region.noSelect_spec hs) hQ (by simpa using hl) (.inl fun _ => trivial) fuel listed a w (Region.free_spec (op_at hd) hf) (by simpa using hr) (.inl ⟨hw, fun w _ => hy w⟩) trivial (fun _ => hS) (.inl fun _ => trivial) h

/-- Take number i first: it yields in every world that meets S, and l waits for it. -/
theorem wpLate_load {i : Nat} {oi : Oper} {tl : List Oper} {v : Value} {fuel : Nat} {listed : Array Bool} {a : Act} {w : World} (hd : ops.toList.drop i = oi :: tl)
    (hs : Region.noSelect ops = true) (hf : Region.free md ops listed i = true) (hr : (Region.ready md ops listed).contains i = true) (hl : (l == i) = false)
    (hwait : ((ops.toList.drop l).head?.any fun ol => ol.after.any fun e => Region.binds md e && e.on == i) = true) (hun : listed.getD l true = false)
    (hQ : ∀ c a w, Q (.panic c) (a.put oi.dst v) w → Q (.panic c) a w) (hw : Region.wanted oi (yielded ops a.tmps) = true) (hy : ∀ w, S w → (execOp a.eval oi).run P w = .ok (.value v) w) (hS : S w)
    (h : wpLate P md ops Q S l fuel (listed.setIfInBounds i true) (a.put oi.dst v) w) : wpLate P md ops Q S l (fuel + 1) listed a w :=
  wpLate_first (T := S) (op_at hd) (Region.noSelect_spec hs) hQ (by simpa using hl) (.inr ⟨fun _ h => h, fun ol hol => by
    cases hdl : ops.toList.drop l with
    | nil => rw [hdl] at hwait; cases hwait
    | cons o r =>
      rw [hdl] at hwait
      have e1 := op_at hdl
      rw [hol] at e1
      obtain rfl : ol = o := by injection e1
      have h2 : (ol.after.any fun e => Region.binds md e && e.on == i) = true := hwait
      obtain ⟨e, he, hb⟩ := Array.any_eq_true'.1 h2
      simp only [Bool.and_eq_true, beq_iff_eq] at hb
      exact ⟨e, he, hb.1, hb.2⟩⟩) fuel listed a w (Region.free_spec (op_at hd) hf) (by simpa using hr) (.inl ⟨hw, hy⟩) hS (fun _ => hS) (.inr hun) h

/-- One alone may come up: it is carried out. -/
theorem wpLate_step {i : Nat} {oi : Oper} {tl : List Oper} {fuel : Nat} {listed : Array Bool} {a : Act} {w : World} (hd : ops.toList.drop i = oi :: tl) (hr : Region.ready md ops listed = [i])
    (h : ∀ K' : Act → World → Prop, Shut (∀ a w, ((listed.setIfInBounds i true).getD l true = false → S w) → wpLate P md ops Q S l fuel (listed.setIfInBounds i true) a w → K' a w) → if Region.wanted oi (yielded ops a.tmps) = true then Oper.wp P oi a w K' Q else K' (a.put oi.dst undef) w) :
    wpLate P md ops Q S l (fuel + 1) listed a w :=
  ⟨fun h0 => (by rw [hr] at h0; cases h0), fun j hj => by
    rw [hr] at hj
    obtain rfl := List.mem_singleton.1 hj
    exact wpOp_step (op_at hd) (fun K' hK => h K' (fun a w h1 h2 => hK a w ⟨h1, h2⟩))⟩

theorem wpLate_done {listed : Array Bool} {a : Act} {w : World} (hr : Region.ready md ops listed = []) (h : Q .normal a w) : ∀ fuel, wpLate P md ops Q S l fuel listed a w
  | 0 => ⟨hr, h⟩
  | _ + 1 => ⟨fun _ => h, by rw [hr]; simp⟩

/-- THE BEGINNING. -/
theorem wp_region_late {id : Nat} {a : Act} {w : World} (S : World → Prop) (l : Nat) (hm : P.follows .mixedOrders = true)
    (h : wpLate P .any ops Q S l ops.size (Array.replicate ops.size false) a w.drew) : (Code.region id ops true).wp P Q a w :=
  wp_region_any hm (wpAny_of_late _ _ _ _ h)
end

end Go.Proofs.Ybulkaq
