/-
  '(Copier).Select' BY ITS CONTRACT, whatever family of expressions 'Expr' is known to copy.
-/
import Derived.Test.YbulkaqSt3
import Derived.Deep.DeepCutAuto
import Derived.Laws.Cover3
import Derived.Test.YbulkaqLate
namespace Go.Proofs.Ybulkaq
open Go.RowKit
set_option linter.unusedVariables false

theorem run_store_to {P : Program} {w : World} {b o : Nat} {v x : Value} (hv : v.oneCell' = true) (hc : w.cell? ⟨b, o, none⟩ = some x) (hf : w.frozen? ⟨b, o, none⟩ = false) : (storeCells ⟨b, o, none⟩ [v]).run P w = .ok () (w.setCell ⟨b, o, none⟩ v) := by
  simp [storeCells, run_store_one _ _ _ _ _ hv, stored, Addr.add_lit, hc, hf]

/-- 'append' of one element where there is room, wherever the row lies. -/
theorem wpList_append_at {P : Program} (w : World) {ops : Array Oper} {rest : List Oper} {o : Oper} {a : Act} {Q : Exit → Act → World → Prop}
    (hg : o.guard = none) (s x : Operand) (t : TypeId) (hop : o.op = Op.call { callee := Callee.builtin Builtin.append, args := #[s, x], argTypes := #[t, t] })
    (e : TypeId) (i : TypeInfo) (h1 : P.underlying t = some (.slice e)) (h2 : P.info? e = some i) (h4 : i.size = 1)
    (b off n cap : Nat) (hs : a.eval s = .slice (some ⟨b, off, none⟩) n cap) (g c : Nat) (u : Value) (hx : a.eval x = .slice (some ⟨g, 0, none⟩) 1 c) (hc : At w g 0 [u]) (h1c : u.oneCell' = true) (hroom : n + 1 ≤ cap) (y : Value) (hsp : At w b (off + n) [y])
    (w' : World) (hw' : w' = w.setCell ⟨b, off + n, none⟩ u) (hK : wpList P ops Q rest (a.put o.dst (.slice (some ⟨b, off, none⟩) (n + 1) cap)) w') :
    wpList P ops Q (o :: rest) a w := by
  subst hw'
  refine wpList_plain hg fun K hK' => ?_
  have hrun := run_append_room_cells (P := P) w t o.type e i h1 h2 b off n cap ⟨g, 0, none⟩ 1 c [u] (by rw [h4]; rfl) (fun j v hj => by
    match j, hj with
    | 0, hj => have := hc.cell (j := 0) rfl; simp only [Addr.add_lit] at *; rw [this]; simpa using hj) (fun v hv => by rw [List.mem_singleton.1 hv]; exact h1c) hroom (fun j hj => by
      have : j = 0 := by simpa using hj
      subst this
      have := hsp.cell (j := 0) rfl
      rw [h4, Nat.mul_one, this]; rfl) (fun j hj => by rw [h4, Nat.mul_one]; exact hsp.frozen _)
  rw [h4, Nat.mul_one] at hrun
  unfold Oper.wp
  simp [execOp, hop, resolve, invoke, builtin, hs, hx, hrun, Result.andThen]
  exact hK' _ _ hK

/-- The same in a region that draws its order. -/
theorem step_append_at {P : Program} {ops : Array Oper} {o : Oper} {a : Act} {w : World} {K : Act → World → Prop} {Q : Exit → Act → World → Prop} {E : Prop}
    (hg : o.guard = none) (s x : Operand) (t : TypeId) (hop : o.op = Op.call { callee := Callee.builtin Builtin.append, args := #[s, x], argTypes := #[t, t] })
    (e : TypeId) (i : TypeInfo) (h1 : P.underlying t = some (.slice e)) (h2 : P.info? e = some i) (h4 : i.size = 1)
    (b off n cap : Nat) (hs : a.eval s = .slice (some ⟨b, off, none⟩) n cap) (g c : Nat) (u : Value) (hx : a.eval x = .slice (some ⟨g, 0, none⟩) 1 c) (hc : At w g 0 [u]) (h1c : u.oneCell' = true) (hroom : n + 1 ≤ cap) (y : Value) (hsp : At w b (off + n) [y])
    (w' : World) (hw' : w' = w.setCell ⟨b, off + n, none⟩ u) (hK : K (a.put o.dst (.slice (some ⟨b, off, none⟩) (n + 1) cap)) w') :
    if Region.wanted o (yielded ops a.tmps) = true then Oper.wp P o a w K Q else E := by
  subst hw'
  have hw : Region.wanted o (yielded ops a.tmps) = true := by simp [Region.wanted, hg]
  rw [if_pos hw]
  have hrun := run_append_room_cells (P := P) w t o.type e i h1 h2 b off n cap ⟨g, 0, none⟩ 1 c [u] (by rw [h4]; rfl) (fun j v hj => by
    match j, hj with
    | 0, hj => have := hc.cell (j := 0) rfl; simp only [Addr.add_lit] at *; rw [this]; simpa using hj) (fun v hv => by rw [List.mem_singleton.1 hv]; exact h1c) hroom (fun j hj => by
      have : j = 0 := by simpa using hj
      subst this
      have := hsp.cell (j := 0) rfl
      rw [h4, Nat.mul_one, this]; rfl) (fun j hj => by rw [h4, Nat.mul_one]; exact hsp.frozen _)
  rw [h4, Nat.mul_one] at hrun
  unfold Oper.wp
  simp [execOp, hop, resolve, invoke, builtin, hs, hx, hrun, Result.andThen]
  exact hK

theorem LitPtr.isPtr {W : World} {R : Nat → Prop} {v : Value} {n : Nat} {x : Option ByteArray} (h : LitPtr W R v n x) : ∃ o, v = .pointer o := by
  match x, h with
  | none, h => exact ⟨none, h⟩
  | some nm, ⟨b, hR, hv, hb⟩ => exact ⟨_, hv⟩

theorem LimPtr.isPtr {W : World} {R : Nat → Prop} {v : Value} {x : Option (ByteArray × Option ByteArray)} (h : LimPtr W R v x) : ∃ o, v = .pointer o := by
  match x, h with
  | none, h => exact ⟨none, h⟩
  | some (cnt, off), ⟨b, cv, ov, hR, hv, _⟩ => exact ⟨_, hv⟩

theorem Yba.info60 : (Yba.prog.info? 60).map (fun i => (i.zero, i.size, i.bytes)) = some (some (.pointer none), 1, 8) := by kernel_rfl
theorem Yba.info80 : (Yba.prog.info? 80).map (fun i => (i.zero, i.size, i.bytes)) = some (some .nilIface, 1, 16) := by kernel_rfl
theorem Yba.info66 : (Yba.prog.info? 66).map (fun i => (i.zero, i.size, i.bytes)) = some (some (.pointer none), 1, 8) := by kernel_rfl

set_option maxRecDepth 100000 in
set_option maxHeartbeats 20000000 in
theorem select_ok {E : EP} {H B : Nat} (eo : EOk E) (ex : ExprOk E H B) (hB : B ≤ 200000) {W : World} {r q b : Nat} {o c : Option Addr} {D : SelD} (h : SelIn W (· < H) (E W (· < H)) b D) (hb : b < H) (hH : Hooks W H r q o c) (hr : r + refsD D ≤ B) (hq : q + subsD D + 1 ≤ B) :
    Calls Yba.prog 9 #[cpV H, .pointer (some ⟨b, 0, none⟩)] W fun e w' => ∃ Y, e = .returned (.pointer (some ⟨Y, 0, none⟩)) ∧ W.heap.size ≤ Y ∧ SelIn w' (W.heap.size ≤ ·) (E w' (W.heap.size ≤ ·)) Y D ∧ KeptX (hk H) W w' ∧ Hooks w' H (r + refsD D) (q + subsD D + 1) (some ⟨b, 0, none⟩) (some ⟨Y, 0, none⟩) := by
  obtain ⟨iv, fv, wv, gv, hv, ov, lv, inil, a, hi, hf, hw, hg, hh, ho, hl⟩ := h
  obtain ⟨iao, icp, rfl, iz, iN, iE⟩ := hi
  obtain ⟨fao, fcp, rfl, fz, fN, fE⟩ := hf
  obtain ⟨gao, gcp, rfl, gz, gN, gE⟩ := hg
  obtain ⟨oao, ocp, rfl, oz, oN, oE⟩ := ho
  obtain ⟨lo, rfl⟩ := hl.isPtr
  have wone := eo.one hw
  have hone := eo.one hh
  have hHl := hH.lt
  -- THE WORLD BEHIND THE BOX
  obtain ⟨W1, hW1⟩ : ∃ W1, W1 = W.alloc (.cells #[blkFn H, refFn H] 43) := ⟨_, rfl⟩
  have HW : Hid (W1 = W.alloc (.cells #[blkFn H, refFn H] 43)) := hW1
  obtain ⟨Y, hYd⟩ : ∃ Y, Y = W.heap.size + 1 := ⟨_, rfl⟩
  have hs1 : W1.heap.size = Y := by rw [hW1, hYd]; simp
  have hYW : W.heap.size < Y := by omega
  have kW1 : KeptX (fun _ => False) W W1 := by rw [hW1]; exact (KeptX.refl _ W).alloc _
  have hH1 : Hooks W1 H r q o c := hH.kept kW1 (fun _ _ h => h)
  have bx1 : At W1 W.heap.size 0 [blkFn H, refFn H] := by rw [hW1]; exact At.new W #[blkFn H, refFn H] 43
  have hH5 : H + 5 ≤ Y := by omega
  have bx : ∀ w', KeptX (hk H) W1 w' → At w' W.heap.size 0 [blkFn H, refFn H] := fun w' k => bx1.kept k (hk_not (by omega))
  have hno : ∀ b, b < H → b < W.heap.size → ¬ hk H b := fun b h1 _ h2 => by have := h2.1; omega
  have kO : ∀ w', KeptX (hk H) W1 w' → KeptX (hk H) W w' := fun w' k => (kW1.mono (fun _ _ h => h.elim)).trans k
  have src : ∀ w', KeptX (hk H) W1 w' → At w' b 0 _ := fun w' k => a.kept (kO w' k) (hno b hb a.lt)
  have a1 := src W1 (KeptX.refl _ _)
  clear hW1 hYd
  have c0 := a1.cell (j := 0) rfl
  have c1 := a1.cell (j := 1) rfl
  have c2 := a1.cell (j := 2) rfl
  have c3 := a1.cell (j := 3) rfl
  have c4 := a1.cell (j := 4) rfl
  have c5 := a1.cell (j := 5) rfl
  have c6 := a1.cell (j := 6) rfl
  have c7 := a1.cell (j := 7) rfl
  have c8 := a1.cell (j := 8) rfl
  simp only [Nat.zero_add] at c0 c1 c2 c3 c4 c5 c6 c7 c8
  have hbl : b < W1.heap.size := a1.lt
  unfold cpV
  go_enter Yba.func9, Yba.ntmps9
  go_upto_region 1 with fail
  rw [← HW.out]
  go_upto_region 4 with fail
  -- THE WORLD BEHIND 'c.Items = room.items[:0]'
  obtain ⟨w2, hw2⟩ : ∃ w2, w2 = W1.alloc (.cells #[.int .i64 D.off, .bool D.dist, .slice (some ⟨Y, 9, none⟩) 0 1, .slice fao D.nTabs fcp, wv, .slice gao D.nGrp gcp, hv, .slice oao D.nOrd ocp, .pointer lo, .pointer none, .nilIface, .pointer none, .string ⟨#[]⟩, .nilIface, .string ⟨#[]⟩, .string ⟨#[]⟩, .int .i64 0, .pointer none] 83) := ⟨_, rfl⟩
  rw [← hw2]
  have k2 : KeptX (hk H) W1 w2 := by rw [hw2]; exact (KeptX.refl _ _).alloc _
  have hH2 : Hooks w2 H r q o c := hH1.kept (by rw [hw2]; exact (KeptX.refl (fun _ => False) _).alloc _) (fun _ _ h => h)
  have r2 := At.new W1 #[.int .i64 D.off, .bool D.dist, .slice (some ⟨Y, 9, none⟩) 0 1, .slice fao D.nTabs fcp, wv, .slice gao D.nGrp gcp, hv, .slice oao D.nOrd ocp, .pointer lo, .pointer none, .nilIface, .pointer none, .string ⟨#[]⟩, .nilIface, .string ⟨#[]⟩, .string ⟨#[]⟩, .int .i64 0, .pointer none] 83
  rw [← hw2, hs1] at r2
  have room2 : At w2 Y 0 [.int .i64 D.off, .bool D.dist, .slice (some ⟨Y, 9, none⟩) 0 1, .slice fao D.nTabs fcp, wv, .slice gao D.nGrp gcp, hv, .slice oao D.nOrd ocp, .pointer lo] := r2.part 0 (fun j v hj => by
    match j, hj with
    | 0, hj => exact hj
    | 1, hj => exact hj
    | 2, hj => exact hj
    | 3, hj => exact hj
    | 4, hj => exact hj
    | 5, hj => exact hj
    | 6, hj => exact hj
    | 7, hj => exact hj
    | 8, hj => exact hj)
  have i02 : At w2 Y 9 [.pointer none] := by have := r2.part (us := [.pointer none]) 9 (fun j v hj => by match j, hj with | 0, hj => exact hj); exact this
  have item2 : At w2 Y 10 [.nilIface, .pointer none, .string ⟨#[]⟩] := by
    have := r2.part (us := [.nilIface, .pointer none, .string ⟨#[]⟩]) 10 (fun j v hj => by
      match j, hj with
      | 0, hj => exact hj
      | 1, hj => exact hj
      | 2, hj => exact hj)
    exact this
  have tab2 : At w2 Y 13 [.nilIface, .string ⟨#[]⟩, .string ⟨#[]⟩, .int .i64 0, .pointer none] := by
    have := r2.part (us := [.nilIface, .string ⟨#[]⟩, .string ⟨#[]⟩, .int .i64 0, .pointer none]) 13 (fun j v hj => by
      match j, hj with
      | 0, hj => exact hj
      | 1, hj => exact hj
      | 2, hj => exact hj
      | 3, hj => exact hj
      | 4, hj => exact hj)
    exact this
  have hsz2 : w2.heap.size = Y + 1 := by rw [hw2]; simp [hs1]
  clear hw2 r2 c0 c1 c2 c3 c4 c5 c6 c7 c8 HW a1 bx1
  have c2 := (src _ k2).cell (j := 2) rfl
  have d2 := room2.cell (j := 2) rfl
  have f2 := room2.frozen 2
  simp only [Nat.zero_add] at c2 d2
  go_upto_if 37 with fail
  go_cut [] (fun wx => ∃ g o cap, Lies Y g o 9 D.nItems ∧ D.nItems ≤ cap ∧ IA E H W1 D r q Y g o cap (.slice fao D.nTabs fcp) wv (.slice gao D.nGrp gcp) hv (.slice oao D.nOrd ocp) (.pointer lo) 0 wx)
  case first =>
    as_aux_lemma =>
      obtain ⟨i0, hi0, hz0, hz1, hz2⟩ := info_parts Yba.info60
      by_cases hn : 1 < D.nItems
      · have hn' : (1 : Int) < (D.nItems : Int) := by omega
        go_wp2_with (first | (at_make; refine wpList_make_own _ rfl _ _ 47 rfl (Y + 1) 60 i0 (.pointer none) 1 Yba.underlying47 hi0 hz0 hz1 _ _ _ D.nItems rfl rfl rfl (by rw [hz2]; omega) (by unfold maxLen; omega) (by omega) ?_; intro w3 hown hgrow; have room3 := room2.kept (KeptX.of_grown (X := fun _ => False) hgrow) (fun h => h); have d3 := room3.cell (j := 2) rfl; have f3 := room3.frozen 2; simp only [Nat.zero_add] at d3) | fail)
        go_meet
        case rel =>
          rw [hsz2] at hown
          have k3 : KeptX (hk H) w2 w3 := KeptX.of_grown hgrow
          have nY : ¬ hk H Y := hk_not hH5
          have s4 : Kp H Y 2 1 w3 (w3.setCell ⟨Y, 2, none⟩ (.slice (some ⟨Y + 1, 0, none⟩) 0 D.nItems)) := Kp.set _ _ ⟨by omega, by omega⟩ _
          refine ⟨Y + 1, 0, D.nItems, .inr ⟨by omega, rfl⟩, Nat.le_refl _, Kp.from (k2.trans k3) s4 (by omega), ⟨o, c, ?_⟩, ?_, ⟨_, _, _, s4.at (item2.kept k3 nY) nY (fun _ => by omega)⟩, s4.at (tab2.kept k3 nY) nY (fun _ => by omega), fun j hj => ?_, fun i hi => by omega⟩
          · exact (hH2.kept (KeptX.of_grown (X := fun _ => False) hgrow) (fun _ _ h => h)).kept (KeptX.set1 w3 Y 2 _) (fun b hb e => nY (e ▸ hb))
          · exact room3.set 2 (.slice (some ⟨Y + 1, 0, none⟩) 0 D.nItems) _ (fun i v hi => by
              match i, hi with
              | 0, hi => exact .inr ⟨by omega, by simpa using hi⟩
              | 1, hi => exact .inr ⟨by omega, by simpa using hi⟩
              | 2, hi => exact .inl ⟨rfl, by simpa using hi.symm, rfl⟩
              | i + 3, hi => exact .inr ⟨by omega, by simpa using hi⟩)
          · obtain ⟨x, hx⟩ := own_spare hown j hj
            exact ⟨x, s4.at (by rw [Nat.zero_add]; exact hx) (hk_not (by omega)) (fun e => by omega)⟩
      · have hn' : ¬ (1 : Int) < (D.nItems : Int) := by omega
        go_wp2_with fail
        go_meet
        case rel =>
          have sp0 : ∀ j, j < D.nItems → ∃ x, At w2 Y (9 + j) [x] := fun j hj => by
            obtain rfl : j = 0 := by omega
            exact ⟨_, i02⟩
          exact ⟨Y, 9, 1, .inl ⟨rfl, rfl, by omega⟩, by omega, k2, ⟨o, c, hH2⟩, room2, ⟨_, _, _, item2⟩, tab2, sp0, fun i hi => by omega⟩
  case rest =>
    obtain ⟨g, og, cap, lies, hcap, ia0⟩ := hcut
    clear k2 hH2 room2 i02 item2 tab2 hsz2 f2 c2 d2
    have c2 := (src _ ia0.kept).cell (j := 2) rfl
    simp only [Nat.zero_add] at c2
    go_wp2_with fail
    clear c2
    go_loopw [52] (fun i wr => ∃ k : Nat, k ≤ D.nItems ∧ i = .int .i64 k ∧ IA E H W1 D r q Y g og cap (.slice fao D.nTabs fcp) wv (.slice gao D.nGrp gcp) hv (.slice oao D.nOrd ocp) (.pointer lo) k wr) (fun i _ => D.nItems - (intOf i).toNat)
    case atStart => exact ⟨0, by omega, rfl, ia0⟩
    case round =>
      obtain ⟨k, hkn, rfl, ia⟩ := hrel
      clear ia0
      by_cases hlt : k < D.nItems
      ·
        as_aux_lemma =>
          obtain ⟨g0, o0, u, hRg, had, au, ib, io, ev, av, hRb, rfl, ai, he, hal⟩ := iE k hlt
          subst had
          have kWr := kO _ ia.kept
          have au' := au.kept kWr (hno _ hRg au.lt)
          have ai' := ai.kept kWr (hno _ hRb ai.lt)
          have e0 := au'.cell (j := 0) rfl
          have hk1 : (k : Int) < (D.nItems : Int) := by omega
          simp only [Nat.add_zero] at e0
          go_upto_if 61 with fail
          go_cut [9] (fun s9 wx => ∃ cb co x y z, s9 = .pointer (some ⟨cb, co, none⟩) ∧ ((k = 0 ∧ cb = Y ∧ co = 10) ∨ (k ≠ 0 ∧ wr.heap.size ≤ cb ∧ co = 0)) ∧ KeptX (hk H) wr wx ∧ (∃ o c, Hooks wx H (r + refsTo D k) (q + subsTo D k) o c) ∧ At wx cb co [x, y, z])
          case first =>
            as_aux_lemma =>
              by_cases hk0 : k = 0
              · subst hk0
                go_wp2_with fail
                go_meet
                case rel => obtain ⟨x, y, z, hx⟩ := ia.item; exact ⟨Y, 10, x, y, z, (by first | trivial | rfl), .inl ⟨(by first | trivial | rfl), rfl, rfl⟩, KeptX.refl _ _, ia.hooks, hx⟩
              · have hk2 : (0 : Int) < (k : Int) := by omega
                go_wp2_with fail
                go_meet
                case rel => obtain ⟨oo, cc, hh⟩ := ia.hooks; exact ⟨wr.heap.size, 0, .nilIface, .pointer none, .string ⟨#[]⟩, (by first | trivial | rfl), .inr ⟨hk0, Nat.le_refl _, rfl⟩, (KeptX.refl _ _).alloc _, ⟨oo, cc, hh.kept ((KeptX.refl (fun _ => False) _).alloc _) (fun _ _ h => h)⟩, At.new _ #[_, _, _] _⟩
          case rest =>
            obtain ⟨cb, co, x, y, z, rfl, place, kx, ⟨ox, cx, hHx⟩, ax⟩ := hcut
            clear e0
            have hYl : Y < wr.heap.size := ia.room.lt
            have hcY : Y ≤ cb := by rcases place with ⟨_, h, _⟩ | ⟨_, h, _⟩ <;> omega
            have nc : ¬ hk H cb := hk_not (by omega)
            obtain ⟨avo, rfl⟩ := hal.isPtr
            have evone := eo.one he
            have kWx : KeptX (hk H) W1 wc := ia.kept.trans kx
            have ai2 := ai.kept (kO _ kWx) (hno _ hRb ai.lt)
            have e1 := ai2.cell (j := 0) rfl
            have e2 := ai2.cell (j := 1) rfl
            have e3 := ai2.cell (j := 2) rfl
            have x0 := ax.cell (j := 0) rfl
            have x1 := ax.cell (j := 1) rfl
            have x2 := ax.cell (j := 2) rfl
            have f0 := ax.frozen co
            have f1 := ax.frozen (co + 1)
            have f2 := ax.frozen (co + 2)
            simp only [Nat.add_zero] at e1 e2 e3 x0 x1 x2
            go_upto_region 13 with fail
            go_simp
            go_upto_region 13 with fail
            -- BEHIND '*ci = *item'
            obtain ⟨w1, hw1⟩ : ∃ w1, w1 = wc.setCells cb co [ev, .pointer avo, .string (D.items k).text] := ⟨_, rfl⟩
            have hw1' := hw1
            simp only [World.setCells] at hw1'
            rw [← hw1']
            clear hw1'
            have kp1 : Kp H cb co 3 wr w1 := (Kp.of_kept kx nc).trans (by rw [hw1]; exact ⟨KeptX.setCells (X := fun b => hk H b ∨ b = cb) (.inr (.inr rfl)) _ _ _ (KeptX.refl _ _), fun o vs ha hp => At.setCells_apart _ _ _ ha (.inr (by simp only [List.length_cons, List.length_nil]; omega))⟩)
            have a1 : At w1 cb co [ev, .pointer avo, .string (D.items k).text] := by rw [hw1]; exact At.filled _ _ _ _ ax rfl (by simp)
            have hH1' : Hooks w1 H (r + refsTo D k) (q + subsTo D k) ox cx := hHx.kept (X := fun b => b = cb) (by rw [hw1]; exact KeptX.setCells (X := fun b => b = cb) (.inr rfl) _ _ _ (KeptX.refl _ _)) (fun b hb e => nc (e ▸ hb))
            have kW1' : KeptX (hk H) W1 w1 := Kp.from ia.kept kp1 (by omega)
            clear hw1 e1 e2 e3 x0 x1 x2 f0 f1 f2 ai2
            have ai3 := ai.kept (kO _ kW1') (hno _ hRb ai.lt)
            have b0 := (bx _ kW1').cell (j := 0) rfl
            have b1 := (bx _ kW1').cell (j := 1) rfl
            have e1 := ai3.cell (j := 0) rfl
            simp only [Nat.add_zero, Nat.zero_add] at b0 b1 e1
            have he3 := eo.kept he (kO _ kW1') hno
            have HX := ex w1.drew _ _ _ _ ev _ _ _ (eo.kept he3 (keepN w1 1) noX) (hH1'.kept (keepN w1 1) (fun _ _ h => h)) (by have := refsTo_mono D hkn; unfold refsD at hr; omega) (by have := subsTo_mono D hkn; unfold subsD at hq; omega)
            unfold cpV at HX
            have hib := ai.lt
            have n1 : cb ≠ W.heap.size := by omega
            have n2 : cb ≠ ib := by omega
            have n1' : W.heap.size ≠ cb := by omega
            have n2' : ib ≠ cb := by omega
            go_region_held3 (fun w' => w'.cell? ⟨W.heap.size, 0, none⟩ = some (blkFn H) ∧ w'.cell? ⟨W.heap.size, 1, none⟩ = some (refFn H) ∧ w'.cell? ⟨ib, io, none⟩ = some ev) (go_keep) ((first | (go_at_call 13; refine HX.mono ?_; rintro e w2 ⟨ev', rfl, he2, k2, o2, c2, hH2⟩; have evone' := eo.one he2; have kW2 : KeptX (hk H) W1 w2 := kW1'.drew.trans k2; have ai4 := ai.kept (kO _ kW2) (hno _ hRb hib); have a2 := (a1.drewN 1).kept k2 nc; have y0 := (bx _ kW2).cell (j := 0) rfl; have y1 := (bx _ kW2).cell (j := 1) rfl; have y2 := ai4.cell (j := 0) rfl; have y3 := a2.cell (j := 0) rfl; have y4 := a2.frozen co; simp only [Nat.add_zero, Nat.zero_add] at y0 y1 y2 y3) | rw [run_store_to evone' y3 y4]))
            -- BEHIND 'ci.Expr = ..'
            obtain ⟨w3, hw3⟩ : ∃ w3, w3 = w2.setCell ⟨cb, co, none⟩ ev' := ⟨_, rfl⟩
            rw [← hw3]
            have hsz1 : wr.heap.size ≤ w1.heap.size := kp1.kept.size
            have hsz2 : w1.heap.size ≤ w2.heap.size := k2.size
            have kp3 : Kp H cb co 3 wr w3 := (kp1.trans (Kp.of_kept ((KeptX.refl _ w1).drew.trans k2) nc)).trans (by rw [hw3]; exact Kp.set _ _ ⟨by omega, by omega⟩ _)
            have a3 : At w3 cb co [ev', .pointer avo, .string (D.items k).text] := by
              rw [hw3]
              exact a2.set 0 ev' _ (fun i v hi => by
                match i, hi with
                | 0, hi => exact .inl ⟨rfl, by simpa using hi.symm, rfl⟩
                | i + 1, hi => exact .inr ⟨by omega, by simpa using hi⟩)
            have ks3 : KeptX (fun b => b = cb) w2 w3 := by rw [hw3]; exact KeptX.set1 _ _ _ _
            have he4 : E w3 (fun b => wr.heap.size ≤ b ∧ b ≠ cb) ev' (D.items k).k (D.items k).nm (D.items k).n := eo.at_ (eo.kept he2 ks3 (fun b (hb : w1.heap.size ≤ b) _ e => by have := a1.lt; omega)) (fun b (hb : w1.heap.size ≤ b) _ => ⟨by omega, by have := a1.lt; omega⟩)
            have hH3 := hH2.kept ks3 (fun b hb e => nc (e ▸ hb))
            have kW3 : KeptX (hk H) W1 w3 := Kp.from ia.kept kp3 (by omega)
            clear hw3 ks3 he2 k2 y0 y1 y2 y3 y4 b0 b1 e1 HX kW2 ai4 a2 ai3 he3 hH2 a1
            have ai5 := ai.kept (kO _ kW3) (hno _ hRb hib)
            have hal5 := hal.kept (kO _ kW3) hno
            have e2 := ai5.cell (j := 1) rfl
            have z1 := a3.cell (j := 1) rfl
            have z2 := a3.frozen (co + 1)
            go_upto_region 15 with (first | (go_at_call 14; refine (shallow_ptr hal5).mono ?_; rintro e w4 ⟨av', rfl, hi4, hb4⟩; obtain ⟨avo', rfl⟩ := hi4.isPtr; have a4 := a3.same (hb4.block cb a3.lt); have z3 := a4.cell (j := 1) rfl; have z4 := a4.frozen (co + 1)) | fail)
            -- BEHIND 'ci.Alias = ..'
            obtain ⟨w5, hw5⟩ : ∃ w5, w5 = w4.setCell ⟨cb, co + 1, none⟩ (.pointer avo') := ⟨_, rfl⟩
            rw [← hw5]
            have kp5 : Kp H cb co 3 wr w5 := (kp3.trans (Kp.of_kept (KeptX.of_below hb4) nc)).trans (by rw [hw5]; exact Kp.set _ _ ⟨by omega, by omega⟩ _)
            have a5 : At w5 cb co [ev', .pointer avo', .string (D.items k).text] := by
              rw [hw5]
              exact a4.set 1 (.pointer avo') _ (fun i v hi => by
                match i, hi with
                | 0, hi => exact .inr ⟨by omega, by simpa using hi⟩
                | 1, hi => exact .inl ⟨rfl, by simpa using hi.symm, rfl⟩
                | 2, hi => exact .inr ⟨by omega, by simpa using hi⟩)
            have ks5 : KeptX (fun b => b = cb) w4 w5 := by rw [hw5]; exact KeptX.set1 _ _ _ _
            have hcl := a3.lt
            have hsz3 : wr.heap.size ≤ w3.heap.size := kp3.kept.size
            have he5 := eo.kept (eo.kept he4 (KeptX.of_below (X := fun _ => False) hb4) noX) ks5 (fun b hb _ e => hb.2 e)
            have hi5 : IdPtr w5 (fun b => wr.heap.size ≤ b ∧ b ≠ cb) (.pointer avo') (D.items k).al := (hi4.kept ks5 (fun b hb _ e => by omega)).at (fun b hb _ => ⟨by omega, by omega⟩)
            have hH5' : ∃ o c, Hooks w5 H (r + refsTo D (k + 1)) (q + subsTo D (k + 1)) o c := ⟨o2, c2, by
              have := (hH3.kept (KeptX.of_below (X := fun _ => False) hb4) (fun _ _ h => h)).kept ks5 (fun b hb e => nc (e ▸ hb))
              simpa [refsTo, subsTo, Nat.add_assoc] using this⟩
            clear hw5 ks5 he4 hb4 hi4 a4 a3 hal5 ai5 e2 z1 z2 z3 z4 hH3
            obtain ⟨i0, hi0, hz0, hz1, hz2⟩ := info_parts Yba.info60
            have nY : ¬ hk H Y := hk_not hH5
            have hgl : g < wr.heap.size := by obtain ⟨x, hx⟩ := ia.spare k hlt; exact hx.lt
            have hgY : Y ≤ g := by rcases lies with ⟨h, _⟩ | ⟨h, _⟩ <;> omega
            have r5 := kp5.at ia.room nY (fun e => by simp only [List.length_cons, List.length_nil]; rcases place with ⟨h1, h2, h3⟩ | ⟨h1, h2, h3⟩ <;> omega)
            obtain ⟨yy, hyy⟩ : ∃ y, At w5 g (og + k) [y] := by
              obtain ⟨x, hx⟩ := ia.spare k hlt
              exact ⟨x, kp5.at hx (hk_not (by omega)) (fun e => by simp only [List.length_cons, List.length_nil]; rcases place with ⟨h1, h2, h3⟩ | ⟨h1, h2, h3⟩ <;> rcases lies with ⟨l1, l2, l3⟩ | ⟨l1, l2⟩ <;> omega)⟩
            have y2 := r5.cell (j := 2) rfl
            obtain ⟨w7, hw7⟩ : ∃ w7, w7 = (w5.alloc (.cells #[.pointer (some ⟨cb, co, none⟩)] 60)).setCell ⟨g, og + k, none⟩ (.pointer (some ⟨cb, co, none⟩)) := ⟨_, rfl⟩
            have HW7 : Hid (w7 = (w5.alloc (.cells #[.pointer (some ⟨cb, co, none⟩)] 60)).setCell ⟨g, og + k, none⟩ (.pointer (some ⟨cb, co, none⟩))) := hw7
            have r7 : At w7 Y 0 [.int .i64 D.off, .bool D.dist, .slice (some ⟨g, og, none⟩) k cap, .slice fao D.nTabs fcp, wv, .slice gao D.nGrp gcp, hv, .slice oao D.nOrd ocp, .pointer lo] := by
              rw [hw7]
              refine (r5.alloc _).apart ?_ _
              simp only [List.length_cons, List.length_nil]
              rcases lies with ⟨l1, l2, l3⟩ | ⟨l1, l2⟩ <;> omega
            clear hw7
            have y7 := r7.cell (j := 2) rfl
            have y8 := r7.frozen 2
            simp only [Nat.zero_add] at y2 y7
            have e8 : w7.setCell ⟨Y, 2, none⟩ (.slice (some ⟨g, og, none⟩) (k + 1) cap) = ((w5.alloc (.cells #[.pointer (some ⟨cb, co, none⟩)] 60)).setCell ⟨g, og + k, none⟩ (.pointer (some ⟨cb, co, none⟩))).setCell ⟨Y, 2, none⟩ (.slice (some ⟨g, og, none⟩) (k + 1) cap) := congrArg (fun x : World => x.setCell ⟨Y, 2, none⟩ (.slice (some ⟨g, og, none⟩) (k + 1) cap)) HW7.out
            have ia8 : IA E H W1 D r q Y g og cap (.slice fao D.nTabs fcp) wv (.slice gao D.nGrp gcp) hv (.slice oao D.nOrd ocp) (.pointer lo) (k + 1) (w7.setCell ⟨Y, 2, none⟩ (.slice (some ⟨g, og, none⟩) (k + 1) cap)) := IA.step (ob := .cells #[.pointer (some ⟨cb, co, none⟩)] 60) eo ia hH5 hs1 lies hlt place kp5 a5 he5 hi5 hH5' e8
            clear e8
            clear r7 ia
            go_wp2_with (first | (at_builtin; refine wpList_append_at _ rfl (.tmp 89) (.tmp 91) 47 rfl 60 i0 Yba.underlying47 hi0 hz1 g og k cap rfl w5.heap.size 1 (.pointer (some ⟨cb, co, none⟩)) rfl (At.new w5 #[.pointer (some ⟨cb, co, none⟩)] 60) rfl (by omega) yy (hyy.alloc _) w7 HW7.out ?_) | fail)
            go_roundw
            case rel => exact ⟨k + 1, by omega, by go_num, ia8⟩
            case measure => simp [intOf]; omega
      · obtain rfl : k = D.nItems := by omega
        have itF := ia.through eo lies
        obtain ⟨iv', hiv⟩ : ∃ iv', iv' = Value.slice (some ⟨g, og, none⟩) D.nItems cap := ⟨_, rfl⟩
        have room1 := ia.room
        rw [← hiv] at itF room1
        have hk1 := ia.hooks
        have kI := ia.kept
        have tab1 := ia.tab
        obtain ⟨hi, hhi⟩ : ∃ hi, hi = wr.heap.size := ⟨_, rfl⟩
        rw [← hhi] at itF
        have hYhi : Y < hi := by have := room1.lt; omega
        have hhi' : wr.heap.size = hi := hhi.symm
        clear hhi
        have nY : ¬ hk H Y := hk_not hH5
        have ivone : iv'.oneCell' = true := by rw [hiv]; rfl
        clear ia iE hiv
        have c3 := (src _ kI).cell (j := 3) rfl
        simp only [Nat.zero_add] at c3
        go_upto_if 100 with fail
        go_cut [] (fun wx => ∃ hi fv, IC E H W1 D (r + refsTo D D.nItems) (q + subsTo D D.nItems) Y hi iv' fv [.int .i64 D.off, .bool D.dist, iv', fv, wv, .slice gao D.nGrp gcp, hv, .slice oao D.nOrd ocp, .pointer lo] wx)
        case first =>
          as_aux_lemma =>
            cases fao with
            | none =>
              have hn0 : D.nTabs = 0 := by
                rcases Nat.eq_zero_or_pos D.nTabs with h | h
                · exact h
                · obtain ⟨g, o, u, _, h2, _⟩ := fE 0 h; cases h2
              have tnil : D.tabsNil = true := by simpa using fz.symm
              clear fz
              rw [show (!D.tabsNil) = false by simp [tnil]]
              go_wp2_with fail
              go_meet
              case rel => exact ⟨hi, _, kI, hk1, room1, itF, ⟨none, fcp, rfl, tnil.symm, fun i hi => by omega⟩, by omega⟩
            | some fad =>
              have tnil : D.tabsNil = false := by simpa using fz.symm
              clear fz
              rw [show (!D.tabsNil) = true by simp [tnil]]
              have d3 := room1.cell (j := 3) rfl
              have f3 := room1.frozen 3
              simp only [Nat.zero_add] at d3
              go_upto_region 19 with fail
              -- BEHIND 'c.From = room.from[:0]'
              obtain ⟨w2, hw2⟩ : ∃ w2, w2 = wr.setCell ⟨Y, 3, none⟩ (.slice (some ⟨Y, 13, none⟩) 0 1) := ⟨_, rfl⟩
              rw [← hw2]
              have s2 : Kp H Y 3 1 wr w2 := by rw [hw2]; exact Kp.set _ _ ⟨by omega, by omega⟩ _
              have room2 : At w2 Y 0 [.int .i64 D.off, .bool D.dist, iv', .slice (some ⟨Y, 13, none⟩) 0 1, wv, .slice gao D.nGrp gcp, hv, .slice oao D.nOrd ocp, .pointer lo] := by rw [hw2]; exact room1.put 3 (by simp) _
              have k2 : KeptX (hk H) W1 w2 := Kp.from kI s2 (by omega)
              have hk2 : ∃ o c, Hooks w2 H (r + refsTo D D.nItems) (q + subsTo D D.nItems) o c := by
                obtain ⟨oo, cc, h⟩ := hk1
                exact ⟨oo, cc, h.kept (X := fun b => b = Y) (by rw [hw2]; exact KeptX.set1 _ _ _ _) (fun b hb e => nY (e ▸ hb))⟩
              have tab2 := s2.at tab1 nY (fun _ => by omega)
              have itF2 := itF.kp eo hH5 s2 (by omega)
              have hsz2 : w2.heap.size = hi := by rw [hw2]; simpa using hhi'
              clear hw2 s2 itF tab1 room1 hk1 c3 d3 f3
              have c3 := (src _ k2).cell (j := 3) rfl
              have d3 := room2.cell (j := 3) rfl
              have f3 := room2.frozen 3
              simp only [Nat.zero_add] at c3 d3
              go_upto_if 113 with fail
              go_cut [] (fun wx => ∃ gF oF capF, LiesB Y hi gF oF D.nTabs ∧ D.nTabs ≤ capF ∧ IB E H W1 D (r + refsTo D D.nItems) (q + subsTo D D.nItems) Y hi gF oF capF iv' wv (.slice gao D.nGrp gcp) hv (.slice oao D.nOrd ocp) (.pointer lo) 0 wx ∧ hi ≤ wx.heap.size)
              case first =>
                as_aux_lemma =>
                  obtain ⟨i0, hi0, hz0, hz1, hz2⟩ := info_parts Yba.info80
                  by_cases hn : 1 < D.nTabs
                  · have hn' : (1 : Int) < (D.nTabs : Int) := by omega
                    go_wp2_with (first | (at_make; refine wpList_make_own _ rfl _ _ 48 rfl hi 80 i0 .nilIface 1 Yba.underlying48 hi0 hz0 hz1 _ _ _ D.nTabs rfl rfl rfl (by rw [hz2]; omega) (by unfold maxLen; omega) (by omega) ?_; intro w3 hown hgrow; have room3 := room2.kept (KeptX.of_grown (X := fun _ => False) hgrow) (fun h => h); have d4 := room3.cell (j := 3) rfl; have f4 := room3.frozen 3; simp only [Nat.zero_add] at d4) | fail)
                    go_meet
                    case rel =>
                      rw [hsz2] at hown
                      have k3 : KeptX (hk H) w2 w3 := KeptX.of_grown hgrow
                      have s3 : Kp H Y 3 1 w2 w3 := Kp.of_kept k3 nY
                      have s4 : Kp H Y 3 1 w3 (w3.setCell ⟨Y, 3, none⟩ (.slice (some ⟨hi, 0, none⟩) 0 D.nTabs)) := Kp.set _ _ ⟨by omega, by omega⟩ _
                      have s5 := s3.trans s4
                      refine ⟨hi, 0, D.nTabs, .inr ⟨by omega, by omega, rfl⟩, Nat.le_refl _, ⟨Kp.from k2 s5 (by omega), ?_, room3.put 3 (by simp) _, ⟨_, _, _, _, (s5.at tab2 nY (fun _ => by omega)).tail⟩, fun j hj => ?_, itF2.kp eo hH5 s5 (by omega), fun i hi => by omega⟩, by have := s5.kept.size; omega⟩
                      · obtain ⟨oo, cc, h⟩ := hk2
                        exact ⟨oo, cc, (h.kept (KeptX.of_grown (X := fun _ => False) hgrow) (fun _ _ h => h)).kept (KeptX.set1 w3 Y 3 _) (fun b hb e => nY (e ▸ hb))⟩
                      · obtain ⟨x, hx⟩ := own_spare hown j hj
                        exact ⟨x, s4.at (by rw [Nat.zero_add]; exact hx) (hk_not (by omega)) (fun e => by omega)⟩
                  · have hn' : ¬ (1 : Int) < (D.nTabs : Int) := by omega
                    go_wp2_with fail
                    go_meet
                    case rel =>
                      have sp0 : ∀ j, j < D.nTabs → ∃ x, At w2 Y (13 + j) [x] := fun j hj => by
                        obtain rfl : j = 0 := by omega
                        exact ⟨_, tab2.head⟩
                      exact ⟨Y, 13, 1, .inl ⟨rfl, rfl, by omega⟩, by omega, ⟨k2, hk2, room2, ⟨_, _, _, _, tab2.tail⟩, sp0, itF2, fun i hi => by omega⟩, by omega⟩
              case rest =>
                obtain ⟨gF, oF, capF, liesF, hcapF, ib0, hhi0⟩ := hcut
                clear room2 k2 hk2 tab2 itF2 c3 d3 f3 hsz2 kI
                have c3 := (src _ ib0.kept).cell (j := 3) rfl
                simp only [Nat.zero_add] at c3
                go_wp2_with fail
                clear c3
                have hgFY : Y ≤ gF := by rcases liesF with ⟨h, _⟩ | ⟨h, _⟩ <;> omega
                have ngF : ¬ hk H gF := hk_not (by omega)
                go_loopw [128] (fun i wq => ∃ k : Nat, k ≤ D.nTabs ∧ i = .int .i64 k ∧ IB E H W1 D (r + refsTo D D.nItems) (q + subsTo D D.nItems) Y hi gF oF capF iv' wv (.slice gao D.nGrp gcp) hv (.slice oao D.nOrd ocp) (.pointer lo) k wq ∧ hi ≤ wq.heap.size) (fun i _ => D.nTabs - (intOf i).toNat)
                case atStart => exact ⟨0, by omega, rfl, ib0, hhi0⟩
                case round =>
                  obtain ⟨k, hkn, rfl, ib, hhi2⟩ := hrel
                  clear ib0 hhi0
                  by_cases hlt : k < D.nTabs
                  · obtain ⟨g0, o0, u, hRg, had, au, tb, tof, av, hRb, rfl, ai, hal⟩ := fE k hlt
                    obtain rfl : fad = ⟨g0, o0, none⟩ := by injection had
                    have kWr := kO _ ib.kept
                    have au' := au.kept kWr (hno _ hRg au.lt)
                    have ai' := ai.kept kWr (hno _ hRb ai.lt)
                    have hal' := hal.kept kWr hno
                    have e0 := au'.cell (j := 0) rfl
                    have hk1 : (k : Int) < (D.nTabs : Int) := by omega
                    simp only [Nat.add_zero] at e0
                    have d3 := ib.room.cell (j := 3) rfl
                    have f3 := ib.room.frozen 3
                    have hYl := ib.room.lt
                    have htb := ai.lt
                    simp only [Nat.zero_add] at d3
                    obtain ⟨oh, ch, hHk⟩ := ib.hooks
                    obtain ⟨i0, hi0, hz0, hz1, hz2⟩ := info_parts Yba.info80
                    by_cases hk0 : k = 0
                    · subst hk0
                      as_aux_lemma =>
                        obtain ⟨x, y, z, t, hx⟩ := ib.tab
                        have hk1' : (0 : Int) < (D.nTabs : Int) := by omega
                        clear hk1
                        simp only [Nat.add_zero] at e0
                        go_upto_region 26 with fail
                        refine wp_region_late (fun w' => w'.cell? ⟨Y, 3, none⟩ = some (.slice (some ⟨gF, oF, none⟩) 0 capF)) 12 (by kernel_rfl) ?_
                        refine wpLate_take (i := 0) (v := ?_) rfl (by kernel_rfl) (by kernel_rfl) (by kernel_rfl) rfl (fun _ _ _ h => h) rfl (fun w => ?_) d3 ?_
                        rotate_left 1
                        · (go_simp; try with_reducible rfl)
                        try simp only [Act.put, List.setIfInBounds_toArray, List.set_cons_zero, List.set_cons_succ]
                        refine wpLate_take (i := 1) (v := ?_) rfl (by kernel_rfl) (by kernel_rfl) (by kernel_rfl) rfl (fun _ _ _ h => h) rfl (fun w => ?_) d3 ?_
                        rotate_left 1
                        · (go_simp; try with_reducible rfl)
                        try simp only [Act.put, List.setIfInBounds_toArray, List.set_cons_zero, List.set_cons_succ]
                        refine wpLate_take (i := 2) (v := ?_) rfl (by kernel_rfl) (by kernel_rfl) (by kernel_rfl) rfl (fun _ _ _ h => h) rfl (fun w => ?_) d3 ?_
                        rotate_left 1
                        · (go_simp; try with_reducible rfl)
                        try simp only [Act.put, List.setIfInBounds_toArray, List.set_cons_zero, List.set_cons_succ]
                        refine wpLate_take (i := 3) (v := ?_) rfl (by kernel_rfl) (by kernel_rfl) (by kernel_rfl) rfl (fun _ _ _ h => h) rfl (fun w => ?_) d3 ?_
                        rotate_left 1
                        · (go_simp; try with_reducible rfl)
                        try simp only [Act.put, List.setIfInBounds_toArray, List.set_cons_zero, List.set_cons_succ]
                        refine wpLate_load (i := 4) (v := ?_) rfl (by kernel_rfl) (by kernel_rfl) (by kernel_rfl) rfl (by kernel_rfl) (by kernel_rfl) (fun _ _ _ h => h) rfl (fun w hSw => ?_) d3 ?_
                        rotate_left 1
                        · (go_simp; try with_reducible rfl)
                        try simp only [Act.put, List.setIfInBounds_toArray, List.set_cons_zero, List.set_cons_succ]
                        refine wpLate_take (i := 5) (v := ?_) rfl (by kernel_rfl) (by kernel_rfl) (by kernel_rfl) rfl (fun _ _ _ h => h) rfl (fun w => ?_) d3 ?_
                        rotate_left 1
                        · (go_simp; try with_reducible rfl)
                        try simp only [Act.put, List.setIfInBounds_toArray, List.set_cons_zero, List.set_cons_succ]
                        refine wpLate_take (i := 6) (v := ?_) rfl (by kernel_rfl) (by kernel_rfl) (by kernel_rfl) rfl (fun _ _ _ h => h) rfl (fun w => ?_) d3 ?_
                        rotate_left 1
                        · (go_simp; try with_reducible rfl)
                        try simp only [Act.put, List.setIfInBounds_toArray, List.set_cons_zero, List.set_cons_succ]
                        refine wpLate_take (i := 7) (v := ?_) rfl (by kernel_rfl) (by kernel_rfl) (by kernel_rfl) rfl (fun _ _ _ h => h) rfl (fun w => ?_) d3 ?_
                        rotate_left 1
                        · (go_simp; try with_reducible rfl)
                        try simp only [Act.put, List.setIfInBounds_toArray, List.set_cons_zero, List.set_cons_succ]
                        refine wpLate_take (i := 8) (v := ?_) rfl (by kernel_rfl) (by kernel_rfl) (by kernel_rfl) rfl (fun _ _ _ h => h) rfl (fun w => ?_) d3 ?_
                        rotate_left 1
                        · (go_simp; try with_reducible rfl)
                        try simp only [Act.put, List.setIfInBounds_toArray, List.set_cons_zero, List.set_cons_succ]
                        refine wpLate_step (i := 9) rfl (by kernel_rfl) (fun K hK => ?_)
                        go_simp
                        go_at_call 15
                        refine (copy_table (cb := Y) (co := 14) (ai'.drewN 1) (hal'.kept (keepN wr 1) noX) (by omega) (hx.drewN 1) (by omega)).mono ?_
                        rintro e w5 ⟨rfl, k5, p5, av', a5, i5⟩
                        have kp5 : Kp H Y 14 4 wr w5 := ⟨((KeptX.refl _ wr).drew.trans k5).mono (fun _ _ h => .inr h), fun o vs h hp => p5 o vs (h.drewN 1) hp⟩
                        have i6 : IdPtr w5 (fun b => wr.heap.size ≤ b ∧ b ≠ Y) av' (D.tabs 0).al := i5.at (fun b (hb : wr.heap.size ≤ b) _ => ⟨hb, by omega⟩)
                        have hH5' : ∃ o c, Hooks w5 H (r + refsTo D D.nItems) (q + subsTo D D.nItems) o c := ⟨oh, ch, (hHk.kept (keepN wr 1) (fun _ _ h => h)).kept k5 (fun b hb e => nY (e ▸ hb))⟩
                        have hs5 : wr.heap.size ≤ w5.heap.size := kp5.kept.size
                        have r5 := kp5.at ib.room nY (fun e => by simp only [List.length_cons, List.length_nil]; omega)
                        have y2 := r5.cell (j := 3) rfl
                        have hY5 := r5.lt
                        obtain ⟨yy, hyy⟩ : ∃ y, At w5 gF (oF + 0) [y] := (by (obtain ⟨x, hx⟩ := ib.spare 0 hlt); exact ⟨x, kp5.at hx ngF (fun e => by simp only [List.length_cons, List.length_nil]; rcases liesF with ⟨l1, l2, l3⟩ | ⟨l1, l2, l3⟩ <;> omega)⟩)
                        obtain ⟨w7, hw7⟩ : ∃ w7, w7 = (w5.alloc (.cells #[.iface 63 (.pointer (some ⟨Y, 14, none⟩))] 80)).setCell ⟨gF, oF + 0, none⟩ (.iface 63 (.pointer (some ⟨Y, 14, none⟩))) := ⟨_, rfl⟩
                        have HW7 : Hid (w7 = (w5.alloc (.cells #[.iface 63 (.pointer (some ⟨Y, 14, none⟩))] 80)).setCell ⟨gF, oF + 0, none⟩ (.iface 63 (.pointer (some ⟨Y, 14, none⟩)))) := hw7
                        have r7 : At w7 Y 0 [.int .i64 D.off, .bool D.dist, iv', .slice (some ⟨gF, oF, none⟩) 0 capF, wv, .slice gao D.nGrp gcp, hv, .slice oao D.nOrd ocp, .pointer lo] := (by (rw [hw7]); (refine (r5.alloc _).apart ?_ _); (simp only [List.length_cons, List.length_nil]); (rcases liesF with ⟨l1, l2, l3⟩ | ⟨l1, l2, l3⟩ <;> omega))
                        clear hw7
                        have y7 := r7.cell (j := 3) rfl
                        have y8 := r7.frozen 3
                        simp only [Nat.zero_add] at y2 y7
                        have y2b := (r5.alloc (.cells #[.iface 63 (.pointer (some ⟨Y, 14, none⟩))] 80)).cell (j := 3) rfl
                        simp only [Nat.zero_add] at y2b
                        go_wp2_with fail
                        refine hK.out _ _ (fun _ => y2) ?_
                        clear hK K
                        try simp only [Act.put, List.setIfInBounds_toArray, List.set_cons_zero, List.set_cons_succ]
                        refine wpLate_take (i := 10) (v := ?_) rfl (by kernel_rfl) (by kernel_rfl) (by kernel_rfl) rfl (fun _ _ _ h => h) rfl (fun w => ?_) y2 ?_
                        rotate_left 1
                        · (go_simp; try with_reducible rfl)
                        try simp only [Act.put, List.setIfInBounds_toArray, List.set_cons_zero, List.set_cons_succ]
                        refine wpLate_step (i := 11) rfl (by kernel_rfl) (fun K hK => ?_)
                        go_simp
                        refine hK.out _ _ (fun _ => y2b) ?_
                        clear hK K
                        try simp only [Act.put, List.setIfInBounds_toArray, List.set_cons_zero, List.set_cons_succ]
                        refine wpLate_step (i := 12) rfl (by kernel_rfl) (fun K hK => ?_)
                        refine step_append_at rfl (.tmp 147) (.tmp 154) 48 rfl 80 i0 Yba.underlying48 hi0 hz1 gF oF 0 capF (by simp [Act.eval]) w5.heap.size 1 (.iface 63 (.pointer (some ⟨Y, 14, none⟩))) (by simp [Act.eval]) (At.new w5 #[.iface 63 (.pointer (some ⟨Y, 14, none⟩))] 80) rfl (by omega) yy (hyy.alloc _) w7 HW7.out ?_
                        refine hK.out _ _ (fun h => absurd (h.symm.trans (by kernel_rfl : _ = true)) (by decide)) ?_
                        clear hK K
                        try simp only [Act.put, List.setIfInBounds_toArray, List.set_cons_zero, List.set_cons_succ]
                        refine wpLate_step (i := 13) rfl (by kernel_rfl) (fun K hK => ?_)
                        go_simp
                        refine hK.out _ _ (fun h => absurd (h.symm.trans (by kernel_rfl : _ = true)) (by decide)) ?_
                        clear hK K
                        try simp only [Act.put, List.setIfInBounds_toArray, List.set_cons_zero, List.set_cons_succ]
                        refine wpLate_step (i := 14) rfl (by kernel_rfl) (fun K hK => ?_)
                        go_simp
                        refine hK.out _ _ (fun h => absurd (h.symm.trans (by kernel_rfl : _ = true)) (by decide)) ?_
                        clear hK K
                        try simp only [Act.put, List.setIfInBounds_toArray, List.set_cons_zero, List.set_cons_succ]
                        refine wpLate_step (i := 15) rfl (by kernel_rfl) (fun K hK => ?_)
                        go_simp
                        refine hK.out _ _ (fun h => absurd (h.symm.trans (by kernel_rfl : _ = true)) (by decide)) ?_
                        clear hK K
                        refine wpLate_done (by kernel_rfl) ?_ _
                        try simp only [Act.put, List.setIfInBounds_toArray, List.set_cons_zero, List.set_cons_succ]
                        have e8 : w7.setCell ⟨Y, 3, none⟩ (.slice (some ⟨gF, oF, none⟩) (0 + 1) capF) = ((w5.alloc (.cells #[.iface 63 (.pointer (some ⟨Y, 14, none⟩))] 80)).setCell ⟨gF, oF + 0, none⟩ (.iface 63 (.pointer (some ⟨Y, 14, none⟩)))).setCell ⟨Y, 3, none⟩ (.slice (some ⟨gF, oF, none⟩) (0 + 1) capF) := congrArg (fun x : World => x.setCell ⟨Y, 3, none⟩ (.slice (some ⟨gF, oF, none⟩) (0 + 1) capF)) HW7.out
                        have ib8 : IB E H W1 D (r + refsTo D D.nItems) (q + subsTo D D.nItems) Y hi gF oF capF iv' wv (.slice gao D.nGrp gcp) hv (.slice oao D.nOrd ocp) (.pointer lo) (0 + 1) (w7.setCell ⟨Y, 3, none⟩ (.slice (some ⟨gF, oF, none⟩) (0 + 1) capF)) := IB.step (ob := .cells #[.iface 63 (.pointer (some ⟨Y, 14, none⟩))] 80) eo ib hH5 hs1 liesF hhi2 hlt (.inl ⟨rfl, rfl, rfl⟩) kp5 a5 i6 hH5' e8
                        have hs8 : hi ≤ (w7.setCell ⟨Y, 3, none⟩ (.slice (some ⟨gF, oF, none⟩) (0 + 1) capF)).heap.size := by rw [e8]; simp; omega
                        clear e8 ib r7 r5 kp5
                        go_wp2_with fail
                        go_roundw
                        case rel => exact ⟨0 + 1, by omega, by go_num, ib8, hs8⟩
                        case measure => simp [intOf]; omega
                    ·
                      as_aux_lemma =>
                        have hk2 : ¬ (k : Int) = 0 := by omega
                        have b0 := (bx _ ib.kept).cell (j := 0) rfl
                        have b1 := (bx _ ib.kept).cell (j := 1) rfl
                        simp only [Nat.zero_add] at b0 b1
                        go_upto_region 27 with fail
                        refine wp_region_late (fun w' => w'.cell? ⟨Y, 3, none⟩ = some (.slice (some ⟨gF, oF, none⟩) k capF)) 9 (by kernel_rfl) ?_
                        refine wpLate_take (i := 0) (v := ?_) rfl (by kernel_rfl) (by kernel_rfl) (by kernel_rfl) rfl (fun _ _ _ h => h) rfl (fun w => ?_) d3 ?_
                        rotate_left 1
                        · (go_simp; try with_reducible rfl)
                        try simp only [Act.put, List.setIfInBounds_toArray, List.set_cons_zero, List.set_cons_succ]
                        refine wpLate_take (i := 1) (v := ?_) rfl (by kernel_rfl) (by kernel_rfl) (by kernel_rfl) rfl (fun _ _ _ h => h) rfl (fun w => ?_) d3 ?_
                        rotate_left 1
                        · (go_simp; try with_reducible rfl)
                        try simp only [Act.put, List.setIfInBounds_toArray, List.set_cons_zero, List.set_cons_succ]
                        refine wpLate_take (i := 2) (v := ?_) rfl (by kernel_rfl) (by kernel_rfl) (by kernel_rfl) rfl (fun _ _ _ h => h) rfl (fun w => ?_) d3 ?_
                        rotate_left 1
                        · (go_simp; try with_reducible rfl)
                        try simp only [Act.put, List.setIfInBounds_toArray, List.set_cons_zero, List.set_cons_succ]
                        refine wpLate_take (i := 3) (v := ?_) rfl (by kernel_rfl) (by kernel_rfl) (by kernel_rfl) rfl (fun _ _ _ h => h) rfl (fun w => ?_) d3 ?_
                        rotate_left 1
                        · (go_simp; try with_reducible rfl)
                        try simp only [Act.put, List.setIfInBounds_toArray, List.set_cons_zero, List.set_cons_succ]
                        refine wpLate_load (i := 4) (v := ?_) rfl (by kernel_rfl) (by kernel_rfl) (by kernel_rfl) rfl (by kernel_rfl) (by kernel_rfl) (fun _ _ _ h => h) rfl (fun w hSw => ?_) d3 ?_
                        rotate_left 1
                        · (go_simp; try with_reducible rfl)
                        try simp only [Act.put, List.setIfInBounds_toArray, List.set_cons_zero, List.set_cons_succ]
                        refine wpLate_take (i := 6) (v := ?_) rfl (by kernel_rfl) (by kernel_rfl) (by kernel_rfl) rfl (fun _ _ _ h => h) rfl (fun w => ?_) d3 ?_
                        rotate_left 1
                        · (go_simp; try with_reducible rfl)
                        try simp only [Act.put, List.setIfInBounds_toArray, List.set_cons_zero, List.set_cons_succ]
                        refine wpLate_step (i := 5) rfl (by kernel_rfl) (fun K hK => ?_)
                        go_simp
                        refine hK.out _ _ (fun _ => d3) ?_
                        clear hK K
                        try simp only [Act.put, List.setIfInBounds_toArray, List.set_cons_zero, List.set_cons_succ]
                        refine wpLate_step (i := 7) rfl (by kernel_rfl) (fun K hK => ?_)
                        go_simp
                        go_at_call 16
                        refine (table_ref (H := H) (ai'.drewN 1) (hal'.kept (keepN wr 1) noX) (fun b hb => by show b < wr.heap.size; omega)).mono ?_
                        rintro e w5 ⟨cb, rfl, hcb, k5, av', a5, i5⟩
                        have hcb : wr.heap.size ≤ cb := hcb
                        have k6 : KeptX (hk H) wr w5 := ((KeptX.refl _ wr).drew.trans k5).mono (fun _ _ h => h.elim)
                        have kp5 : Kp H cb 0 4 wr w5 := Kp.of_kept k6 (hk_not (by omega))
                        have i6 : IdPtr w5 (fun b => wr.heap.size ≤ b ∧ b ≠ cb) av' (D.tabs k).al := i5
                        have hH5' : ∃ o c, Hooks w5 H (r + refsTo D D.nItems) (q + subsTo D D.nItems) o c := ⟨oh, ch, (hHk.kept (keepN wr 1) (fun _ _ h => h)).kept k5 (fun b hb e => e)⟩
                        have hs5 : wr.heap.size ≤ w5.heap.size := kp5.kept.size
                        have r5 := kp5.at ib.room nY (fun e => by simp only [List.length_cons, List.length_nil]; omega)
                        have y2 := r5.cell (j := 3) rfl
                        have hY5 := r5.lt
                        obtain ⟨yy, hyy⟩ : ∃ y, At w5 gF (oF + k) [y] := (by (obtain ⟨x, hx⟩ := ib.spare k hlt); exact ⟨x, kp5.at hx ngF (fun e => by have := hx.lt; simp only [List.length_cons, List.length_nil]; rcases liesF with ⟨l1, l2, l3⟩ | ⟨l1, l2, l3⟩ <;> omega)⟩)
                        obtain ⟨w7, hw7⟩ : ∃ w7, w7 = (w5.alloc (.cells #[.iface 63 (.pointer (some ⟨cb, 0, none⟩))] 80)).setCell ⟨gF, oF + k, none⟩ (.iface 63 (.pointer (some ⟨cb, 0, none⟩))) := ⟨_, rfl⟩
                        have HW7 : Hid (w7 = (w5.alloc (.cells #[.iface 63 (.pointer (some ⟨cb, 0, none⟩))] 80)).setCell ⟨gF, oF + k, none⟩ (.iface 63 (.pointer (some ⟨cb, 0, none⟩)))) := hw7
                        have r7 : At w7 Y 0 [.int .i64 D.off, .bool D.dist, iv', .slice (some ⟨gF, oF, none⟩) k capF, wv, .slice gao D.nGrp gcp, hv, .slice oao D.nOrd ocp, .pointer lo] := (by (rw [hw7]); (refine (r5.alloc _).apart ?_ _); (simp only [List.length_cons, List.length_nil]); (rcases liesF with ⟨l1, l2, l3⟩ | ⟨l1, l2, l3⟩ <;> omega))
                        clear hw7
                        have y7 := r7.cell (j := 3) rfl
                        have y8 := r7.frozen 3
                        simp only [Nat.zero_add] at y2 y7
                        have y2b := (r5.alloc (.cells #[.iface 63 (.pointer (some ⟨cb, 0, none⟩))] 80)).cell (j := 3) rfl
                        simp only [Nat.zero_add] at y2b
                        go_wp2_with fail
                        refine hK.out _ _ (fun _ => y2) ?_
                        clear hK K
                        try simp only [Act.put, List.setIfInBounds_toArray, List.set_cons_zero, List.set_cons_succ]
                        refine wpLate_step (i := 8) rfl (by kernel_rfl) (fun K hK => ?_)
                        go_simp
                        refine hK.out _ _ (fun _ => y2b) ?_
                        clear hK K
                        try simp only [Act.put, List.setIfInBounds_toArray, List.set_cons_zero, List.set_cons_succ]
                        refine wpLate_step (i := 9) rfl (by kernel_rfl) (fun K hK => ?_)
                        refine step_append_at rfl (.tmp 162) (.tmp 166) 48 rfl 80 i0 Yba.underlying48 hi0 hz1 gF oF k capF (by simp [Act.eval]) w5.heap.size 1 (.iface 63 (.pointer (some ⟨cb, 0, none⟩))) (by simp [Act.eval]) (At.new w5 #[.iface 63 (.pointer (some ⟨cb, 0, none⟩))] 80) rfl (by omega) yy (hyy.alloc _) w7 HW7.out ?_
                        refine hK.out _ _ (fun h => absurd (h.symm.trans (by kernel_rfl : _ = true)) (by decide)) ?_
                        clear hK K
                        try simp only [Act.put, List.setIfInBounds_toArray, List.set_cons_zero, List.set_cons_succ]
                        refine wpLate_step (i := 10) rfl (by kernel_rfl) (fun K hK => ?_)
                        go_simp
                        refine hK.out _ _ (fun h => absurd (h.symm.trans (by kernel_rfl : _ = true)) (by decide)) ?_
                        clear hK K
                        try simp only [Act.put, List.setIfInBounds_toArray, List.set_cons_zero, List.set_cons_succ]
                        refine wpLate_step (i := 11) rfl (by kernel_rfl) (fun K hK => ?_)
                        go_simp
                        refine hK.out _ _ (fun h => absurd (h.symm.trans (by kernel_rfl : _ = true)) (by decide)) ?_
                        clear hK K
                        try simp only [Act.put, List.setIfInBounds_toArray, List.set_cons_zero, List.set_cons_succ]
                        refine wpLate_step (i := 12) rfl (by kernel_rfl) (fun K hK => ?_)
                        go_simp
                        refine hK.out _ _ (fun h => absurd (h.symm.trans (by kernel_rfl : _ = true)) (by decide)) ?_
                        clear hK K
                        refine wpLate_done (by kernel_rfl) ?_ _
                        try simp only [Act.put, List.setIfInBounds_toArray, List.set_cons_zero, List.set_cons_succ]
                        have e8 : w7.setCell ⟨Y, 3, none⟩ (.slice (some ⟨gF, oF, none⟩) (k + 1) capF) = ((w5.alloc (.cells #[.iface 63 (.pointer (some ⟨cb, 0, none⟩))] 80)).setCell ⟨gF, oF + k, none⟩ (.iface 63 (.pointer (some ⟨cb, 0, none⟩)))).setCell ⟨Y, 3, none⟩ (.slice (some ⟨gF, oF, none⟩) (k + 1) capF) := congrArg (fun x : World => x.setCell ⟨Y, 3, none⟩ (.slice (some ⟨gF, oF, none⟩) (k + 1) capF)) HW7.out
                        have ib8 : IB E H W1 D (r + refsTo D D.nItems) (q + subsTo D D.nItems) Y hi gF oF capF iv' wv (.slice gao D.nGrp gcp) hv (.slice oao D.nOrd ocp) (.pointer lo) (k + 1) (w7.setCell ⟨Y, 3, none⟩ (.slice (some ⟨gF, oF, none⟩) (k + 1) capF)) := IB.step (ob := .cells #[.iface 63 (.pointer (some ⟨cb, 0, none⟩))] 80) eo ib hH5 hs1 liesF hhi2 hlt (.inr ⟨hk0, hcb, rfl⟩) kp5 a5 i6 hH5' e8
                        have hs8 : hi ≤ (w7.setCell ⟨Y, 3, none⟩ (.slice (some ⟨gF, oF, none⟩) (k + 1) capF)).heap.size := by rw [e8]; simp; omega
                        clear e8 ib r7 r5 kp5
                        go_wp2_with fail
                        go_roundw
                        case rel => exact ⟨k + 1, by omega, by go_num, ib8, hs8⟩
                        case measure => simp [intOf]; omega
                  · obtain rfl : k = D.nTabs := by omega
                    go_wp2_with fail
                    go_meet
                    case rel =>
                      have tbF := ib.through liesF tnil
                      exact ⟨wr.heap.size, _, ib.kept, ib.hooks, ib.room, ib.items.raise eo hhi2, tbF, Nat.le_refl _⟩
        case rest =>
          obtain ⟨hi2, fv', ic⟩ := hcut
          clear room1 itF tab1 hk1 kI c3 fE
          have hbW : b < W.heap.size := a.lt
          have n1 : Y ≠ W.heap.size := by omega
          have n2 : Y ≠ b := by omega
          have n1' : W.heap.size ≠ Y := by omega
          have n2' : b ≠ Y := by omega
          as_aux_lemma =>
            have b0 := (bx _ ic.kept).cell (j := 0) rfl
            have b1 := (bx _ ic.kept).cell (j := 1) rfl
            have e4 := (src _ ic.kept).cell (j := 4) rfl
            simp only [Nat.zero_add] at b0 b1 e4
            have hYl := ic.room.lt
            obtain ⟨oh, ch, hHc⟩ := ic.hooks
            have HX := ex wc.drew _ _ _ _ wv _ _ _ (eo.kept (eo.kept hw (kO _ ic.kept) hno) (keepN wc 1) noX) (hHc.kept (keepN wc 1) (fun _ _ h => h)) (by unfold refsD at hr; omega) (by unfold subsD at hq; omega)
            unfold cpV at HX
            go_upto_region 29 with fail
            go_region_held3 (fun w' => w'.cell? ⟨W.heap.size, 0, none⟩ = some (blkFn H) ∧ w'.cell? ⟨W.heap.size, 1, none⟩ = some (refFn H) ∧ w'.cell? ⟨b, 4, none⟩ = some (wv)) (go_keep) ((first | (go_at_call 13; refine HX.mono ?_; rintro e w2 ⟨wv', rfl, he2, k2, o2, c2, hH2⟩; have wone' := eo.one he2; have kx2 : KeptX (hk H) wc w2 := (KeptX.refl _ wc).drew.trans k2; have kW2 : KeptX (hk H) W1 w2 := ic.kept.trans kx2; have room2 := ic.room.kept kx2 nY; have y0 := (bx _ kW2).cell (j := 0) rfl; have y1 := (bx _ kW2).cell (j := 1) rfl; have y2 := (src _ kW2).cell (j := 4) rfl; have y3 := room2.cell (j := 4) rfl; have y4 := room2.frozen 4; simp only [Nat.zero_add] at y0 y1 y2 y3) | rw [run_store_to wone' y3 y4]))
            obtain ⟨wA, hw3⟩ : ∃ w3, w3 = w2.setCell ⟨Y, 4, none⟩ (wv') := ⟨_, rfl⟩
            rw [← hw3]
            obtain ⟨icA, s3⟩ := ic.put eo hH5 hs1 rfl kx2 hH2 4 ⟨by omega, by omega⟩ (wv') hw3
            simp only [List.set] at icA
            have ks3 : KeptX (fun b => b = Y) w2 wA := by rw [hw3]; exact KeptX.set1 _ _ _ _
            have hsi := ic.size
            have hsk : wc.heap.size ≤ w2.heap.size := kx2.size
            have whA : E wA (Till Y w2.heap.size) wv' D.wk D.wn 0 := eo.kept (eo.at_ he2 (fun b (hb : wc.heap.size ≤ b) hl => ⟨by omega, hl⟩)) ks3 (fun b hb _ e => by have := hb.1; omega)
            clear hw3 ks3 he2 k2 kx2 kW2 room2 y0 y1 y2 y3 y4 b0 b1 e4 HX hH2 hHc ic s3
            obtain ⟨hiA, hhA⟩ : ∃ h, h = w2.heap.size := ⟨_, rfl⟩
            rw [← hhA] at icA whA
            clear hhA
            as_aux_lemma =>
              have b0 := (bx _ icA.kept).cell (j := 0) rfl
              have b1 := (bx _ icA.kept).cell (j := 1) rfl
              have e4 := (src _ icA.kept).cell (j := 5) rfl
              simp only [Nat.zero_add] at b0 b1 e4
              have hYl := icA.room.lt
              obtain ⟨oh, ch, hHc⟩ := icA.hooks
              have HX := exprs_ok (r := r + refsTo D D.nItems + refsOf D.wk) (q := q + subsTo D D.nItems + subsOf D.wk) eo ex (W := wA.drew) (v := .slice gao D.nGrp gcp) (nil := D.grpNil) (n := D.nGrp) (d := D.grp) ((Row.kept ⟨gao, gcp, rfl, gz, gN, gE⟩ (kO _ icA.kept) hno (fun i u _ h => eo.kept h (kO _ icA.kept) hno)).kept (keepN wA 1) noX (fun i u _ h => eo.kept h (keepN wA 1) noX)) (hHc.kept (keepN wA 1) (fun _ _ h => h)) (by unfold refsD at hr; omega) (by unfold subsD at hq; omega)
              unfold cpV at HX
              go_upto_region 30 with fail
              go_region_held3 (fun w' => w'.cell? ⟨W.heap.size, 0, none⟩ = some (blkFn H) ∧ w'.cell? ⟨W.heap.size, 1, none⟩ = some (refFn H) ∧ w'.cell? ⟨b, 5, none⟩ = some (.slice gao D.nGrp gcp)) (go_keep) ((first | (go_at_call 17; refine HX.mono ?_; rintro e w2 ⟨gvv, rfl, he2, k2, o2, c2, hH2⟩; obtain ⟨gao', gcp', rfl, gz', gN', gE'⟩ := he2; have wone' : True := trivial; have he2 : True := trivial; have kx2 : KeptX (hk H) wA w2 := (KeptX.refl _ wA).drew.trans k2; have kW2 : KeptX (hk H) W1 w2 := icA.kept.trans kx2; have room2 := icA.room.kept kx2 nY; have y0 := (bx _ kW2).cell (j := 0) rfl; have y1 := (bx _ kW2).cell (j := 1) rfl; have y2 := (src _ kW2).cell (j := 5) rfl; have y3 := room2.cell (j := 5) rfl; have y4 := room2.frozen 5; simp only [Nat.zero_add] at y0 y1 y2 y3) | rw [run_store_to wone' y3 y4]))
              obtain ⟨wB, hw3⟩ : ∃ w3, w3 = w2.setCell ⟨Y, 5, none⟩ (.slice gao' D.nGrp gcp') := ⟨_, rfl⟩
              rw [← hw3]
              obtain ⟨icB, s3⟩ := icA.put eo hH5 hs1 rfl kx2 hH2 5 ⟨by omega, by omega⟩ (.slice gao' D.nGrp gcp') hw3
              simp only [List.set] at icB
              have ks3 : KeptX (fun b => b = Y) w2 wB := by rw [hw3]; exact KeptX.set1 _ _ _ _
              have hsi := icA.size
              have hsk : wA.heap.size ≤ w2.heap.size := kx2.size
              have grB : Row wB (Till Y w2.heap.size) (.slice gao' D.nGrp gcp') D.grpNil D.nGrp (fun i u => E wB (Till Y w2.heap.size) u 0 (D.grp i).1 (D.grp i).2) := (Row.at (R := (wA.drew.heap.size ≤ ·)) ⟨gao', gcp', rfl, gz', gN', gE'⟩ (fun b (hb : wA.heap.size ≤ b) hl => ⟨by omega, hl⟩) (fun i u _ h => eo.at_ h (fun b (hb : wA.heap.size ≤ b) hl => ⟨by omega, hl⟩))).kept ks3 (fun b hb _ e => by have := hb.1; omega) (fun i u _ h => eo.kept h ks3 (fun b hb _ e => by have := hb.1; omega))
              have whB : E wB (Till Y w2.heap.size) wv' D.wk D.wn 0 := eo.at_ (kpE eo whA hH5 s3 (.inl rfl)) (fun b hb _ => hb.mono (by omega))
              clear whA gE' gz' gN' 
              clear hw3 ks3 he2 k2 kx2 kW2 room2 y0 y1 y2 y3 y4 b0 b1 e4 HX hH2 hHc icA s3
              obtain ⟨hiB, hhB⟩ : ∃ h, h = w2.heap.size := ⟨_, rfl⟩
              rw [← hhB] at icB whB grB
              clear hhB
              as_aux_lemma =>
                have b0 := (bx _ icB.kept).cell (j := 0) rfl
                have b1 := (bx _ icB.kept).cell (j := 1) rfl
                have e4 := (src _ icB.kept).cell (j := 6) rfl
                simp only [Nat.zero_add] at b0 b1 e4
                have hYl := icB.room.lt
                obtain ⟨oh, ch, hHc⟩ := icB.hooks
                have HX := ex wB.drew _ _ _ _ hv _ _ _ (eo.kept (eo.kept hh (kO _ icB.kept) hno) (keepN wB 1) noX) (hHc.kept (keepN wB 1) (fun _ _ h => h)) (by unfold refsD at hr; omega) (by unfold subsD at hq; omega)
                unfold cpV at HX
                go_upto_region 31 with fail
                go_region_held3 (fun w' => w'.cell? ⟨W.heap.size, 0, none⟩ = some (blkFn H) ∧ w'.cell? ⟨W.heap.size, 1, none⟩ = some (refFn H) ∧ w'.cell? ⟨b, 6, none⟩ = some (hv)) (go_keep) ((first | (go_at_call 13; refine HX.mono ?_; rintro e w2 ⟨hv', rfl, he2, k2, o2, c2, hH2⟩; have wone' := eo.one he2; have kx2 : KeptX (hk H) wB w2 := (KeptX.refl _ wB).drew.trans k2; have kW2 : KeptX (hk H) W1 w2 := icB.kept.trans kx2; have room2 := icB.room.kept kx2 nY; have y0 := (bx _ kW2).cell (j := 0) rfl; have y1 := (bx _ kW2).cell (j := 1) rfl; have y2 := (src _ kW2).cell (j := 6) rfl; have y3 := room2.cell (j := 6) rfl; have y4 := room2.frozen 6; simp only [Nat.zero_add] at y0 y1 y2 y3) | rw [run_store_to wone' y3 y4]))
                obtain ⟨wC, hw3⟩ : ∃ w3, w3 = w2.setCell ⟨Y, 6, none⟩ (hv') := ⟨_, rfl⟩
                rw [← hw3]
                obtain ⟨icC, s3⟩ := icB.put eo hH5 hs1 rfl kx2 hH2 6 ⟨by omega, by omega⟩ (hv') hw3
                simp only [List.set] at icC
                have ks3 : KeptX (fun b => b = Y) w2 wC := by rw [hw3]; exact KeptX.set1 _ _ _ _
                have hsi := icB.size
                have hsk : wB.heap.size ≤ w2.heap.size := kx2.size
                have haC : E wC (Till Y w2.heap.size) hv' D.hk D.hn 0 := eo.kept (eo.at_ he2 (fun b (hb : wB.heap.size ≤ b) hl => ⟨by omega, hl⟩)) ks3 (fun b hb _ e => by have := hb.1; omega)
                have grC := (Row.kp eo grB hH5 s3 (.inl rfl)).raise eo (show hiB ≤ w2.heap.size by omega)
                have whC : E wC (Till Y w2.heap.size) wv' D.wk D.wn 0 := eo.at_ (kpE eo whB hH5 s3 (.inl rfl)) (fun b hb _ => hb.mono (by omega))
                clear whB grB
                clear hw3 ks3 he2 k2 kx2 kW2 room2 y0 y1 y2 y3 y4 b0 b1 e4 HX hH2 hHc icB s3
                obtain ⟨hiC, hhC⟩ : ∃ h, h = w2.heap.size := ⟨_, rfl⟩
                rw [← hhC] at icC whC grC haC
                clear hhC
                have idC : ID E H W1 D (r + refsTo D D.nItems + refsOf D.wk + D.nGrp + refsOf D.hk) (q + subsTo D D.nItems + subsOf D.wk + subsOf D.hk) Y hiC iv' fv' wv' (.slice gao' D.nGrp gcp') hv' (.slice oao D.nOrd ocp) (.pointer lo) wC := ⟨icC, whC, grC, haC⟩
                clear icC whC grC haC gE
                as_aux_lemma =>
                  have e7 := (src _ idC.ic.kept).cell (j := 7) rfl
                  simp only [Nat.zero_add] at e7
                  go_upto_if 202 with fail
                  go_cut [] (fun wx => ∃ hi ov', ID E H W1 D (r + refsTo D D.nItems + refsOf D.wk + D.nGrp + refsOf D.hk + D.nOrd) (q + subsTo D D.nItems + subsOf D.wk + subsOf D.hk) Y hi iv' fv' wv' (.slice gao' D.nGrp gcp') hv' ov' (.pointer lo) wx ∧ OrdF E D Y hi wx ov')
                  case first =>
                    as_aux_lemma =>
                      cases oao with
                      | none =>
                        have hn0 : D.nOrd = 0 := by
                          rcases Nat.eq_zero_or_pos D.nOrd with h | h
                          · exact h
                          · obtain ⟨g, o, u, _, h2, _⟩ := oE 0 h; cases h2
                        have onil : D.ordNil = true := by simpa using oz.symm
                        clear oz
                        rw [show (!D.ordNil) = false by simp [onil]]
                        go_wp2_with fail
                        go_meet
                        case rel => exact ⟨hiC, _, by rw [hn0, Nat.add_zero, ← hn0]; exact idC, ⟨none, ocp, rfl, onil.symm, fun i hi => by omega⟩⟩
                      | some oad =>
                        have onil : D.ordNil = false := by simpa using oz.symm
                        clear oz
                        rw [show (!D.ordNil) = true by simp [onil]]
                        obtain ⟨i0, hi0, hz0, hz1, hz2⟩ := info_parts Yba.info66
                        obtain ⟨g, hg⟩ : ∃ g, wC.heap.size = g := ⟨_, rfl⟩
                        have hgC : hiC ≤ g ∧ Y + 1 ≤ g := by have := idC.ic.size; have := idC.ic.room.lt; omega
                        go_upto_region 34 with (first | (at_make; refine wpList_make_full _ rfl _ _ 52 rfl g 66 i0 (.pointer none) 1 Yba.underlying52 hi0 hz0 hz1 _ _ _ _ D.nOrd rfl rfl rfl rfl (by rw [hz2]; omega) (by unfold maxLen; omega) (by omega) ?_; intro w3 hown hgrow; have room3 := idC.ic.room.kept (KeptX.of_grown (X := fun _ => False) hgrow) (fun h => h); have d7 := room3.cell (j := 7) rfl; have f7 := room3.frozen 7; simp only [Nat.zero_add] at d7) | fail)
                        rw [hg] at hown
                        obtain ⟨w4, hw4⟩ : ∃ w4, w4 = w3.setCell ⟨Y, 7, none⟩ (.slice (some ⟨g, 0, none⟩) D.nOrd D.nOrd) := ⟨_, rfl⟩
                        rw [← hw4]
                        have k3 : KeptX (hk H) wC w3 := KeptX.of_grown hgrow
                        have s4 : Kp H Y 7 1 w3 w4 := by rw [hw4]; exact Kp.set _ _ ⟨by omega, by omega⟩ _
                        have io0 : JOrd E H W1 D (r + refsTo D D.nItems + refsOf D.wk + D.nGrp + refsOf D.hk) (q + subsTo D D.nItems + subsOf D.wk + subsOf D.hk) Y hiC g iv' fv' wv' (.slice gao' D.nGrp gcp') hv' (.pointer lo) 0 w4 := by
                          refine ⟨idC.puts eo hH5 hs1 ((Kp.of_kept k3 nY).trans s4) ⟨by omega, by omega⟩ (by rw [hw4]; exact room3.put 7 (by simp) _) ?_, fun j hj => ?_, fun i hi => by omega⟩
                          · obtain ⟨oo, cc, h⟩ := idC.ic.hooks
                            exact ⟨oo, cc, (h.kept (KeptX.of_grown (X := fun _ => False) hgrow) (fun _ _ h => h)).kept (X := fun b => b = Y) (by rw [hw4]; exact KeptX.set1 _ _ _ _) (fun b hb e => nY (e ▸ hb))⟩
                          · obtain ⟨x, hx⟩ := own_spare hown j hj
                            exact ⟨x, s4.at hx (hk_not (by omega)) (fun e => by omega)⟩
                        clear hw4 s4 k3 hown hgrow room3 d7 f7 idC e7 hg
                        have e7 := (src _ io0.id.ic.kept).cell (j := 7) rfl
                        simp only [Nat.zero_add] at e7
                        go_wp2_with fail
                        clear e7
                        go_loopw [217] (fun i wq => ∃ k : Nat, k ≤ D.nOrd ∧ i = .int .i64 k ∧ JOrd E H W1 D (r + refsTo D D.nItems + refsOf D.wk + D.nGrp + refsOf D.hk) (q + subsTo D D.nItems + subsOf D.wk + subsOf D.hk) Y hiC g iv' fv' wv' (.slice gao' D.nGrp gcp') hv' (.pointer lo) k wq) (fun i _ => D.nOrd - (intOf i).toNat)
                        case atStart => exact ⟨0, by omega, rfl, io0⟩
                        case round =>
                          obtain ⟨k, hkn, rfl, io⟩ := hrel
                          clear io0
                          by_cases hlt : k < D.nOrd
                          ·
                            as_aux_lemma =>
                              obtain ⟨g0, o0, u, hRg, had, au, ob, ev, hRb, rfl, ai, he⟩ := oE k hlt
                              obtain rfl : oad = ⟨g0, o0, none⟩ := by injection had
                              have kI := io.id.ic.kept
                              have kWr := kO _ kI
                              have au' := au.kept kWr (hno _ hRg au.lt)
                              have ai' := ai.kept kWr (hno _ hRb ai.lt)
                              have e0 := au'.cell (j := 0) rfl
                              have e1 := ai'.cell (j := 0) rfl
                              have e2 := ai'.cell (j := 1) rfl
                              have hk1 : (k : Int) < (D.nOrd : Int) := by omega
                              simp only [Nat.add_zero, Nat.zero_add] at e0 e1 e2
                              have evone := eo.one he
                              have hob := ai'.lt
                              have hYl := io.id.ic.room.lt
                              have hsz := io.id.ic.size
                              obtain ⟨cb, hcb⟩ : ∃ cb, wr.heap.size = cb := ⟨_, rfl⟩
                              go_upto_region 38 with fail
                              go_simp
                              go_upto_region 38 with fail
                              -- BEHIND 'co := *o'
                              obtain ⟨w1, hw1⟩ : ∃ w1, w1 = wr.alloc (.cells #[ev, .int .i64 0] 70) := ⟨_, rfl⟩
                              rw [← hw1]
                              have a1 : At w1 cb 0 [ev, .int .i64 0] := by
                                have := At.new wr #[ev, .int .i64 0] 70
                                rw [← hw1, hcb] at this
                                exact this
                              have k1 : KeptX (hk H) wr w1 := by rw [hw1]; exact (KeptX.refl _ _).alloc _
                              have kf1 : KeptX (fun _ => False) wr w1 := by rw [hw1]; exact (KeptX.refl _ _).alloc _
                              have kW1' : KeptX (hk H) W1 w1 := kI.trans k1
                              have nc : ¬ hk H cb := hk_not (by omega)
                              have hib := ai.lt
                              clear hw1 e0 e1 e2 au' ai' hob
                              have ai3 := ai.kept (kO _ kW1') (hno _ hRb hib)
                              have b0 := (bx _ kW1').cell (j := 0) rfl
                              have b1 := (bx _ kW1').cell (j := 1) rfl
                              have e1 := ai3.cell (j := 0) rfl
                              simp only [Nat.add_zero, Nat.zero_add] at b0 b1 e1
                              obtain ⟨oh, ch, hHk⟩ := io.id.ic.hooks
                              have HX := ex w1.drew _ _ _ _ ev _ _ _ (eo.kept (eo.kept he (kO _ kW1') hno) (keepN w1 1) noX) ((hHk.kept kf1 (fun _ _ h => h)).kept (keepN w1 1) (fun _ _ h => h)) (by unfold refsD at hr; omega) (by unfold subsD at hq; omega)
                              unfold cpV at HX
                              have m1 : cb ≠ W.heap.size := by omega
                              have m2 : cb ≠ ob := by omega
                              have m1' : W.heap.size ≠ cb := by omega
                              have m2' : ob ≠ cb := by omega
                              go_region_held3 (fun w' => w'.cell? ⟨W.heap.size, 0, none⟩ = some (blkFn H) ∧ w'.cell? ⟨W.heap.size, 1, none⟩ = some (refFn H) ∧ w'.cell? ⟨ob, 0, none⟩ = some ev) (go_keep) ((first | (go_at_call 13; refine HX.mono ?_; rintro e w2 ⟨ev', rfl, he2, k2, o2, c2, hH2⟩; have wone' := eo.one he2; have kx2 : KeptX (hk H) w1 w2 := (KeptX.refl _ w1).drew.trans k2; have kW2 : KeptX (hk H) W1 w2 := kW1'.trans kx2; have a2 := a1.kept kx2 nc; have y0 := (bx _ kW2).cell (j := 0) rfl; have y1 := (bx _ kW2).cell (j := 1) rfl; have y2 := (ai.kept (kO _ kW2) (hno _ hRb hib)).cell (j := 0) rfl; have y3 := a2.cell (j := 0) rfl; have y4 := a2.frozen 0; simp only [Nat.zero_add] at y0 y1 y2 y3) | rw [run_store_to wone' y3 y4]))
                              obtain ⟨w5, hw5⟩ : ∃ w5, w5 = w2.setCell ⟨cb, 0, none⟩ ev' := ⟨_, rfl⟩
                              rw [← hw5]
                              have s5 : Kp H cb 0 2 w2 w5 := by rw [hw5]; exact Kp.set _ _ ⟨by omega, by omega⟩ _
                              have kp5 : Kp H cb 0 2 wr w5 := (Kp.of_kept (k1.trans kx2) nc).trans s5
                              have a5 : At w5 cb 0 [ev', .int .i64 0] := by rw [hw5]; exact a2.put 0 (by simp) _
                              have ks5 : KeptX (fun b => b = cb) w2 w5 := by rw [hw5]; exact KeptX.set1 _ _ _ _
                              have hs1' : wr.heap.size ≤ w1.heap.size := k1.size
                              have ha1 := a1.lt
                              have he5 : E w5 (fun b => wr.heap.size ≤ b ∧ b ≠ cb) ev' 0 (D.ord k).1 (D.ord k).2 := eo.at_ (eo.kept he2 ks5 (fun b (hb : w1.heap.size ≤ b) _ e => by omega)) (fun b (hb : w1.heap.size ≤ b) _ => ⟨by omega, by omega⟩)
                              have h5 : ∃ o c, Hooks w5 H (r + refsTo D D.nItems + refsOf D.wk + D.nGrp + refsOf D.hk + k + 1) (q + subsTo D D.nItems + subsOf D.wk + subsOf D.hk) o c := ⟨o2, c2, hH2.kept ks5 (fun b hb e => nc (e ▸ hb))⟩
                              have room5 := kp5.at io.id.ic.room nY (fun e => by omega)
                              have hgl : g < wr.heap.size := by obtain ⟨x, hx⟩ := io.spare k hlt; exact hx.lt
                              obtain ⟨yy, hyy⟩ : ∃ y, At w5 g k [y] := by
                                obtain ⟨x, hx⟩ := io.spare k hlt
                                exact ⟨x, kp5.at hx (hk_not (by omega)) (fun e => by omega)⟩
                              have io8 := io.step eo hH5 hs1 hgC hlt (Nat.le_of_eq hcb) kp5 a5 he5 h5 rfl
                              clear hw5 s5 kp5 ks5 he2 k2 kx2 kW2 a2 y0 y1 y2 y3 y4 b0 b1 e1 HX hH2 hHk a1 k1 kf1 ai3 io he5 h5 a5
                              have r7 := room5.cell (j := 7) rfl
                              have z1 := hyy.cell (j := 0) rfl
                              have z2 := hyy.frozen k
                              simp only [Nat.zero_add, Nat.add_zero] at r7 z1
                              go_wp2_with fail
                              go_roundw
                              case rel => exact ⟨k + 1, by omega, by go_num, io8⟩
                              case measure => simp [intOf]; omega
                          · obtain rfl : k = D.nOrd := by omega
                            go_wp2_with fail
                            go_meet
                            case rel => exact ⟨wr.heap.size, _, (io.through eo hgC onil).1, (io.through eo hgC onil).2⟩
                  case rest =>
                    obtain ⟨hiD, ov', idD, orD⟩ := hcut
                    clear idC e7 oE
                    as_aux_lemma =>
                      have e8 := (src _ idD.ic.kept).cell (j := 8) rfl
                      simp only [Nat.zero_add] at e8
                      go_upto_if 243 with fail
                      go_cut [] (fun wx => ∃ hi lv', ID E H W1 D (r + refsTo D D.nItems + refsOf D.wk + D.nGrp + refsOf D.hk + D.nOrd) (q + subsTo D D.nItems + subsOf D.wk + subsOf D.hk) Y hi iv' fv' wv' (.slice gao' D.nGrp gcp') hv' ov' lv' wx ∧ OrdF E D Y hi wx ov' ∧ LimPtr wx (Till Y hi) lv' D.lim)
                      case first =>
                        as_aux_lemma =>
                          cases hD : D.lim with
                          | none =>
                            rw [hD] at hl
                            obtain rfl : lo = none := by injection hl
                            go_wp2_with fail
                            go_meet
                            case rel => exact ⟨hiD, .pointer none, idD, orD, by rw [hD]; rfl⟩
                          | some lm =>
                            obtain ⟨cnt, off⟩ := lm
                            rw [hD] at hl
                            obtain ⟨lb, cv, lv2, hRl, hlv, al, hc1, hc2⟩ := hl
                            obtain rfl : lo = some ⟨lb, 0, none⟩ := by injection hlv
                            obtain ⟨cvo, rfl⟩ := hc1.isPtr
                            obtain ⟨lvo, rfl⟩ := hc2.isPtr
                            have limFin : ∀ (wl : World) (pa pb : Option Addr) (wF : World), wF = (wl.alloc (.cells #[.pointer pa, .pointer pb] 76)).setCell ⟨Y, 8, none⟩ (.pointer (some ⟨wl.heap.size, 0, none⟩)) → KeptX (fun _ => False) wc wl → LitPtr wl (wc.heap.size ≤ ·) (.pointer pa) 0 (some cnt) → LitPtr wl (wc.heap.size ≤ ·) (.pointer pb) 1 off →
                                ∃ hi lv', ID E H W1 D (r + refsTo D D.nItems + refsOf D.wk + D.nGrp + refsOf D.hk + D.nOrd) (q + subsTo D D.nItems + subsOf D.wk + subsOf D.hk) Y hi iv' fv' wv' (.slice gao' D.nGrp gcp') hv' ov' lv' wF ∧ OrdF E D Y hi wF ov' ∧ LimPtr wF (Till Y hi) lv' D.lim := by
                              intro wl pa pb wF hF kl la lb'
                              subst hF
                              have hYl := idD.ic.room.lt
                              have hsl := kl.size
                              have hsi := idD.ic.size
                              have ka : KeptX (fun _ => False) wl (wl.alloc (.cells #[.pointer pa, .pointer pb] 76)) := (KeptX.refl _ _).alloc _
                              have k2 : KeptX (hk H) wc (wl.alloc (.cells #[.pointer pa, .pointer pb] 76)) := (kl.trans ka).mono (fun _ _ h => h.elim)
                              obtain ⟨oo, cc, hh'⟩ := idD.ic.hooks
                              have id8 := idD.set8 eo hH5 hs1 k2 (hh'.kept (kl.trans ka) (fun _ _ h => h)) (.pointer (some ⟨wl.heap.size, 0, none⟩)) rfl
                              have s8 : Kp H Y 8 1 wc ((wl.alloc (.cells #[.pointer pa, .pointer pb] 76)).setCell ⟨Y, 8, none⟩ (.pointer (some ⟨wl.heap.size, 0, none⟩))) := (Kp.of_kept k2 nY).trans (Kp.set _ _ ⟨by omega, by omega⟩ _)
                              have kset := KeptX.set1 (wl.alloc (.cells #[.pointer pa, .pointer pb] 76)) Y 8 (.pointer (some ⟨wl.heap.size, 0, none⟩))
                              have hsa : (wl.alloc (.cells #[.pointer pa, .pointer pb] 76)).heap.size = wl.heap.size + 1 := by simp
                              refine ⟨_, _, id8, (orD.kp eo hH5 s8 (.inl rfl)).raise eo (by omega), ?_⟩
                              rw [hD]
                              refine ⟨wl.heap.size, _, _, ⟨by omega, by omega⟩, rfl, (At.new wl #[.pointer pa, .pointer pb] 76).kept kset (by omega), ?_, ?_⟩
                              · exact ((la.kept ka (fun _ _ _ h => h)).kept kset (fun b (hb : wc.heap.size ≤ b) _ e => by omega)).at (fun b (hb : wc.heap.size ≤ b) hl => ⟨by omega, by simpa using hl⟩)
                              · exact ((lb'.kept ka (fun _ _ _ h => h)).kept kset (fun b (hb : wc.heap.size ≤ b) _ e => by omega)).at (fun b (hb : wc.heap.size ≤ b) hl => ⟨by omega, by simpa using hl⟩)
                            have kD := idD.ic.kept
                            have hlb := al.lt
                            have SC : ∀ w', KeptX (hk H) W1 w' → w'.cell? ⟨b, 8, none⟩ = some (.pointer (some ⟨lb, 0, none⟩)) ∧ w'.cell? ⟨lb, 0, none⟩ = some (.pointer cvo) ∧ w'.cell? ⟨lb, 1, none⟩ = some (.pointer lvo) := fun w' k => ⟨(src _ k).cell (j := 8) rfl, (al.kept (kO _ k) (hno _ hRl al.lt)).cell (j := 0) rfl, (al.kept (kO _ k) (hno _ hRl al.lt)).cell (j := 1) rfl⟩
                            have HC1 : ∀ w', KeptX (hk H) W1 w' → Calls Yba.prog 18 #[.pointer cvo] w' _ := fun w' k => shallow_litp (hc1.kept (kO _ k) hno)
                            have HC2 : ∀ w', KeptX (hk H) W1 w' → Calls Yba.prog 18 #[.pointer lvo] w' _ := fun w' k => shallow_litp (hc2.kept (kO _ k) hno)
                            have hYl := idD.ic.room.lt
                            have room8 : ∀ w', KeptX (hk H) wc w' → w'.cell? ⟨Y, 8, none⟩ = some (.pointer (some ⟨lb, 0, none⟩)) ∧ w'.frozen? ⟨Y, 8, none⟩ = false ∧ Y < w'.heap.size := fun w' k => ⟨(idD.ic.room.kept k nY).cell (j := 8) rfl, (idD.ic.room.kept k nY).frozen 8, (idD.ic.room.kept k nY).lt⟩
                            have m2 : Y ≠ lb := by omega
                            have m2' : lb ≠ Y := by omega
                            have kd : KeptX (hk H) wc wc.drew := (KeptX.refl _ _).drew
                            have kdW : KeptX (hk H) W1 wc.drew := kD.drew
                            clear idD orD hc1 hc2 al
                            go_upto_region 42 with fail
                            go_region_held3 (fun w' => w'.cell? ⟨b, 8, none⟩ = some (.pointer (some ⟨lb, 0, none⟩)) ∧ w'.cell? ⟨lb, 0, none⟩ = some (.pointer cvo) ∧ w'.cell? ⟨lb, 1, none⟩ = some (.pointer lvo)) (first | exact SC _ (by assumption) | go_keep) ((first | (go_at_call_of 18 (Value.pointer cvo); refine (HC1 _ (by assumption)).mono ?_; rintro e wa ⟨va, rfl, ha, hba⟩; obtain ⟨pa, rfl⟩ := ha.isPtr; have kwa : KeptX (hk H) wc wa := KeptX.trans (by assumption) (KeptX.of_below hba); have kwaW : KeptX (hk H) W1 wa := kD.trans kwa; have ra := room8 _ kwa) | (go_at_call_of 18 (Value.pointer lvo); refine (HC2 _ (by assumption)).mono ?_; rintro e wb ⟨vb, rfl, hb2, hbb⟩; obtain ⟨pb, rfl⟩ := hb2.isPtr; have kwb : KeptX (hk H) wc wb := KeptX.trans (by assumption) (KeptX.of_below hbb); have kwbW : KeptX (hk H) W1 wb := kD.trans kwb; have rb := room8 _ kwb)))
                            all_goals
                              go_wp2_with fail
                              go_meet
                              case rel =>
                                first
                                  | exact limFin wb pa pb _ (by first | rfl | (go_simp; done)) (((KeptX.refl _ wc).drew.trans (KeptX.of_below hba)).trans (KeptX.of_below hbb)) ((ha.kept (KeptX.of_below (X := fun _ => False) hbb) noX).at (fun b hb _ => hb)) (hb2.at (fun b (h : wa.heap.size ≤ b) _ => Nat.le_trans kwa.size h))
                                  | exact limFin wa pa pb _ (by first | rfl | (go_simp; done)) (((KeptX.refl _ wc).drew.trans (KeptX.of_below hbb)).trans (KeptX.of_below hba)) (ha.at (fun b (h : wb.heap.size ≤ b) _ => Nat.le_trans kwb.size h)) ((hb2.kept (KeptX.of_below (X := fun _ => False) hba) noX).at (fun b hb _ => hb))
                      case rest =>
                        obtain ⟨hiL, lv', idL, orL, liL⟩ := hcut
                        clear idD orD e8
                        have fin := idL.whole eo orL liL (Z := W.heap.size) (by omega) iN fN oN
                        obtain ⟨oh, ch, hHk⟩ := idL.ic.hooks
                        have b0 := (bx _ idL.ic.kept).cell (j := 0) rfl
                        unfold blkFn at b0
                        simp only [Nat.zero_add] at b0
                        have HB := hook_blk (some ⟨b, 0, none⟩) (some ⟨Y, 0, none⟩) hHk (by unfold subsD at hq; omega)
                        have kIL := idL.ic.kept
                        clear idL orL liL
                        go_wp2_with (first | (go_at_call 8; refine HB.mono ?_; rintro e w9 ⟨rfl, hH9, k9, hs9⟩) | fail)
                        go_ret
                        refine ⟨Y, rfl, by omega, ?_, (kO _ kIL).trans k9, ?_⟩
                        · exact SelIn.kept (R := (W.heap.size ≤ ·)) fin (by show W.heap.size ≤ Y; omega) k9 (fun b (hb : W.heap.size ≤ b) _ => hk_not (by omega)) (fun v k nm n h => eo.kept h k9 (fun b (hb : W.heap.size ≤ b) _ => hk_not (by omega)))
                        · have e1 : r + refsD D = r + refsTo D D.nItems + refsOf D.wk + D.nGrp + refsOf D.hk + D.nOrd := by unfold refsD; omega
                          have e2 : q + subsD D + 1 = q + subsTo D D.nItems + subsOf D.wk + subsOf D.hk + 1 := by unfold subsD; omega
                          rw [e1, e2]; exact hH9

end Go.Proofs.Ybulkaq
