/-
  WHAT '(Copier).Select' BUILDS IN, and its smaller callees: 'copyTableName', 'tableRef', 'exprs'.
-/
import Derived.Test.YbulkaqExpr
namespace Go.Proofs.Ybulkaq
open Go.RowKit
set_option linter.unusedVariables false

/-- A store elsewhere. -/
theorem At.apart {W : World} {b o : Nat} {vs : List Value} (h : At W b o vs) {b' j : Nat} (hp : b' ≠ b ∨ j < o ∨ o + vs.length ≤ j) (u : Value) : At (W.setCell ⟨b', j, none⟩ u) b o vs := by
  by_cases hb : b' = b
  · subst hb
    obtain ⟨cs, t, h, hc⟩ := h
    refine ⟨cs.setIfInBounds j u, t, ?_, fun i v hi => ?_⟩
    · simp [World.setCell, Array.getElem?_modify, h]
    · have hl : i < vs.length := (List.getElem?_eq_some_iff.1 hi).1
      rw [Array.getElem?_setIfInBounds_ne (by omega)]
      exact hc i v hi
  · exact h.set_other hb u

theorem At.join {W : World} {b o : Nat} {u : Value} {vs : List Value} (h : At W b o [u]) (h' : At W b (o + 1) vs) : At W b o (u :: vs) := by
  obtain ⟨cs, t, h, hc⟩ := h
  obtain ⟨cs', t', h', hc'⟩ := h'
  rw [h] at h'
  obtain ⟨rfl, rfl⟩ : cs = cs' ∧ t = t' := by simpa using h'
  refine ⟨cs, t, h, fun j v hj => ?_⟩
  match j, hj with
  | 0, hj => exact hc 0 v (by simpa using hj)
  | j + 1, hj => have := hc' j v (by simpa using hj); rwa [Nat.add_assoc, Nat.add_comm 1 j] at this

theorem At.head {W : World} {b o : Nat} {u : Value} {vs : List Value} (h : At W b o (u :: vs)) : At W b o [u] := by
  have := h.part (us := [u]) 0 (fun j v hj => by
    match j, hj with
    | 0, hj => simpa using hj)
  exact this
theorem At.tail {W : World} {b o : Nat} {u : Value} {vs : List Value} (h : At W b o (u :: vs)) : At W b (o + 1) vs :=
  h.part 1 (fun j v hj => by rw [Nat.add_comm 1 j]; simpa using hj)

theorem At.one {W : World} {b o : Nat} {x : Value} (h : At W b o [x]) (u : Value) : At (W.setCell ⟨b, o, none⟩ u) b o [u] :=
  At.set h 0 u [u] fun i v hi => by
    match i, hi with
    | 0, hi => exact .inl ⟨rfl, by simpa using hi.symm, rfl⟩

theorem At.setCells_apart {b o : Nat} {vs : List Value} {b' : Nat} : ∀ (us : List Value) (j : Nat) (W : World), At W b o vs → (b' ≠ b ∨ j + us.length ≤ o ∨ o + vs.length ≤ j) → At (W.setCells b' j us) b o vs
  | [], _, _, h, _ => h
  | u :: us, j, W, h, hp => by
    simp only [List.length_cons] at hp
    exact At.setCells_apart us (j + 1) _ (h.apart (by omega) u) (by omega)

theorem At.filled {b : Nat} : ∀ (us : List Value) (o : Nat) (W : World) (xs : List Value), At W b o xs → us.length = xs.length → us ≠ [] → At (W.setCells b o us) b o us
  | [], _, _, _, _, _, hn => absurd rfl hn
  | [u], o, W, x :: xs, h, hl, _ => h.head.one u
  | u :: u' :: us, o, W, x :: xs, h, hl, _ => by
    have h1 : At (W.setCell ⟨b, o, none⟩ u) b (o + 1) xs := h.tail.apart (.inr (.inl (by omega))) u
    have h2 := At.filled (u' :: us) (o + 1) _ xs h1 (by simpa using hl) (by simp)
    have h3 : At (W.setCell ⟨b, o, none⟩ u) b o [u] := h.head.one u
    exact (At.setCells_apart (u' :: us) (o + 1) _ h3 (.inr (.inr (by simp)))).join h2

theorem KeptX.setCells {X : Nat → Prop} {a : World} {b : Nat} (hb : a.heap.size ≤ b ∨ X b) : ∀ (us : List Value) (j : Nat) (W : World), KeptX X a W → KeptX X a (W.setCells b j us)
  | [], _, _, h => h
  | u :: us, j, W, h => KeptX.setCells hb us (j + 1) _ (h.setCell (p := ⟨b, j, none⟩) hb u)

theorem KeptX.set1 (W : World) (b j : Nat) (u : Value) : KeptX (fun k => k = b) W (W.setCell ⟨b, j, none⟩ u) := KeptX.setCell (X := fun k => k = b) (KeptX.refl _ W) (p := ⟨b, j, none⟩) (.inr rfl) u

theorem KeptX.of_grown {X : Nat → Prop} {a b : World} (h : a.grownBy b none) : KeptX X a b := KeptX.of_below ((Below.refl _ a).grown h (Nat.le_refl _) (fun k hk => by cases hk))

/-- What is owned, told by 'At'. -/
theorem own_at {w : World} {base g n cap : Nat} {e : TypeId} {xs : List Value} (h : w.ownsRow base e 1 (.slice (some ⟨g, 0, none⟩) n cap) n xs) (hn : n ≠ 0) : At w g 0 xs := by
  rcases h.2 with ⟨h1, h2⟩ | ⟨g', cap', cur, h1, h2, h3, h4, h5, h6, h7⟩
  · exact absurd h2 hn
  · obtain ⟨rfl, rfl⟩ : g = g' ∧ cap = cap' := by simpa using h1
    refine ⟨cur, e, h3, fun j v hj => ?_⟩
    rw [Nat.zero_add]
    have hl : j < xs.length := (List.getElem?_eq_some_iff.1 hj).1
    have hl' : j < n * 1 := by rw [h.1] at hl; exact hl
    rw [← h7, List.getElem?_take_of_lt hl'] at hj
    simpa using hj
theorem own_spare {w : World} {base g n cap : Nat} {e : TypeId} {xs : List Value} (h : w.ownsRow base e 1 (.slice (some ⟨g, 0, none⟩) n cap) n xs) (j : Nat) (hj : j < cap) : ∃ x, At w g j [x] := by
  rcases h.2 with ⟨h1, h2⟩ | ⟨g', cap', cur, h1, h2, h3, h4, h5, h6, h7⟩
  · simp at h1
  · obtain ⟨rfl, rfl⟩ : g = g' ∧ cap = cap' := by simpa using h1
    refine ⟨cur[j]'(by omega), cur, e, h3, fun i v hi => ?_⟩
    match i, hi with
    | 0, hi => rw [Nat.add_zero, Array.getElem?_eq_getElem (by omega)]; simpa using hi

@[go_sem] theorem run_store_one (P : Program) (w : World) (a : Addr) (v : Value) (m : Mode) (hv : v.oneCell' = true) : (store a v m).run P w = stored P w a v m := run_store P w a v m hv
@[go_sem] theorem cells_one {v : Value} (hv : v.oneCell' = true) : v.cells = #[v] := by
  cases v <;> first | rfl | cases hv

theorem E0.one {W : World} {R : Nat → Prop} {v : Value} {k : Nat} {nm : ByteArray} {n : Nat} (h : E0 W R v k nm n) : v.oneCell' = true := by
  match k, h with
  | 0, ⟨b, hR, hv, hc⟩ => rw [hv]; rfl
  | 1, ⟨b, hR, hv, hc⟩ => rw [hv]; rfl
  | 2, ⟨b, x, y, hb, hxx, hy, hv, h1, h2, h3⟩ => rw [hv]; rfl
  | 3, h => exact h.elim
  | _ + 4, h => rw [show v = .nilIface from h]; rfl

theorem Ex.one {W : World} {R : Nat → Prop} {v : Value} {k : Nat} {nm : ByteArray} {n : Nat} (h : Ex W R v k nm n) : v.oneCell' = true := by
  rcases h with ⟨h3, b, s, hb, hs, hv, h1, h2⟩ | ⟨h3, h⟩
  · rw [hv]; rfl
  · exact h.one

abbrev EP := World → (Nat → Prop) → Value → Nat → ByteArray → Nat → Prop

/-- What is asked of a family of expressions. -/
structure EOk (E : EP) : Prop where
  kept : ∀ {X R : Nat → Prop} {W W' : World} {v : Value} {k : Nat} {nm : ByteArray} {n : Nat}, E W R v k nm n → KeptX X W W' → (∀ b, R b → b < W.heap.size → ¬ X b) → E W' R v k nm n
  at_ : ∀ {R R' : Nat → Prop} {W : World} {v : Value} {k : Nat} {nm : ByteArray} {n : Nat}, E W R v k nm n → (∀ b, R b → b < W.heap.size → R' b) → E W R' v k nm n
  one : ∀ {R : Nat → Prop} {W : World} {v : Value} {k : Nat} {nm : ByteArray} {n : Nat}, E W R v k nm n → v.oneCell' = true

theorem eok_E0 : EOk E0 := ⟨fun h k x => h.kept k x, fun h r => h.at r, fun h => h.one⟩
theorem eok_Ex : EOk Ex := ⟨fun h k x => h.kept k x, fun h r => h.at r, fun h => h.one⟩

/-- What 'Expr' is known to do on a family. -/
def ExprOk (E : EP) (H B : Nat) : Prop := ∀ (W : World) (r q : Nat) (o c : Option Addr) (v : Value) (k : Nat) (nm : ByteArray) (n : Nat), E W (· < H) v k nm n → Hooks W H r q o c → r ≤ B → q ≤ B →
  Calls Yba.prog 13 #[cpV H, v] W fun e w' => ∃ v', e = .returned v' ∧ E w' (W.heap.size ≤ ·) v' k nm n ∧ KeptX (hk H) W w' ∧ ∃ o' c', Hooks w' H (r + refsOf k) (q + subsOf k) o' c'

theorem exprOk_E0 (H : Nat) : ExprOk E0 H 200000 := fun W r q o c v k nm n h hH hr hq =>
  (expr_E0 h hH hr).mono fun e w' ⟨v', he, h1, h2, h3⟩ => ⟨v', he, h1, h2, o, c, by
    have : subsOf k = 0 := by
      unfold subsOf; split
      · subst k; exact h.elim
      · rfl
    rw [this]; exact h3⟩

set_option maxHeartbeats 1000000 in
theorem copy_table {W : World} {R : Nat → Prop} {cb co tb to : Nat} {nm : ByteArray} {n : Nat} {av x0 x1 x2 x3 : Value} {al : Option (ByteArray × ByteArray × Int)} (ht : At W tb to [.string nm, .string ⟨#[]⟩, .int .i64 n, av]) (hal : IdPtr W R av al) (hR : ¬ R cb) (hc : At W cb co [x0, x1, x2, x3]) (hne : tb ≠ cb) :
    Calls Yba.prog 15 #[.pointer (some ⟨cb, co, none⟩), .pointer (some ⟨tb, to, none⟩)] W fun e w' => e = .returned (.pointer (some ⟨cb, co, none⟩)) ∧ KeptX (· = cb) W w' ∧ (∀ o' vs, At W cb o' vs → (o' + vs.length ≤ co ∨ co + 4 ≤ o') → At w' cb o' vs) ∧
      ∃ av', At w' cb co [.string nm, .string ⟨#[]⟩, .int .i64 n, av'] ∧ IdPtr w' (W.heap.size ≤ ·) av' al := by
  obtain ⟨ao, rfl⟩ := hal.isPtr
  have t0 := ht.cell (j := 0) rfl
  have t1 := ht.cell (j := 1) rfl
  have t2 := ht.cell (j := 2) rfl
  have t3 := ht.cell (j := 3) rfl
  have c0 := hc.cell (j := 0) rfl
  have c1 := hc.cell (j := 1) rfl
  have c2 := hc.cell (j := 2) rfl
  have c3 := hc.cell (j := 3) rfl
  have f0 := hc.frozen co
  have f1 := hc.frozen (co + 1)
  have f2 := hc.frozen (co + 2)
  have f3 := hc.frozen (co + 3)
  simp only [Nat.add_zero] at t0 t1 t2 t3 c0 c1 c2 c3
  have hne' : cb ≠ tb := fun e => hne e.symm
  obtain ⟨W1, hW1⟩ : ∃ W1, W1 = W.setCells cb co [.string nm, .string ⟨#[]⟩, .int .i64 n, .pointer ao] := ⟨_, rfl⟩
  have HW : Hid (W1 = W.setCells cb co [.string nm, .string ⟨#[]⟩, .int .i64 n, .pointer ao]) := hW1
  have k1 : KeptX (· = cb) W W1 := by rw [hW1]; exact KeptX.setCells (X := (· = cb)) (.inr rfl) _ _ _ (KeptX.refl _ W)
  have a1 : At W1 cb co [.string nm, .string ⟨#[]⟩, .int .i64 n, .pointer ao] := by rw [hW1]; exact At.filled _ _ _ _ hc rfl (by simp)
  have p1 : ∀ o' vs, At W cb o' vs → (o' + vs.length ≤ co ∨ co + 4 ≤ o') → At W1 cb o' vs := fun o' vs h hp => by rw [hW1]; exact At.setCells_apart _ _ _ h (.inr (by simp only [List.length_cons, List.length_nil]; omega))
  have hal1 := hal.kept k1 (fun b hb _ e => hR (e ▸ hb))
  have hs1 := k1.size
  have hcl := hc.lt
  clear hW1
  go_enter Yba.func15, Yba.ntmps15
  go_wp2_with fail
  simp only [World.setCells] at HW
  rw [← HW.out]
  clear HW t0 t1 t2 t3 c0 c1 c2 c3 f0 f1 f2 f3
  refine (shallow_ptr hal1).mono ?_
  rintro e w2 ⟨v2, rfl, hi2, hb2⟩
  obtain ⟨ao2, rfl⟩ := hi2.isPtr
  have a2 := a1.same (hb2.block cb (by omega))
  have c3 := a2.cell (j := 3) rfl
  have f3 := a2.frozen (co + 3)
  go_wp2
  go_ret
  have k2 : KeptX (· = cb) W1 (w2.setCell ⟨cb, co + 3, none⟩ (.pointer ao2)) := KeptX.setCell (X := (· = cb)) (KeptX.of_below hb2) (p := ⟨cb, co + 3, none⟩) (.inr rfl) _
  refine ⟨rfl, k1.trans k2, fun o' vs h hp => ((p1 o' vs h hp).same (hb2.block cb (by omega))).apart (.inr (by omega)) _, _, ?_, (hi2.kept (KeptX.set1 w2 cb (co + 3) (.pointer ao2)) (fun b hb _ e => by omega)).at (fun b hb _ => by omega)⟩
  exact a2.set 3 (.pointer ao2) _ (fun i v hi => by
    match i, hi with
    | 0, hi => exact .inr ⟨by omega, by simpa using hi⟩
    | 1, hi => exact .inr ⟨by omega, by simpa using hi⟩
    | 2, hi => exact .inr ⟨by omega, by simpa using hi⟩
    | 3, hi => exact .inl ⟨rfl, by simpa using hi.symm, rfl⟩)

@[go_sem] theorem ta_63_63 (v : Value) (w : World) : (Instr.typeAssert (.iface 63 v) 80 63 true).run Yba.prog w = .ok (.tuple #[v, .bool true]) w := by kernel_rfl

set_option maxHeartbeats 1000000 in
/-- 'tableRef' of a table's name. -/
theorem table_ref {W : World} {R : Nat → Prop} {H tb to : Nat} {nm : ByteArray} {n : Nat} {av : Value} {al : Option (ByteArray × ByteArray × Int)} (ht : At W tb to [.string nm, .string ⟨#[]⟩, .int .i64 n, av]) (hal : IdPtr W R av al) (hR : ∀ b, R b → b < W.heap.size) :
    Calls Yba.prog 16 #[cpV H, .iface 63 (.pointer (some ⟨tb, to, none⟩))] W fun e w' => ∃ cb, e = .returned (.iface 63 (.pointer (some ⟨cb, 0, none⟩))) ∧ W.heap.size ≤ cb ∧ KeptX (fun _ => False) W w' ∧
      ∃ av', At w' cb 0 [.string nm, .string ⟨#[]⟩, .int .i64 n, av'] ∧ IdPtr w' (fun b => W.heap.size ≤ b ∧ b ≠ cb) av' al := by
  have htl := ht.lt
  have k2 : ∀ o1 o2, KeptX (fun _ => False) W ((W.alloc o1).alloc o2) := fun o1 o2 => ((KeptX.refl _ W).alloc o1).alloc o2
  unfold cpV blkFn refFn
  go_enter Yba.func16, Yba.ntmps16
  go_wp2_with (first | (go_at_call 15; refine (copy_table (cb := W.heap.size + 1) (co := 0) (ht.kept (k2 _ _) (fun h => h)) (hal.kept (k2 _ _) (fun _ _ _ h => h)) (fun h => by have := hR _ h; omega) ((two_behind (Nat.le_refl _) (Below.refl _ _)).2) (by omega)).mono ?_; rintro e w1 ⟨rfl, k1, p1, av', a1, i1⟩) | fail)
  go_ret
  refine ⟨_, rfl, by omega, ((k2 _ _).then k1 (fun i hi e => by omega)), av', a1, i1.at (fun b hb _ => by simp only [World.size_alloc] at hb; exact ⟨by omega, by omega⟩)⟩

theorem Yba.info50 : (Yba.prog.info? 50).map (fun i => (i.zero, i.size, i.bytes)) = some (some .nilIface, 1, 16) := by kernel_rfl

/-- The blocks from Z on, but for g. -/
def New (Z g b : Nat) : Prop := Z ≤ b ∧ b ≠ g

/-- THE STATE IN 'exprs'' LOOP. -/
def ExInv (E : EP) (H : Nat) (W1 : World) (g n r q : Nat) (d : Nat → ByteArray × Nat) (k : Nat) (w : World) : Prop :=
  KeptX (hk H) W1 w ∧ (∃ o c, Hooks w H (r + k) q o c) ∧ (∀ j, j < k → ∃ u, At w g j [u] ∧ E w (New W1.heap.size g) u 0 (d j).1 (d j).2) ∧ (∀ j, j < n → ∃ x, At w g j [x])

theorem exInv_step {E : EP} {H : Nat} (eo : EOk E) {W1 w w2 w3 : World} {g n r q k : Nat} {d : Nat → ByteArray × Nat} {v' : Value} {o c : Option Addr} (hH5 : H + 5 ≤ W1.heap.size) (hg : W1.heap.size ≤ g) (hI : ExInv E H W1 g n r q d k w) (hkn : k < n)
    (k2 : KeptX (hk H) w w2) (hH2 : Hooks w2 H (r + k + 1) q o c) (he : E w2 (w.heap.size ≤ ·) v' 0 (d k).1 (d k).2) (hw3 : w3 = w2.setCell ⟨g, k, none⟩ v') : ExInv E H W1 g n r q d (k + 1) w3 := by
  obtain ⟨kI, _, hel, hsp⟩ := hI
  have hgw : ∀ j, j < n → ∃ x, At w2 g j [x] := fun j hj => by
    obtain ⟨x, hx⟩ := hsp j hj
    exact ⟨x, hx.kept k2 (fun h => by have := h.2; omega)⟩
  obtain ⟨x, hx⟩ := hgw k hkn
  have hgl : g < w.heap.size := by obtain ⟨x, hx⟩ := hsp k hkn; exact hx.lt
  have k3 : KeptX (fun b => b = g) w2 w3 := by rw [hw3]; exact KeptX.set1 _ _ _ _
  have hsW := kI.size
  refine ⟨?_, ⟨o, c, ?_⟩, fun j hj => ?_, fun j hj => ?_⟩
  · rw [hw3]; exact (kI.trans k2).setCell (.inl hg) _
  · rw [show r + (k + 1) = r + k + 1 by omega]; exact hH2.kept k3 (fun b hb e => by have := hb.2; omega)
  · by_cases e : j = k
    · subst e
      exact ⟨v', by rw [hw3]; exact hx.one v', eo.at_ (eo.kept he k3 (fun b (hb : w.heap.size ≤ b) _ e => by omega)) (fun b (hb : w.heap.size ≤ b) _ => ⟨by omega, by omega⟩)⟩
    · obtain ⟨u, hu, heu⟩ := hel j (by omega)
      refine ⟨u, ?_, ?_⟩
      · rw [hw3]; exact (hu.kept k2 (fun h => by have := h.2; omega)).apart (.inr (by simp only [List.length_cons, List.length_nil]; omega)) _
      · exact eo.kept (eo.kept heu k2 (fun b (hb : New W1.heap.size g b) _ h => by have := h.2; have := hb.1; have := hb.2; omega)) k3 (fun b hb _ e => hb.2 e)
  · by_cases e : j = k
    · subst e; exact ⟨v', by rw [hw3]; exact hx.one v'⟩
    · obtain ⟨y, hy⟩ := hgw j hj
      exact ⟨y, by rw [hw3]; exact hy.apart (.inr (by simp only [List.length_cons, List.length_nil]; omega)) _⟩

set_option maxRecDepth 100000 in
set_option maxHeartbeats 2000000 in
theorem exprs_ok {E : EP} {H B : Nat} (eo : EOk E) (ex : ExprOk E H B) {W : World} {r q n : Nat} {o c : Option Addr} {v : Value} {nil : Bool} {d : Nat → ByteArray × Nat}
    (h : Row W (· < H) v nil n (fun i u => E W (· < H) u 0 (d i).1 (d i).2)) (hH : Hooks W H r q o c) (hr : r + n ≤ B) (hq : q ≤ B) :
    Calls Yba.prog 17 #[cpV H, v] W fun e w' => ∃ v', e = .returned v' ∧ Row w' (W.heap.size ≤ ·) v' nil n (fun i u => E w' (W.heap.size ≤ ·) u 0 (d i).1 (d i).2) ∧ KeptX (hk H) W w' ∧ ∃ o' c', Hooks w' H (r + n) q o' c' := by
  obtain ⟨ao, cp, rfl, hz, hn, he⟩ := h
  obtain ⟨i0, hi, hz0, hz1, hz2⟩ := info_parts Yba.info50
  have qs := fun (w : World) a n c => sliceNil Yba.underlying51 w a n c
  have hHl := hH.lt
  have bx : ∀ w', KeptX (hk H) (W.alloc (.cells #[blkFn H, refFn H] 43)) w' → At w' W.heap.size 0 [blkFn H, refFn H] := fun w' k => (At.new W #[blkFn H, refFn H] 43).kept k (fun h => by have := h.2; omega)
  cases ao with
  | none =>
    obtain rfl : nil = true := by simpa using hz.symm
    clear hz
    have hn0 : n = 0 := by
      rcases Nat.eq_zero_or_pos n with h | h
      · exact h
      · obtain ⟨g, o, u, _, h2, _⟩ := he 0 h; cases h2
    subst hn0
    unfold cpV blkFn refFn
    go_enter Yba.func17, Yba.ntmps17
    go_wp2_with fail
    go_ret
    refine ⟨_, rfl, ⟨none, 0, rfl, rfl, hn, fun i hi => by omega⟩, (KeptX.refl _ W).alloc _, o, c, hH.kept ((KeptX.refl (fun _ => False) W).alloc _) (fun _ _ h => h)⟩
  | some ad =>
    obtain rfl : nil = false := by simpa using hz.symm
    clear hz
    unfold cpV
    obtain ⟨W1, hW1⟩ : ∃ W1, W1 = W.alloc (.cells #[blkFn H, refFn H] 43) := ⟨_, rfl⟩
    have HW : Hid (W1 = W.alloc (.cells #[blkFn H, refFn H] 43)) := hW1
    have hs1 : W1.heap.size = W.heap.size + 1 := by rw [hW1]; simp
    have kW1 : KeptX (fun _ => False) W W1 := by rw [hW1]; exact (KeptX.refl _ W).alloc _
    rw [← hW1] at bx
    have hH1 : Hooks W1 H r q o c := hH.kept kW1 (fun _ _ h => h)
    clear hW1
    go_enter Yba.func17, Yba.ntmps17
    unfold blkFn refFn
    go_wp2_with (first | (at_make; (unfold blkFn refFn at HW); rw [← HW.out]; refine wpList_make_full _ rfl _ _ 51 rfl (W.heap.size + 1) 50 i0 .nilIface 1 Yba.underlying51 hi hz0 hz1 _ _ _ _ n rfl rfl rfl rfl (by rw [hz2]; omega) (by unfold maxLen; omega) (by omega) ?_; intro w1 hown hgrow) | fail)
    rw [hs1] at hown
    obtain ⟨g, hg⟩ : ∃ g, g = W.heap.size + 1 := ⟨_, rfl⟩
    rw [← hg] at hown
    rw [← hg]
    have k1 : KeptX (hk H) W1 w1 := KeptX.of_grown hgrow
    have inv0 : ExInv E H W1 g n r q d 0 w1 := ⟨k1, ⟨o, c, hH1.kept (KeptX.of_grown (X := fun _ => False) hgrow) (fun _ _ h => h)⟩, fun j hj => by omega, fun j hj => own_spare hown j hj⟩
    have hgW : W.heap.size + 1 ≤ g := by omega
    clear hgrow hown k1 HW hg
    go_loopw [15] (fun i wr => ∃ k : Nat, k ≤ n ∧ i = .int .i64 k ∧ ExInv E H W1 g n r q d k wr) (fun i _ => n - (intOf i).toNat)
    case atStart => exact ⟨0, by omega, rfl, inv0⟩
    case round =>
      obtain ⟨k, hk', rfl, kI, ⟨ok, ck, hHk⟩, hel, hsp⟩ := hrel
      by_cases hlt : k < n
      · obtain ⟨g0, o0, u, hRg, had, au, hu⟩ := he k hlt
        obtain rfl : ad = ⟨g0, o0, none⟩ := by injection had
        have kWk : KeptX (hk H) W wr := (kW1.mono (fun _ _ h => h.elim)).trans kI
        have hno : ∀ b, b < H → b < W.heap.size → ¬ hk H b := fun b h1 _ h2 => by have := h2.1; omega
        have au' := au.kept kWk (hno _ hRg (by omega))
        have e0 := au'.cell (j := 0) rfl
        have hu' := eo.kept hu kWk hno
        have b0 := (bx _ kI).cell (j := 0) rfl
        have b1 := (bx _ kI).cell (j := 1) rfl
        unfold blkFn at b0
        unfold refFn at b1
        simp only [Nat.add_zero, Nat.zero_add] at e0 b0 b1
        have hk1 : (k : Int) < (n : Int) := by omega
        have HX := ex wr (r + k) q ok ck u 0 _ _ hu' hHk (by omega) hq
        unfold cpV blkFn refFn at HX
        go_wp2_with (first | (go_at_call 13; refine HX.mono ?_; rintro e w2 ⟨v', rfl, he2, k2, o2, c2, hH2⟩; have hv1 := eo.one he2; obtain ⟨x, hx⟩ := hsp k hlt; have hx2 := hx.kept k2 (fun h => by have := h.2; omega); have x1 := hx2.cell (j := 0) rfl; have x2 := hx2.frozen k; simp only [Nat.add_zero] at x1) | fail)
        go_simp
        go_wp2
        have inv2 := exInv_step eo (by omega) (by omega) ⟨kI, ⟨ok, ck, hHk⟩, hel, hsp⟩ hlt k2 hH2 he2 rfl
        go_roundw
        case rel => exact ⟨k + 1, by omega, by go_num, inv2⟩
        case measure => simp [intOf]; omega
      · obtain rfl : k = n := by omega
        go_wp2
        go_ret
        refine ⟨_, rfl, ⟨some ⟨g, 0, none⟩, k, rfl, rfl, hn, fun i hi => ?_⟩, (kW1.mono (fun _ _ h => h.elim)).trans kI, ok, ck, hHk⟩
        obtain ⟨u, hu, heu⟩ := hel i hi
        exact ⟨g, 0, u, by omega, rfl, by rw [Nat.zero_add]; exact hu, eo.at_ heu (fun b hb _ => by have := hb.1; omega)⟩

end Go.Proofs.Ybulkaq
