/-
  THE STATES OF 'zzs0003abuild' BEHIND ITS ITEMS: plain facts on memory, no walk.
-/
import Derived.Test.YbulkaqBuildSt
namespace Go.Proofs.Ybulkaq
open Go.RowKit
set_option linter.unusedVariables false

/-- WHAT IS THROUGH; n says how much of it. -/
structure JP (B : BlkD) (W1 : World) (Y hi n : Nat) (iv fv wv gv hv ov lv : Value) (w : World) : Prop where
  kept : KeptX (fun _ => False) W1 w
  size : hi ≤ w.heap.size
  lo : Y + 1 ≤ hi
  items : RowF (pItem (dOf B)) Y hi w B.inil B.nI iv
  tabs : 1 ≤ n → RowF (pTab (dOf B)) Y hi w B.tnil B.nT fv
  whr : 2 ≤ n → Ex w (Till Y hi) wv (B.wk % 5) B.wn 0
  ord : 3 ≤ n → RowF (pOrd (dOf B)) Y hi w B.onil B.nO ov
  grp : 3 ≤ n → RowF (pGrp (dOf B)) Y hi w (dOf B).grpNil (dOf B).nGrp gv
  hav : 4 ≤ n → Ex w (Till Y hi) hv (dOf B).hk (dOf B).hn 0
  lim : 5 ≤ n → LimPtr w (Till Y hi) lv (dOf B).lim

theorem LitPtr.kept2 {X R : Nat → Prop} {W W' : World} {v : Value} {n : Nat} {x : Option ByteArray} (h : LitPtr W R v n x) (k : KeptX X W W') (hx : ∀ b, R b → b < W.heap.size → ¬ X b) : LitPtr W' R v n x := by
  match x, h with
  | none, h => exact h
  | some nm, ⟨b, hR, hv, hb⟩ => exact ⟨b, hR, hv, At.kept hb k (hx b hR (At.lt hb))⟩
theorem LitPtr.at2 {R R' : Nat → Prop} {W : World} {v : Value} {n : Nat} {x : Option ByteArray} (h : LitPtr W R v n x) (hr : ∀ b, R b → b < W.heap.size → R' b) : LitPtr W R' v n x := by
  match x, h with
  | none, h => exact h
  | some nm, ⟨b, hR, hv, hb⟩ => exact ⟨b, hr b hR (At.lt hb), hv, hb⟩
theorem LimPtr.kept2 {X R : Nat → Prop} {W W' : World} {v : Value} {x : Option (ByteArray × Option ByteArray)} (h : LimPtr W R v x) (k : KeptX X W W') (hx : ∀ b, R b → b < W.heap.size → ¬ X b) : LimPtr W' R v x := by
  match x, h with
  | none, h => exact h
  | some (cnt, off), ⟨b, cv, ov, hR, hv, ha, h1, h2⟩ => exact ⟨b, cv, ov, hR, hv, ha.kept k (hx b hR ha.lt), h1.kept2 k hx, h2.kept2 k hx⟩
theorem LimPtr.at2 {R R' : Nat → Prop} {W : World} {v : Value} {x : Option (ByteArray × Option ByteArray)} (h : LimPtr W R v x) (hr : ∀ b, R b → b < W.heap.size → R' b) : LimPtr W R' v x := by
  match x, h with
  | none, h => exact h
  | some (cnt, off), ⟨b, cv, ov, hR, hv, ha, h1, h2⟩ => exact ⟨b, cv, ov, hr b hR ha.lt, hv, ha, h1.at2 hr, h2.at2 hr⟩

theorem JP.fp {B : BlkD} {W1 : World} {Y hi n cb co l : Nat} {iv fv wv gv hv ov lv : Value} {w w' : World} (j : JP B W1 Y hi n iv fv wv gv hv ov lv w) (k : Fp cb co l w w') (hc : cb = Y ∨ hi ≤ cb) (hs1 : W1.heap.size ≤ Y) : JP B W1 Y hi n iv fv wv gv hv ov lv w' := by
  have hl := j.lo
  have hx : ∀ b, Till Y hi b → b < w.heap.size → ¬ b = cb := fun b hb _ e => by have := hb.1; have := hb.2; omega
  exact ⟨Fp.from j.kept k (by omega), Nat.le_trans j.size k.kept.size, hl, j.items.fp (pItem_ok _) k hc, fun h => (j.tabs h).fp (pTab_ok _) k hc, fun h => (j.whr h).kept k.kept hx, fun h => (j.ord h).fp (pOrd_ok _) k hc, fun h => (j.grp h).fp (pGrp_ok _) k hc, fun h => (j.hav h).kept k.kept hx, fun h => (j.lim h).kept2 k.kept hx⟩

theorem JP.new {B : BlkD} {W1 : World} {Y hi n : Nat} {iv fv wv gv hv ov lv : Value} {w w' : World} (j : JP B W1 Y hi n iv fv wv gv hv ov lv w) (k : KeptX (fun _ => False) w w') (hs1 : W1.heap.size ≤ Y) : JP B W1 Y hi n iv fv wv gv hv ov lv w' := j.fp (Fp.of_kept (cb := Y) (co := 0) (l := 0) k) (.inl rfl) hs1

theorem JP.raise {B : BlkD} {W1 : World} {Y hi hi' n : Nat} {iv fv wv gv hv ov lv : Value} {w : World} (j : JP B W1 Y hi n iv fv wv gv hv ov lv w) (hh : hi ≤ hi') (hs : hi' ≤ w.heap.size) : JP B W1 Y hi' n iv fv wv gv hv ov lv w := by
  have hl := j.lo
  have hr : ∀ b, Till Y hi b → b < w.heap.size → Till Y hi' b := fun b hb _ => hb.mono hh
  exact ⟨j.kept, hs, by omega, j.items.raise (pItem_ok _) hh, fun h => (j.tabs h).raise (pTab_ok _) hh, fun h => (j.whr h).at hr, fun h => (j.ord h).raise (pOrd_ok _) hh, fun h => (j.grp h).raise (pGrp_ok _) hh, fun h => (j.hav h).at hr, fun h => (j.lim h).at2 hr⟩

theorem JP.to1 {B : BlkD} {W1 : World} {Y hi : Nat} {iv fv wv gv hv ov lv : Value} {w : World} (j : JP B W1 Y hi 0 iv fv wv gv hv ov lv w) (fv' : Value) (h : RowF (pTab (dOf B)) Y hi w B.tnil B.nT fv') : JP B W1 Y hi 1 iv fv' wv gv hv ov lv w :=
  ⟨j.kept, j.size, j.lo, j.items, fun _ => h, fun h => absurd h (by omega), fun h => absurd h (by omega), fun h => absurd h (by omega), fun h => absurd h (by omega), fun h => absurd h (by omega)⟩
theorem JP.to2 {B : BlkD} {W1 : World} {Y hi : Nat} {iv fv wv gv hv ov lv : Value} {w : World} (j : JP B W1 Y hi 1 iv fv wv gv hv ov lv w) (wv' : Value) (h : Ex w (Till Y hi) wv' (B.wk % 5) B.wn 0) : JP B W1 Y hi 2 iv fv wv' gv hv ov lv w :=
  ⟨j.kept, j.size, j.lo, j.items, fun _ => j.tabs (by omega), fun _ => h, fun h => absurd h (by omega), fun h => absurd h (by omega), fun h => absurd h (by omega), fun h => absurd h (by omega)⟩
theorem JP.to3 {B : BlkD} {W1 : World} {Y hi : Nat} {iv fv wv gv hv ov lv : Value} {w : World} (j : JP B W1 Y hi 2 iv fv wv gv hv ov lv w) (gv' ov' : Value) (h : RowF (pOrd (dOf B)) Y hi w B.onil B.nO ov') (h' : RowF (pGrp (dOf B)) Y hi w (dOf B).grpNil (dOf B).nGrp gv') : JP B W1 Y hi 3 iv fv wv gv' hv ov' lv w :=
  ⟨j.kept, j.size, j.lo, j.items, fun _ => j.tabs (by omega), fun _ => j.whr (by omega), fun _ => h, fun _ => h', fun h => absurd h (by omega), fun h => absurd h (by omega)⟩
theorem JP.to4 {B : BlkD} {W1 : World} {Y hi : Nat} {iv fv wv gv hv ov lv : Value} {w : World} (j : JP B W1 Y hi 3 iv fv wv gv hv ov lv w) (hv' : Value) (h : Ex w (Till Y hi) hv' (dOf B).hk (dOf B).hn 0) : JP B W1 Y hi 4 iv fv wv gv hv' ov lv w :=
  ⟨j.kept, j.size, j.lo, j.items, fun _ => j.tabs (by omega), fun _ => j.whr (by omega), fun _ => j.ord (by omega), fun _ => j.grp (by omega), fun _ => h, fun h => absurd h (by omega)⟩
theorem JP.to5 {B : BlkD} {W1 : World} {Y hi : Nat} {iv fv wv gv hv ov lv : Value} {w : World} (j : JP B W1 Y hi 4 iv fv wv gv hv ov lv w) (lv' : Value) (h : LimPtr w (Till Y hi) lv' (dOf B).lim) : JP B W1 Y hi 5 iv fv wv gv hv ov lv' w :=
  ⟨j.kept, j.size, j.lo, j.items, fun _ => j.tabs (by omega), fun _ => j.whr (by omega), fun _ => j.ord (by omega), fun _ => j.grp (by omega), fun _ => j.hav (by omega), fun _ => h⟩

/-- A row that grows, its blocks in R. -/
structure RowR (P : RP) (R : Nat → Prop) (g n k : Nat) (w : World) : Prop where
  spare : ∀ m, m < n → ∃ x, At w g m [x]
  done : ∀ i, i < k → P R w g i

theorem RowR.fp {P : RP} (po : POk P) {R : Nat → Prop} {g n k cb co l : Nat} {w w' : World} (h : RowR P R g n k w) (f : Fp cb co l w w') (hR : ∀ b, R b → b ≠ cb) (hg : cb ≠ g) : RowR P R g n k w' :=
  ⟨fun m hm => by obtain ⟨x, hx⟩ := h.spare m hm; exact ⟨x, f.at hx (fun e => absurd e.symm hg)⟩, fun i hi => po.fp (h.done i hi) f (fun b hb _ => hR b hb) (fun e => absurd e hg)⟩

theorem RowR.put {P : RP} (po : POk P) {R : Nat → Prop} {g n k : Nat} {w w' : World} {u : Value} (h : RowR P R g n k w) (hRg : ∀ b, R b → b ≠ g) (hk : k < n) (hw' : w' = w.setCell ⟨g, k, none⟩ u) (hnew : At w' g k [u] → P R w' g k) : RowR P R g n (k + 1) w' := by
  have s : Fp g k 1 w w' := by rw [hw']; exact Fp.set _ _ ⟨by omega, by omega⟩ _
  have hu : At w' g k [u] := by obtain ⟨x, hx⟩ := h.spare k hk; rw [hw']; exact hx.one u
  refine ⟨fun m hm => ?_, fun i hi => ?_⟩
  · by_cases e : m = k
    · subst e; exact ⟨u, hu⟩
    · obtain ⟨x, hx⟩ := h.spare m hm
      exact ⟨x, s.at hx (fun _ => by simp only [List.length_cons, List.length_nil]; omega)⟩
  · by_cases e : i = k
    · subst e; exact hnew hu
    · exact po.fp (h.done i (by omega)) s (fun b hb _ => hRg b hb) (fun _ => by omega)

theorem RowR.through {P : RP} (po : POk P) {R : Nat → Prop} {Y g n : Nat} {w : World} (h : RowR P R g n n w) (hR : ∀ b, R b → Y + 1 ≤ b) (hg : Y + 1 ≤ g) (c : Nat) : RowF P Y w.heap.size w false n (.slice (some ⟨g, 0, none⟩) n c) :=
  ⟨_, c, rfl, rfl, fun i hi => ⟨g, rfl, ⟨hg, by obtain ⟨x, hx⟩ := h.spare i hi; exact hx.lt⟩, po.at_ (h.done i hi) (fun b hb hl => ⟨hR b hb, hl⟩)⟩⟩

/-- ONE ELEMENT MORE: new blocks, the element's store, the store of the header. -/
theorem grow {P : RP} (po : POk P) {B : BlkD} {W1 : World} {R : Nat → Prop} {Y hi n g k N c : Nat} {iv fv wv gv hv ov lv u hdr : Value} {vs : List Value} {wr wx w8 : World} {ob : Obj} (hs1 : W1.heap.size ≤ Y)
    (j : JP B W1 Y hi n iv fv wv gv hv ov lv wr) (room : At wr Y 0 vs) (row : RowR P R g N k wr) (hkN : k < N) (hg : hi ≤ g) (hRg : ∀ b, R b → b ≠ g ∧ b ≠ Y) (kx : KeptX (fun _ => False) wr wx) (hw8 : w8 = (wx.alloc ob).setCell ⟨g, 0 + k, none⟩ u) (hc : c < vs.length)
    (hnew : ∀ w', KeptX (fun b => b = g) wx w' → At w' g k [u] → P R w' g k) :
    At w8 Y 0 vs ∧ JP B W1 Y hi n iv fv wv gv hv ov lv (w8.setCell ⟨Y, c, none⟩ hdr) ∧ At (w8.setCell ⟨Y, c, none⟩ hdr) Y 0 (vs.set c hdr) ∧ RowR P R g N (k + 1) (w8.setCell ⟨Y, c, none⟩ hdr) ∧
      (∀ P' : RP, POk P' → ∀ g' N' k', g' ≠ g → g' ≠ Y → RowR P' R g' N' k' wr → RowR P' R g' N' k' (w8.setCell ⟨Y, c, none⟩ hdr)) := by
  rw [Nat.zero_add] at hw8
  have hl := j.lo
  have ka : KeptX (fun _ => False) wx (wx.alloc ob) := (KeptX.refl _ _).alloc _
  have kxa := kx.trans ka
  have ks : KeptX (fun b => b = g) (wx.alloc ob) w8 := by rw [hw8]; exact KeptX.set1 _ _ _ _
  have fa : Fp Y 0 0 wr (wx.alloc ob) := Fp.of_kept kxa
  have fs : Fp g k 1 (wx.alloc ob) w8 := by rw [hw8]; exact Fp.set _ _ ⟨by omega, by omega⟩ _
  have fY : Fp Y c 1 w8 (w8.setCell ⟨Y, c, none⟩ hdr) := Fp.set _ _ ⟨by omega, by omega⟩ _
  have r8 : At w8 Y 0 vs := (room.kept kxa (fun h => h)).kept ks (by omega)
  have hx8 : KeptX (fun b => b = g) wx w8 := (ka.mono (fun _ _ h => h.elim)).trans ks
  have r9 := r8.put c hc hdr
  rw [Nat.zero_add] at r9
  refine ⟨r8, ((j.fp fa (.inl rfl) hs1).fp fs (.inr hg) hs1).fp fY (.inl rfl) hs1, r9, ?_, fun P' po' g' N' k' h1 h2 h => ?_⟩
  · exact ((row.fp po fa (fun b hb => (hRg b hb).2) (by omega)).put po (fun b hb => (hRg b hb).1) hkN hw8 (fun hu => hnew w8 hx8 hu)).fp po fY (fun b hb => (hRg b hb).2) (by omega)
  · exact ((h.fp po' fa (fun b hb => (hRg b hb).2) (Ne.symm h2)).fp po' fs (fun b hb => (hRg b hb).1) (Ne.symm h1)).fp po' fY (fun b hb => (hRg b hb).2) (Ne.symm h2)

/-- THE WHOLE BLOCK. -/
theorem JP.whole {B : BlkD} {W1 : World} {Z Y hi : Nat} {iv fv wv gv hv ov lv : Value} {w : World} (j : JP B W1 Y hi 5 iv fv wv gv hv ov lv w) (room : At w Y 0 [.int .i64 B.off, .bool B.dist, iv, fv, wv, gv, hv, ov, lv]) (hZ : Z ≤ Y) (iN : B.nI ≤ 300) (tN : B.nT ≤ 300) (oN : B.nO ≤ 300) : SelIn w (Z ≤ ·) (Ex w (Z ≤ ·)) Y (dOf B) := by
  have hr : ∀ b, Till Y hi b → b < w.heap.size → Z ≤ b := fun b hb _ => by have := hb.1; omega
  have gN : (dOf B).nGrp ≤ 300 := by show (if B.grp then B.nO else 0) ≤ 300; split <;> omega
  refine ⟨iv, fv, wv, gv, hv, ov, lv, B.inil, room, ?_, ?_, (j.whr (by omega)).at hr, ?_, (j.hav (by omega)).at hr, ?_, (j.lim (by omega)).at2 hr⟩
  · obtain ⟨ao, c, h1, h2, h3⟩ := j.items
    refine ⟨ao, c, h1, h2, by show B.nI ≤ _; omega, fun i hi => ?_⟩
    obtain ⟨g, h4, h5, b', ev, av, hb, hu, ha, he, hi'⟩ := h3 i hi
    exact ⟨g, 0, _, hr g h5 hu.lt, h4, by rw [Nat.zero_add]; exact hu, b', 0, ev, av, hr b' hb ha.lt, rfl, ha, he.at hr, hi'.at hr⟩
  · obtain ⟨ao, c, h1, h2, h3⟩ := j.tabs (by omega)
    refine ⟨ao, c, h1, h2, by show B.nT ≤ _; omega, fun i hi => ?_⟩
    obtain ⟨g, h4, h5, b', av, hb, hu, ha, hi'⟩ := h3 i hi
    exact ⟨g, 0, _, hr g h5 hu.lt, h4, by rw [Nat.zero_add]; exact hu, b', 0, av, hr b' hb ha.lt, rfl, ha, hi'.at hr⟩
  · obtain ⟨ao, c, h1, h2, h3⟩ := j.grp (by omega)
    refine ⟨ao, c, h1, h2, by omega, fun i hi => ?_⟩
    obtain ⟨g, h4, h5, ev, hu, he⟩ := h3 i hi
    exact ⟨g, 0, _, hr g h5 hu.lt, h4, by rw [Nat.zero_add]; exact hu, he.at hr⟩
  · obtain ⟨ao, c, h1, h2, h3⟩ := j.ord (by omega)
    refine ⟨ao, c, h1, h2, by show B.nO ≤ _; omega, fun i hi => ?_⟩
    obtain ⟨g, h4, h5, b', ev, hb, hu, ha, he⟩ := h3 i hi
    exact ⟨g, 0, _, hr g h5 hu.lt, h4, by rw [Nat.zero_add]; exact hu, b', ev, hr b' hb ha.lt, rfl, ha, he.at hr⟩

/-- The tables' loop: k of them are there. -/
structure JT (B : BlkD) (W1 : World) (Y hi g : Nat) (ao : Option Addr) (cap : Nat) (iv : Value) (k : Nat) (w : World) : Prop where
  jp : JP B W1 Y hi 0 iv (.slice none 0 0) .nilIface (.slice none 0 0) .nilIface (.slice none 0 0) (.pointer none) w
  room : At w Y 0 [.int .i64 B.off, .bool B.dist, iv, .slice ao k cap, .nilIface, .slice none 0 0, .nilIface, .slice none 0 0, .pointer none]
  row : RowR (pTab (dOf B)) (NewR Y g) g B.nT k w

/-- The blocks of the order's and the groups' rows. -/
def NewO (Y g5 g7 b : Nat) : Prop := Y + 1 ≤ b ∧ b ≠ g5 ∧ b ≠ g7

/-- The order's loop: k of its elements are there, m of the groups. -/
structure JO (B : BlkD) (W1 : World) (Y hi g5 g7 : Nat) (a5 a7 : Option Addr) (c5 c7 : Nat) (iv fv wv : Value) (m k : Nat) (w : World) : Prop where
  jp : JP B W1 Y hi 2 iv fv wv (.slice none 0 0) .nilIface (.slice none 0 0) (.pointer none) w
  room : At w Y 0 [.int .i64 B.off, .bool B.dist, iv, fv, wv, .slice a5 m c5, .nilIface, .slice a7 k c7, .pointer none]
  grp : RowR (pGrp (dOf B)) (NewO Y g5 g7) g5 (dOf B).nGrp m w
  ord : RowR (pOrd (dOf B)) (NewO Y g5 g7) g7 B.nO k w

def gk (B : BlkD) (k : Nat) : Nat := if B.grp then k else 0

/-- Where the rows of the order and of the groups lie. -/
structure OrdSt (B : BlkD) (Y hi g5 g7 : Nat) (a5 a7 : Option Addr) (c5 c7 : Nat) : Prop where
  ne : g5 ≠ g7
  lo : hi ≤ g7
  cap7 : B.nO ≤ c7
  cap5 : (dOf B).nGrp ≤ c5
  none7 : B.onil = true → a7 = none ∧ a5 = none
  some7 : B.onil = false → a7 = some ⟨g7, 0, none⟩
  some5 : B.onil = false → B.grp = true → a5 = some ⟨g5, 0, none⟩ ∧ hi ≤ g5
  none5 : B.grp = false → a5 = none ∧ g5 = 0

theorem JO.ordStep {B : BlkD} {W1 : World} {Y hi g5 g7 c5 c7 m k cb : Nat} {a5 : Option Addr} {iv fv wv : Value} {wr w5 w7 : World} (hs1 : W1.heap.size ≤ Y) (jo : JO B W1 Y hi g5 g7 a5 (some ⟨g7, 0, none⟩) c5 c7 iv fv wv m k wr) (hk : k < B.nO) (h57 : g5 ≠ g7) (h7 : hi ≤ g7) (h5 : g5 < wr.heap.size) (h5Y : g5 ≠ Y)
    (kx : KeptX (fun _ => False) wr w5) (hc : ColAt w5 (wr.heap.size ≤ ·) cb (B.ord k) k) (hcb : wr.heap.size ≤ cb)
    (hw7 : w7 = ((w5.alloc (.cells #[.iface 29 (.pointer (some ⟨cb, 0, none⟩)), .int .i64 0] 70)).alloc (.cells #[.pointer (some ⟨w5.heap.size, 0, none⟩)] 66)).setCell ⟨g7, 0 + k, none⟩ (.pointer (some ⟨w5.heap.size, 0, none⟩))) :
    At w7 Y 0 [.int .i64 B.off, .bool B.dist, iv, fv, wv, .slice a5 m c5, .nilIface, .slice (some ⟨g7, 0, none⟩) k c7, .pointer none] ∧
      JO B W1 Y hi g5 g7 a5 (some ⟨g7, 0, none⟩) c5 c7 iv fv wv m (k + 1) (w7.setCell ⟨Y, 7, none⟩ (.slice (some ⟨g7, 0, none⟩) (k + 1) c7)) := by
  have hl := jo.jp.lo
  have hsz := jo.jp.size
  have g7l : g7 < wr.heap.size := by obtain ⟨x, hx⟩ := jo.ord.spare k hk; exact hx.lt
  have k5 := kx.size
  have ka : KeptX (fun _ => False) w5 (w5.alloc (.cells #[.iface 29 (.pointer (some ⟨cb, 0, none⟩)), .int .i64 0] 70)) := (KeptX.refl _ _).alloc _
  obtain ⟨r7, j9, r9, o9, oth⟩ := grow (pOrd_ok (dOf B)) (R := NewO Y g5 g7) (c := 7) (hdr := .slice (some ⟨g7, 0, none⟩) (k + 1) c7) hs1 jo.jp jo.room jo.ord hk h7 (fun b hb => ⟨hb.2.2, fun e => by have := hb.1; omega⟩) (kx.trans ka) hw7 (by simp) (fun w' kw hu => by
    have hx : ∀ b, wr.heap.size ≤ b → b < (w5.alloc (.cells #[.iface 29 (.pointer (some ⟨cb, 0, none⟩)), .int .i64 0] 70)).heap.size → ¬ b = g7 := fun b hb _ e => by omega
    have hr : ∀ b, wr.heap.size ≤ b → b < w'.heap.size → NewO Y g5 g7 b := fun b hb _ => ⟨by omega, by omega, by omega⟩
    have hcl := hc.lt
    exact ⟨w5.heap.size, _, ⟨by omega, by omega, by omega⟩, hu, (At.new w5 #[.iface 29 (.pointer (some ⟨cb, 0, none⟩)), .int .i64 0] 70).kept kw (by omega), .inr ⟨by omega, cb, ⟨by omega, by omega, by omega⟩, rfl, ((hc.kept ka (fun h => h) (fun _ _ _ h => h)).kept kw (by omega) hx).at hr⟩⟩)
  exact ⟨r7, j9, r9, oth _ (pGrp_ok _) g5 _ _ h57 h5Y jo.grp, o9⟩

theorem JO.grpStep {B : BlkD} {W1 : World} {Y hi g5 g7 c5 c7 m k cb : Nat} {a7 : Option Addr} {iv fv wv : Value} {wr w5 w7 : World} (hs1 : W1.heap.size ≤ Y) (jo : JO B W1 Y hi g5 g7 (some ⟨g5, 0, none⟩) a7 c5 c7 iv fv wv m k wr) (hk : m < (dOf B).nGrp) (h57 : g5 ≠ g7) (h7 : hi ≤ g5) (h5 : g7 < wr.heap.size) (h5Y : g7 ≠ Y)
    (kx : KeptX (fun _ => False) wr w5) (hc : ColAt w5 (wr.heap.size ≤ ·) cb (B.ord m) (m + 1)) (hcb : wr.heap.size ≤ cb)
    (hw7 : w7 = (w5.alloc (.cells #[.iface 29 (.pointer (some ⟨cb, 0, none⟩))] 50)).setCell ⟨g5, 0 + m, none⟩ (.iface 29 (.pointer (some ⟨cb, 0, none⟩)))) :
    At w7 Y 0 [.int .i64 B.off, .bool B.dist, iv, fv, wv, .slice (some ⟨g5, 0, none⟩) m c5, .nilIface, .slice a7 k c7, .pointer none] ∧
      JO B W1 Y hi g5 g7 (some ⟨g5, 0, none⟩) a7 c5 c7 iv fv wv (m + 1) k (w7.setCell ⟨Y, 5, none⟩ (.slice (some ⟨g5, 0, none⟩) (m + 1) c5)) := by
  have hl := jo.jp.lo
  have hsz := jo.jp.size
  have g7l : g5 < wr.heap.size := by obtain ⟨x, hx⟩ := jo.grp.spare m hk; exact hx.lt
  have k5 := kx.size
  obtain ⟨r7, j9, r9, o9, oth⟩ := grow (pGrp_ok (dOf B)) (R := NewO Y g5 g7) (c := 5) (hdr := .slice (some ⟨g5, 0, none⟩) (m + 1) c5) hs1 jo.jp jo.room jo.grp hk h7 (fun b hb => ⟨hb.2.1, fun e => by have := hb.1; omega⟩) kx hw7 (by simp) (fun w' kw hu => by
    have hx : ∀ b, wr.heap.size ≤ b → b < w5.heap.size → ¬ b = g5 := fun b hb _ e => by omega
    have hr : ∀ b, wr.heap.size ≤ b → b < w'.heap.size → NewO Y g5 g7 b := fun b hb _ => ⟨by omega, by omega, by omega⟩
    exact ⟨_, hu, .inr ⟨by omega, cb, ⟨by omega, by omega, by omega⟩, rfl, (hc.kept kw (by omega) hx).at hr⟩⟩)
  exact ⟨r7, j9, r9, o9, oth _ (pOrd_ok _) g7 _ _ (Ne.symm h57) h5Y jo.ord⟩

theorem JO.through {B : BlkD} {W1 : World} {Y hi g5 g7 c5 c7 : Nat} {a5 a7 : Option Addr} {iv fv wv : Value} {w : World} (jo : JO B W1 Y hi g5 g7 a5 a7 c5 c7 iv fv wv (gk B B.nO) B.nO w) (os : OrdSt B Y hi g5 g7 a5 a7 c5 c7) (hnil : B.onil = true → B.nO = 0) :
    JP B W1 Y w.heap.size 3 iv fv wv (.slice a5 (gk B B.nO) c5) .nilIface (.slice a7 B.nO c7) (.pointer none) w := by
  have hl := jo.jp.lo
  have hlo := os.lo
  refine (jo.jp.raise jo.jp.size (Nat.le_refl _)).to3 _ _ ?_ ?_
  · cases ho : B.onil with
    | true =>
      obtain ⟨rfl, _⟩ := os.none7 ho
      exact ⟨none, c7, rfl, rfl, fun i hi => by have := hnil ho; omega⟩
    | false =>
      obtain rfl := os.some7 ho
      exact jo.ord.through (pOrd_ok _) (fun b hb => hb.1) (by omega) c7
  · show RowF (pGrp (dOf B)) Y w.heap.size w (!(B.grp && !B.onil)) (gk B B.nO) (.slice a5 (gk B B.nO) c5)
    have hr := jo.grp
    have e1 : (dOf B).nGrp = gk B B.nO := rfl
    rw [e1] at hr
    cases hg : B.grp with
    | false =>
      obtain ⟨rfl, _⟩ := os.none5 hg
      have : gk B B.nO = 0 := by unfold gk; rw [hg]; rfl
      exact ⟨none, c5, rfl, rfl, fun i hi => by omega⟩
    | true =>
      cases ho : B.onil with
      | true =>
        obtain ⟨_, rfl⟩ := os.none7 ho
        have : gk B B.nO = 0 := by unfold gk; rw [hg, hnil ho]; rfl
        exact ⟨none, c5, rfl, rfl, fun i hi => by omega⟩
      | false =>
        obtain ⟨rfl, h5⟩ := os.some5 ho hg
        exact hr.through (pGrp_ok _) (fun b hb => hb.1) (by omega) c5

/-- New blocks, and a store into the block's own cell. -/
theorem JP.store {B : BlkD} {W1 : World} {Y hi n : Nat} {iv fv wv gv hv ov lv : Value} {w wl : World} (j : JP B W1 Y hi n iv fv wv gv hv ov lv w) (k : KeptX (fun _ => False) w wl) (hs1 : W1.heap.size ≤ Y) (c : Nat) (hdr : Value) : JP B W1 Y wl.heap.size n iv fv wv gv hv ov lv (wl.setCell ⟨Y, c, none⟩ hdr) :=
  ((j.new k hs1).fp (Fp.set (co := c) (l := 1) _ _ ⟨by omega, by omega⟩ _) (.inl rfl) hs1).raise (Nat.le_trans j.size k.size) (by simp)

end Go.Proofs.Ybulkaq
