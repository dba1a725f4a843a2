/-
  'zzs0003abuild' BY ITS CONTRACT.
-/
import Derived.Test.YbulkaqBuildSt2
import Derived.Test.YbulkaqSelOk
import Derived.Laws.Concat
import Derived.Test.YbulkaqLate
namespace Go.Proofs.Ybulkaq
open Go.RowKit
set_option linter.unusedVariables false

theorem refsOf_le (k : Nat) : refsOf k ≤ 1 := by unfold refsOf; split <;> omega
theorem subsOf_le (k : Nat) : subsOf k ≤ 1 := by unfold subsOf; split <;> omega
theorem refsTo_le (D : SelD) (k : Nat) : refsTo D k ≤ k := by
  induction k with
  | zero => exact Nat.le_refl _
  | succ k ih => simp only [refsTo]; unfold refsOf; split <;> omega
theorem subsTo_le (D : SelD) (k : Nat) : subsTo D k ≤ k := by
  induction k with
  | zero => exact Nat.le_refl _
  | succ k ih => simp only [subsTo]; unfold subsOf; split <;> omega

theorem Ex.isIface {W : World} {R : Nat → Prop} {v : Value} {k : Nat} {nm : ByteArray} {n : Nat} (h : Ex W R v k nm n) (hk : k < 4) : ∃ t p, v = .iface t p := by
  rcases h with ⟨_, b, s, _, _, hv, _⟩ | ⟨h3, h⟩
  · exact ⟨_, _, hv⟩
  · match k, h with
    | 0, ⟨b, _, hv, _⟩ => exact ⟨_, _, hv⟩
    | 1, ⟨b, _, hv, _⟩ => exact ⟨_, _, hv⟩
    | 2, ⟨b, x, y, _, _, _, hv, _⟩ => exact ⟨_, _, hv⟩
    | 3, h => exact h.elim
    | j + 4, _ => exact absurd hk (by omega)

theorem own_lt {w : World} {base g n cap : Nat} {e : TypeId} {xs : List Value} (h : w.ownsRow base e 1 (.slice (some ⟨g, 0, none⟩) n cap) n xs) : g < w.heap.size := by
  rcases h.2 with ⟨h1, h2⟩ | ⟨g', cap', cur, h1, h2, h3, h4, h5, h6, h7⟩
  · simp at h1
  · obtain ⟨rfl, rfl⟩ : g = g' ∧ cap = cap' := by simpa using h1
    exact At.lt (o := 0) (vs := []) ⟨cur, e, h3, fun j v hj => by simp at hj⟩

structure JA (B : BlkD) (W1 : World) (Y g : Nat) (ao : Option Addr) (cap k : Nat) (w : World) : Prop where
  kept : KeptX (fun _ => False) W1 w
  room : At w Y 0 [.int .i64 B.off, .bool B.dist, .slice ao k cap, .slice none 0 0, .nilIface, .slice none 0 0, .nilIface, .slice none 0 0, .pointer none]
  row : RowG (pItem (dOf B)) Y g B.nI k w

set_option maxRecDepth 100000 in
set_option maxHeartbeats 20000000 in
theorem build_ok {W : World} (B : BlkD) {vI vT vO : Value} (hI : ItemsAt W vI B) (hT : StrsAt W vT B.tnil B.nT B.tabs) (hO : StrsAt W vO B.onil B.nO B.ord) (hwk : B.wk < 256) :
    Calls Yba.prog 5 #[.agg #[.int .i64 B.off, .bool B.dist, vI, vT, .int .u8 B.wk, .string B.wn, vO, .bool B.grp, .bool B.lim, .string B.cnt, .bool B.hasOff, .string B.offS]] W fun e w' =>
      ∃ s, e = .returned (.tuple #[.pointer (some ⟨s, 0, none⟩), .int .i64 (refsD (dOf B)), .int .i64 (subsD (dOf B))]) ∧ W.heap.size ≤ s ∧ SelIn w' (W.heap.size ≤ ·) (Ex w' (W.heap.size ≤ ·)) s (dOf B) ∧ KeptX (fun _ => False) W w' := by
  obtain ⟨iao, icp, rfl, iz, iN, iE⟩ := hI
  obtain ⟨tao, tcp, rfl, tz, tN, tE⟩ := hT
  obtain ⟨oao, ocp, rfl, oz, oN, oE⟩ := hO
  obtain ⟨W1, hW1⟩ : ∃ W1, W1 = W.alloc (.cells #[.int .i64 B.off, .bool B.dist, .slice iao B.nI icp, .slice tao B.nT tcp, .int .u8 B.wk, .string B.wn, .slice oao B.nO ocp, .bool B.grp, .bool B.lim, .string B.cnt, .bool B.hasOff, .string B.offS] 25) := ⟨_, rfl⟩
  have HW : Hid (W1 = W.alloc (.cells #[.int .i64 B.off, .bool B.dist, .slice iao B.nI icp, .slice tao B.nT tcp, .int .u8 B.wk, .string B.wn, .slice oao B.nO ocp, .bool B.grp, .bool B.lim, .string B.cnt, .bool B.hasOff, .string B.offS] 25)) := hW1
  obtain ⟨Y, hYd⟩ : ∃ Y, Y = W.heap.size + 1 := ⟨_, rfl⟩
  have hs1 : W1.heap.size = Y := by rw [hW1, hYd]; simp
  have hYW : W.heap.size < Y := by omega
  have kO : KeptX (fun _ => False) W W1 := by rw [hW1]; exact (KeptX.refl _ W).alloc _
  have bx1 : At W1 W.heap.size 0 [.int .i64 B.off, .bool B.dist, .slice iao B.nI icp, .slice tao B.nT tcp, .int .u8 B.wk, .string B.wn, .slice oao B.nO ocp, .bool B.grp, .bool B.lim, .string B.cnt, .bool B.hasOff, .string B.offS] := by rw [hW1]; exact At.new W #[.int .i64 B.off, .bool B.dist, .slice iao B.nI icp, .slice tao B.nT tcp, .int .u8 B.wk, .string B.wn, .slice oao B.nO ocp, .bool B.grp, .bool B.lim, .string B.cnt, .bool B.hasOff, .string B.offS] 25
  have bx : ∀ w', KeptX (fun _ => False) W1 w' → At w' W.heap.size 0 _ := fun w' k => bx1.kept k (fun h => h)
  clear hW1 hYd
  have c0 := bx1.cell (j := 0) rfl
  have c1 := bx1.cell (j := 1) rfl
  simp only [Nat.zero_add] at c0 c1
  go_enter Yba.func5, Yba.ntmps5
  go_upto_region 1 with fail
  rw [← HW.out]
  obtain ⟨arg, harg⟩ : ∃ a, a = Value.agg #[.int .i64 B.off, .bool B.dist, .slice iao B.nI icp, .slice tao B.nT tcp, .int .u8 B.wk, .string B.wn, .slice oao B.nO ocp, .bool B.grp, .bool B.lim, .string B.cnt, .bool B.hasOff, .string B.offS] := ⟨_, rfl⟩
  rw [← harg]
  clear harg
  go_upto_region 3 with fail
  obtain ⟨w2, hw2⟩ : ∃ w2, w2 = W1.alloc (.cells #[.int .i64 B.off, .bool B.dist, .slice none 0 0, .slice none 0 0, .nilIface, .slice none 0 0, .nilIface, .slice none 0 0, .pointer none] 55) := ⟨_, rfl⟩
  rw [← hw2]
  have k2 : KeptX (fun _ => False) W1 w2 := by rw [hw2]; exact (KeptX.refl _ _).alloc _
  have room2 : At w2 Y 0 [.int .i64 B.off, .bool B.dist, .slice none 0 0, .slice none 0 0, .nilIface, .slice none 0 0, .nilIface, .slice none 0 0, .pointer none] := by
    have := At.new W1 #[.int .i64 B.off, .bool B.dist, .slice none 0 0, .slice none 0 0, .nilIface, .slice none 0 0, .nilIface, .slice none 0 0, .pointer none] 55
    rw [← hw2, hs1] at this
    exact this
  have hsz2 : w2.heap.size = Y + 1 := by rw [hw2]; simp [hs1]
  clear hw2 c0 c1 HW bx1
  have c2 := (bx _ k2).cell (j := 2) rfl
  have d2 := room2.cell (j := 2) rfl
  have f2 := room2.frozen 2
  simp only [Nat.zero_add] at c2 d2
  go_upto_if 30 with fail
  go_cut [] (fun wx => ∃ g ao cap, ((B.inil = true ∧ ao = none) ∨ (B.inil = false ∧ ao = some ⟨g, 0, none⟩)) ∧ Y + 1 ≤ g ∧ B.nI ≤ cap ∧ JA B W1 Y g ao cap 0 wx)
  case first =>
    as_aux_lemma =>
      cases iao with
      | none =>
        have hn0 : B.nI = 0 := by
          rcases Nat.eq_zero_or_pos B.nI with h | h
          · exact h
          · obtain ⟨g, o, h2, _⟩ := iE 0 h; cases h2
        have inil : B.inil = true := by simpa using iz.symm
        clear iz
        rw [show (!B.inil) = false by simp [inil]]
        go_wp2_with fail
        go_meet
        case rel => exact ⟨Y + 1, none, 0, .inl ⟨inil, rfl⟩, Nat.le_refl _, by omega, k2, room2, fun m hm => by omega, fun i hi => by omega⟩
      | some iad =>
        have inil : B.inil = false := by simpa using iz.symm
        clear iz
        rw [show (!B.inil) = true by simp [inil]]
        obtain ⟨i0, hi0, hz0, hz1, hz2⟩ := info_parts Yba.info60
        go_wp2_with (first | (at_make; refine wpList_make_own _ rfl _ _ 47 rfl (Y + 1) 60 i0 (.pointer none) 1 Yba.underlying47 hi0 hz0 hz1 _ _ _ B.nI rfl rfl rfl (by rw [hz2]; omega) (by unfold maxLen; omega) (by omega) ?_; intro w3 hown hgrow; have room3 := room2.kept (KeptX.of_grown (X := fun _ => False) hgrow) (fun h => h); have d3 := room3.cell (j := 2) rfl; have f3 := room3.frozen 2; simp only [Nat.zero_add] at d3) | fail)
        go_meet
        case rel =>
          rw [hsz2] at hown
          have k3 : KeptX (fun _ => False) w2 w3 := KeptX.of_grown hgrow
          have s4 : Fp Y 2 1 w3 (w3.setCell ⟨Y, 2, none⟩ (.slice (some ⟨Y + 1, 0, none⟩) 0 B.nI)) := Fp.set _ _ ⟨by omega, by omega⟩ _
          refine ⟨Y + 1, some ⟨Y + 1, 0, none⟩, B.nI, .inr ⟨inil, rfl⟩, Nat.le_refl _, Nat.le_refl _, Fp.from (k2.trans k3) s4 (by omega), room3.put 2 (by simp) _, fun m hm => ?_, fun i hi => by omega⟩
          obtain ⟨x, hx⟩ := own_spare hown m hm
          exact ⟨x, s4.at hx (fun e => by omega)⟩
  case rest =>
    obtain ⟨g, ao, cap, hao, hgY, hcap, ja0⟩ := hcut
    clear k2 room2 hsz2 f2 c2 d2
    as_aux_lemma =>
      have c2 := (bx _ ja0.kept).cell (j := 2) rfl
      simp only [Nat.zero_add] at c2
      go_wp2_with fail
      clear c2
      go_loopw [6, 7, 41] (fun s6 s7 i wr => ∃ k : Nat, k ≤ B.nI ∧ i = .int .i64 k ∧ s6 = .int .i64 (refsTo (dOf B) k) ∧ s7 = .int .i64 (subsTo (dOf B) k) ∧ JA B W1 Y g ao cap k wr) (fun _ _ i _ => B.nI - (intOf i).toNat)
      case atStart => exact ⟨0, by omega, rfl, rfl, rfl, ja0⟩
      case round =>
        obtain ⟨k, hkn, rfl, rfl, rfl, ja⟩ := hrel
        clear ja0
        by_cases hlt : k < B.nI
        ·
          as_aux_lemma =>
            obtain ⟨g0, o0, had, ai, hk256⟩ := iE k hlt
            subst had
            have inil : B.inil = false := by simpa using iz.symm
            clear iz
            obtain rfl : ao = some ⟨g, 0, none⟩ := by
              rcases hao with ⟨h, _⟩ | ⟨_, h⟩
              · rw [inil] at h; cases h
              · exact h
            have ai' := ai.kept (kO.trans ja.kept) (fun h => h)
            have e0 := ai'.cell (j := 0) rfl
            have e1 := ai'.cell (j := 1) rfl
            have e2 := ai'.cell (j := 2) rfl
            have e3 := ai'.cell (j := 3) rfl
            have e4 := ai'.cell (j := 4) rfl
            have hk1 : (k : Int) < (B.nI : Int) := by omega
            simp only [Nat.add_zero] at e0
            have hrem : ((B.items k).k : Int).tmod 4 = (((B.items k).k % 4 : Nat) : Int) := by rw [Int.tmod_eq_emod_of_nonneg (by omega)]; omega
            have hYl := ja.room.lt
            have hr6 : wrap64 ((refsTo (dOf B) k : Int) + (refsOf ((B.items k).k % 4) : Int)) = ((refsTo (dOf B) (k + 1) : Nat) : Int) := by
              have h1 : refsTo (dOf B) (k + 1) = refsTo (dOf B) k + refsOf ((B.items k).k % 4) := rfl
              have h2 := refsTo_le (dOf B) (k + 1)
              rw [IntWalk.wrap64_in _ ⟨by omega, by omega⟩]; omega
            have hr7 : wrap64 ((subsTo (dOf B) k : Int) + (subsOf ((B.items k).k % 4) : Int)) = ((subsTo (dOf B) (k + 1) : Nat) : Int) := by
              have h1 : subsTo (dOf B) (k + 1) = subsTo (dOf B) k + subsOf ((B.items k).k % 4) := rfl
              have h2 := subsTo_le (dOf B) (k + 1)
              rw [IntWalk.wrap64_in _ ⟨by omega, by omega⟩]; omega
            obtain ⟨lc, hlc⟩ : ∃ lc, wr.heap.size = lc := ⟨_, rfl⟩
            go_upto_if 69 with (first | (go_at_call 11; refine (mk_ok ((B.items k).k % 4) (B.items k).nm k _ (by omega) (by omega)).mono ?_; rintro e w5 ⟨v, rfl, hv, hbv⟩; obtain ⟨vt, vp, rfl⟩ := hv.isIface (by omega); have a5 := (At.new wr #[.int .u8 (B.items k).k, .string (B.items k).nm, .bool (B.items k).ha, .string (B.items k).al, .string (B.items k).text] 57).same (hbv.block _ (by simp)); rw [hlc] at a5; have z2 := a5.cell (j := 2) rfl; have z3 := a5.cell (j := 3) rfl; have z4 := a5.cell (j := 4) rfl; have zl := a5.lt; simp only [Nat.zero_add] at z2 z3 z4) | fail)
            rw [hr6, hr7]
            -- BEHIND 'si := &SelectItem{..}'
            obtain ⟨ib, hib⟩ : ∃ ib, w5.heap.size = ib := ⟨_, rfl⟩
            rw [hib]
            obtain ⟨w6, hw6⟩ : ∃ w6, w6 = w5.alloc (.cells #[.iface vt vp, .pointer none, .string (B.items k).text] 62) := ⟨_, rfl⟩
            rw [← hw6]
            have a6 : At w6 ib 0 [.iface vt vp, .pointer none, .string (B.items k).text] := by
              have := At.new w5 #[.iface vt vp, .pointer none, .string (B.items k).text] 62
              rw [← hw6, hib] at this
              exact this
            have kf6 : KeptX (fun _ => False) w5 w6 := by rw [hw6]; exact (KeptX.refl _ _).alloc _
            have k5 : KeptX (fun _ => False) wr w5 := ((KeptX.refl _ wr).alloc _).trans (KeptX.of_below hbv)
            have k6 : KeptX (fun _ => False) wr w6 := k5.trans kf6
            have hs5 := hbv.size
            simp only [World.size_alloc] at hs5 hv
            have v6 : Ex w6 (fun b => lc ≤ b ∧ b ≠ ib) (.iface vt vp) ((B.items k).k % 4) (B.items k).nm k := (hv.at (fun b (hb : wr.heap.size + 1 ≤ b) hl => ⟨by omega, by omega⟩)).kept kf6 (fun _ _ _ h => h)
            have a6l := a5.kept kf6 (fun h => h)
            clear hw6 hv hbv kf6 k5 z2 z3 z4 a5 e0 e1 e2 e3 e4 hr6 hr7 hrem
            have z2 := a6l.cell (j := 2) rfl
            have z3 := a6l.cell (j := 3) rfl
            have x1 := a6.cell (j := 1) rfl
            have f1 := a6.frozen 1
            simp only [Nat.zero_add] at z2 z3 x1
            have hbl6 := a6.lt
            go_cut [] (fun wx => ∃ av, av.oneCell' = true ∧ At wx ib 0 [.iface vt vp, av, .string (B.items k).text] ∧ IdPtr wx (fun b => lc ≤ b ∧ b ≠ ib) av ((dOf B).items k).al ∧ Ex wx (fun b => lc ≤ b ∧ b ≠ ib) (.iface vt vp) ((B.items k).k % 4) (B.items k).nm k ∧ KeptX (fun _ => False) wr wx)
            case first =>
              have alD : ((dOf B).items k).al = if (B.items k).ha then some ((B.items k).al, ⟨#[]⟩, (k : Int)) else none := rfl
              cases hha : (B.items k).ha with
              | false =>
                rw [hha] at z2 alD
                go_wp2_with fail
                go_meet
                case rel => exact ⟨.pointer none, rfl, a6, by rw [alD]; rfl, v6, k6⟩
              | true =>
                rw [hha] at z2 alD
                have alFin : ∀ wF, wF = (w6.alloc (.cells #[.string (B.items k).al, .string ⟨#[]⟩, .int .i64 k] 32)).setCell ⟨ib, 1, none⟩ (.pointer (some ⟨w6.heap.size, 0, none⟩)) → ∃ av, Value.oneCell' av = true ∧ At wF ib 0 [.iface vt vp, av, .string (B.items k).text] ∧ IdPtr wF (fun b => lc ≤ b ∧ b ≠ ib) av ((dOf B).items k).al ∧ Ex wF (fun b => lc ≤ b ∧ b ≠ ib) (.iface vt vp) ((B.items k).k % 4) (B.items k).nm k ∧ KeptX (fun _ => False) wr wF := by
                  intro wF hF
                  subst hF
                  have ka : KeptX (fun _ => False) w6 (w6.alloc (.cells #[.string (B.items k).al, .string ⟨#[]⟩, .int .i64 k] 32)) := (KeptX.refl _ _).alloc _
                  have ks := KeptX.set1 (w6.alloc (.cells #[.string (B.items k).al, .string ⟨#[]⟩, .int .i64 k] 32)) ib 1 (.pointer (some ⟨w6.heap.size, 0, none⟩))
                  have hk6 := k6.size
                  refine ⟨_, rfl, (a6.alloc _).put 1 (by simp) _, ?_, (v6.kept ka (fun _ _ _ h => h)).kept ks (fun b hb _ e => hb.2 e), (k6.trans ka).then ks (fun i hi e => by omega)⟩
                  rw [alD]
                  exact ⟨w6.heap.size, ⟨by omega, by omega⟩, rfl, (At.new w6 #[.string (B.items k).al, .string ⟨#[]⟩, .int .i64 k] 32).kept ks (by omega)⟩
                go_wp2_with fail
                go_meet
                case rel => exact alFin _ (by first | rfl | (go_simp; done))
            case rest =>
              obtain ⟨av, avone, a7, i7, v7, k7⟩ := hcut
              clear a6 v6 k6 a6l z2 z3 x1 f1 hbl6 ai'
              obtain ⟨i0, hi0, hz0, hz1, hz2⟩ := info_parts Yba.info60
              have hgl : g < wr.heap.size := by obtain ⟨x, hx⟩ := ja.row.spare k hlt; exact hx.lt
              have r7 := ja.room.kept k7 (fun h => h)
              have k7s := k7.size
              have row7 := ja.row.fp (pItem_ok _) (Fp.of_kept (cb := Y) (co := 0) (l := 0) k7) (.inl rfl) hgY hgl
              obtain ⟨yy, hyy⟩ := row7.spare k hlt
              obtain ⟨w8, hw8⟩ : ∃ w8, w8 = (wc.alloc (.cells #[.pointer (some ⟨ib, 0, none⟩)] 60)).setCell ⟨g, 0 + k, none⟩ (.pointer (some ⟨ib, 0, none⟩)) := ⟨_, rfl⟩
              have HW8 : Hid (w8 = (wc.alloc (.cells #[.pointer (some ⟨ib, 0, none⟩)] 60)).setCell ⟨g, 0 + k, none⟩ (.pointer (some ⟨ib, 0, none⟩))) := hw8
              have ka : KeptX (fun _ => False) wc (wc.alloc (.cells #[.pointer (some ⟨ib, 0, none⟩)] 60)) := (KeptX.refl _ _).alloc _
              have r8 : At w8 Y 0 [.int .i64 B.off, .bool B.dist, .slice (some ⟨g, 0, none⟩) k cap, .slice none 0 0, .nilIface, .slice none 0 0, .nilIface, .slice none 0 0, .pointer none] := by
                rw [hw8]; exact (r7.alloc _).apart (.inl (by omega)) _
              have ks8 : KeptX (fun b => b = g) (wc.alloc (.cells #[.pointer (some ⟨ib, 0, none⟩)] 60)) w8 := by rw [hw8]; exact KeptX.set1 _ _ _ _
              have ha7 := a7.lt
              have rowA := row7.fp (pItem_ok _) (Fp.of_kept (cb := Y) (co := 0) (l := 0) ka) (.inl rfl) hgY (by omega)
              have row8 : RowG (pItem (dOf B)) Y g B.nI (k + 1) w8 := rowA.put (pItem_ok _) hlt (by rw [hw8, Nat.zero_add]) (fun hu => ⟨ib, .iface vt vp, av, ⟨by omega, by omega⟩, hu, (a7.alloc _).kept ks8 (by omega), ((v7.kept ka (fun _ _ _ h => h)).kept ks8 (fun b hb _ e => by have := hb.1; omega)).at (fun b hb _ => ⟨by have := hb.1; omega, by have := hb.1; omega⟩), ((i7.kept ka (fun _ _ _ h => h)).kept ks8 (fun b hb _ e => by have := hb.1; omega)).at (fun b hb _ => ⟨by have := hb.1; omega, by have := hb.1; omega⟩)⟩)
              have k8 : KeptX (fun _ => False) W1 w8 := (ja.kept.trans (k7.trans ka)).then ks8 (fun i hi e => by omega)
              have hg8 : g < w8.heap.size := by have := ks8.size; have := ka.size; omega
              clear hw8
              have s9 : Fp Y 2 1 w8 (w8.setCell ⟨Y, 2, none⟩ (.slice (some ⟨g, 0, none⟩) (k + 1) cap)) := Fp.set _ _ ⟨by omega, by omega⟩ _
              have ja9 : JA B W1 Y g (some ⟨g, 0, none⟩) cap (k + 1) (w8.setCell ⟨Y, 2, none⟩ (.slice (some ⟨g, 0, none⟩) (k + 1) cap)) := ⟨Fp.from k8 s9 (by omega), r8.put 2 (by simp) _, row8.fp (pItem_ok _) s9 (.inl rfl) hgY hg8⟩
              have y2 := r7.cell (j := 2) rfl
              have y7 := r8.cell (j := 2) rfl
              have y8 := r8.frozen 2
              simp only [Nat.zero_add] at y2 y7
              have hyy' : At wc g (0 + k) [yy] := by rw [Nat.zero_add]; exact hyy
              clear ja row7 rowA row8 k8 s9 ks8 ka r8 hyy
              go_wp2_with (first | (at_builtin; refine wpList_append_at _ rfl (.tmp 82) (.tmp 84) 47 rfl 60 i0 Yba.underlying47 hi0 hz1 g 0 k cap rfl wc.heap.size 1 (.pointer (some ⟨ib, 0, none⟩)) rfl (At.new wc #[.pointer (some ⟨ib, 0, none⟩)] 60) rfl (by omega) yy (hyy'.alloc _) w8 HW8.out ?_) | fail)
              go_roundw
              case rel => exact ⟨k + 1, by omega, by go_num, rfl, rfl, ja9⟩
              case measure => simp [intOf]; omega
        · obtain rfl : k = B.nI := by omega
          have hYl := ja.room.lt
          have hs1' : W1.heap.size ≤ Y := by omega
          have itF : RowF (pItem (dOf B)) Y wr.heap.size wr B.inil B.nI (.slice ao B.nI cap) := by
            rcases hao with ⟨h, rfl⟩ | ⟨h, rfl⟩
            · exact ⟨none, cap, rfl, h.symm, fun i hi => by obtain ⟨g, o, h2, _⟩ := iE i hi; rw [h2] at iz; rw [← iz] at h; cases h⟩
            · rw [h]; exact ja.row.through (pItem_ok _) hgY cap
          obtain ⟨iv, hiv⟩ : ∃ iv, iv = Value.slice ao B.nI cap := ⟨_, rfl⟩
          have room1 := ja.room
          rw [← hiv] at itF room1
          obtain ⟨hi, hhi⟩ : ∃ hi, wr.heap.size = hi := ⟨_, rfl⟩
          rw [hhi] at itF hYl
          have jp1 : JP B W1 Y hi 0 iv (.slice none 0 0) .nilIface (.slice none 0 0) .nilIface (.slice none 0 0) (.pointer none) wr := ⟨ja.kept, by omega, by omega, itF, fun h => absurd h (by omega), fun h => absurd h (by omega), fun h => absurd h (by omega), fun h => absurd h (by omega), fun h => absurd h (by omega), fun h => absurd h (by omega)⟩
          clear ja itF hiv hao hgY hcap iE iz
          obtain ⟨R1, hR1⟩ : ∃ R1, refsTo (dOf B) B.nI = R1 := ⟨_, rfl⟩
          obtain ⟨S1, hS1⟩ : ∃ S1, subsTo (dOf B) B.nI = S1 := ⟨_, rfl⟩
          have hR1l : R1 ≤ 300 := by have := refsTo_le (dOf B) B.nI; omega
          have hS1l : S1 ≤ 300 := by have := subsTo_le (dOf B) B.nI; omega
          rw [hR1, hS1]
          have c3 := (bx _ jp1.kept).cell (j := 3) rfl
          simp only [Nat.zero_add] at c3
          go_upto_if 91 with fail
          go_cut [] (fun wx => ∃ g ao cap, ((B.tnil = true ∧ ao = none) ∨ (B.tnil = false ∧ ao = some ⟨g, 0, none⟩)) ∧ hi ≤ g ∧ B.nT ≤ cap ∧ JT B W1 Y hi g ao cap iv 0 wx)
          case first =>
            as_aux_lemma =>
              have d3 := room1.cell (j := 3) rfl
              have f3 := room1.frozen 3
              simp only [Nat.zero_add] at d3
              cases tao with
              | none =>
                have hn0 : B.nT = 0 := by
                  rcases Nat.eq_zero_or_pos B.nT with h | h
                  · exact h
                  · obtain ⟨g, o, h2, _⟩ := tE 0 h; cases h2
                have tnil : B.tnil = true := by simpa using tz.symm
                clear tz
                rw [show (!B.tnil) = false by simp [tnil]]
                go_wp2_with fail
                go_meet
                case rel => exact ⟨hi, none, 0, .inl ⟨tnil, rfl⟩, Nat.le_refl _, by omega, jp1, room1, fun m hm => by omega, fun i hi => by omega⟩
              | some tad =>
                have tnil : B.tnil = false := by simpa using tz.symm
                clear tz
                rw [show (!B.tnil) = true by simp [tnil]]
                obtain ⟨i0, hi0, hz0, hz1, hz2⟩ := info_parts Yba.info80
                go_wp2_with (first | (at_make; refine wpList_make_own _ rfl _ _ 48 rfl hi 80 i0 .nilIface 1 Yba.underlying48 hi0 hz0 hz1 _ _ _ B.nT rfl rfl rfl (by rw [hz2]; omega) (by unfold maxLen; omega) (by omega) ?_; intro w3 hown hgrow; have room3 := room1.kept (KeptX.of_grown (X := fun _ => False) hgrow) (fun h => h); have d4 := room3.cell (j := 3) rfl; have f4 := room3.frozen 3; simp only [Nat.zero_add] at d4) | fail)
                go_meet
                case rel =>
                  rw [hhi] at hown
                  have k3 : KeptX (fun _ => False) wr w3 := KeptX.of_grown hgrow
                  have s4 : Fp Y 3 1 w3 (w3.setCell ⟨Y, 3, none⟩ (.slice (some ⟨hi, 0, none⟩) 0 B.nT)) := Fp.set _ _ ⟨by omega, by omega⟩ _
                  refine ⟨hi, some ⟨hi, 0, none⟩, B.nT, .inr ⟨tnil, rfl⟩, Nat.le_refl _, Nat.le_refl _, (jp1.new k3 hs1').fp s4 (.inl rfl) hs1', room3.put 3 (by simp) _, fun m hm => ?_, fun i hi => by omega⟩
                  obtain ⟨x, hx⟩ := own_spare hown m hm
                  exact ⟨x, s4.at hx (fun e => by omega)⟩
          case rest =>
            obtain ⟨gT, aT, cT, haT, hgT, hcT, jt0⟩ := hcut
            clear jp1 room1 c3
            as_aux_lemma =>
              have c3 := (bx _ jt0.jp.kept).cell (j := 3) rfl
              simp only [Nat.zero_add] at c3
              go_wp2_with fail
              clear c3
              go_loopw [102] (fun i wr => ∃ k : Nat, k ≤ B.nT ∧ i = .int .i64 k ∧ JT B W1 Y hi gT aT cT iv k wr) (fun i _ => B.nT - (intOf i).toNat)
              case atStart => exact ⟨0, by omega, rfl, jt0⟩
              case round =>
                obtain ⟨k, hkn, rfl, jt⟩ := hrel
                clear jt0
                by_cases hlt : k < B.nT
                ·
                  as_aux_lemma =>
                    obtain ⟨g0, o0, had, ai, hts⟩ := tE k hlt
                    subst had
                    have tnil : B.tnil = false := by simpa using tz.symm
                    clear tz
                    obtain rfl : aT = some ⟨gT, 0, none⟩ := by
                      rcases haT with ⟨h, _⟩ | ⟨_, h⟩
                      · rw [tnil] at h; cases h
                      · exact h
                    have ai' := ai.kept (kO.trans jt.jp.kept) (fun h => h)
                    have e0 := ai'.cell (j := 0) rfl
                    have hk1 : (k : Int) < (B.nT : Int) := by omega
                    simp only [Nat.add_zero] at e0
                    have hYl := jt.room.lt
                    have hlo := jt.jp.lo
                    obtain ⟨tb, htb⟩ : ∃ tb, wr.heap.size = tb := ⟨_, rfl⟩
                    go_upto_if 115 with fail
                    obtain ⟨w6, hw6⟩ : ∃ w6, w6 = wr.alloc (.cells #[.string (B.tabs k), .string ⟨#[]⟩, .int .i64 k, .pointer none] 65) := ⟨_, rfl⟩
                    rw [← hw6]
                    have a6 : At w6 tb 0 [.string (B.tabs k), .string ⟨#[]⟩, .int .i64 k, .pointer none] := by
                      have := At.new wr #[.string (B.tabs k), .string ⟨#[]⟩, .int .i64 k, .pointer none] 65
                      rw [← hw6, htb] at this
                      exact this
                    have k6 : KeptX (fun _ => False) wr w6 := by rw [hw6]; exact (KeptX.refl _ _).alloc _
                    clear hw6 e0
                    have x3 := a6.cell (j := 3) rfl
                    have f3 := a6.frozen 3
                    simp only [Nat.zero_add] at x3
                    have hbl6 := a6.lt
                    go_cut [] (fun wx => ∃ av, At wx tb 0 [.string (B.tabs k), .string ⟨#[]⟩, .int .i64 k, av] ∧ IdPtr wx (fun b => tb ≤ b ∧ b ≠ tb) av ((dOf B).tabs k).al ∧ KeptX (fun _ => False) wr wx)
                    case first =>
                      have alD : ((dOf B).tabs k).al = if (B.tabs k).size % 2 = 1 then some (B.tabs k ++ ⟨#[120]⟩, ⟨#[]⟩, (k : Int)) else none := rfl
                      by_cases hm : (B.tabs k).size % 2 = 1
                      · have hm' : ((B.tabs k).size : Int).tmod 2 = 1 := by rw [Int.tmod_eq_emod_of_nonneg (by omega)]; omega
                        rw [if_pos hm] at alD
                        have alFin : ∀ wF, wF = (w6.alloc (.cells #[.string (B.tabs k ++ ⟨#[120]⟩), .string ⟨#[]⟩, .int .i64 k] 32)).setCell ⟨tb, 3, none⟩ (.pointer (some ⟨w6.heap.size, 0, none⟩)) → ∃ av, At wF tb 0 [.string (B.tabs k), .string ⟨#[]⟩, .int .i64 k, av] ∧ IdPtr wF (fun b => tb ≤ b ∧ b ≠ tb) av ((dOf B).tabs k).al ∧ KeptX (fun _ => False) wr wF := by
                          intro wF hF
                          subst hF
                          have ka : KeptX (fun _ => False) w6 (w6.alloc (.cells #[.string (B.tabs k ++ ⟨#[120]⟩), .string ⟨#[]⟩, .int .i64 k] 32)) := (KeptX.refl _ _).alloc _
                          have ks := KeptX.set1 (w6.alloc (.cells #[.string (B.tabs k ++ ⟨#[120]⟩), .string ⟨#[]⟩, .int .i64 k] 32)) tb 3 (.pointer (some ⟨w6.heap.size, 0, none⟩))
                          refine ⟨_, (a6.alloc _).put 3 (by simp) _, ?_, (k6.trans ka).then ks (fun i hi e => by omega)⟩
                          rw [alD]
                          exact ⟨w6.heap.size, ⟨by omega, by omega⟩, rfl, (At.new w6 #[.string (B.tabs k ++ ⟨#[120]⟩), .string ⟨#[]⟩, .int .i64 k] 32).kept ks (by omega)⟩
                        have hsum : ∀ w, (Op.stringOp .add (B.tabs k) ⟨#[120]⟩).run Yba.prog w = .ok (.string (B.tabs k ++ ⟨#[120]⟩)) w := fun w => run_string_add_sum w _ _ (by show _ + 1 ≤ _; omega)
                        go_wp2_with (first | rw [hsum] | fail)
                        go_meet
                        case rel => exact alFin _ (by first | rfl | (go_simp; done))
                      · have hm' : ¬ ((B.tabs k).size : Int).tmod 2 = 1 := by rw [Int.tmod_eq_emod_of_nonneg (by omega)]; omega
                        rw [if_neg hm] at alD
                        go_wp2_with fail
                        go_meet
                        case rel => exact ⟨.pointer none, a6, by rw [alD]; rfl, k6⟩
                    case rest =>
                      obtain ⟨av, a7, i7, k7⟩ := hcut
                      clear a6 k6 x3 f3 hbl6 ai'
                      obtain ⟨i0, hi0, hz0, hz1, hz2⟩ := info_parts Yba.info80
                      have hgl : gT < wr.heap.size := by obtain ⟨x, hx⟩ := jt.row.spare k hlt; exact hx.lt
                      have r7 := jt.room.kept k7 (fun h => h)
                      have k7s := k7.size
                      obtain ⟨yy, hyy⟩ : ∃ y, At wc gT (0 + k) [y] := by
                        obtain ⟨x, hx⟩ := jt.row.spare k hlt
                        exact ⟨x, by rw [Nat.zero_add]; exact hx.kept k7 (fun h => h)⟩
                      obtain ⟨w8, hw8⟩ : ∃ w8, w8 = (wc.alloc (.cells #[.iface 63 (.pointer (some ⟨tb, 0, none⟩))] 80)).setCell ⟨gT, 0 + k, none⟩ (.iface 63 (.pointer (some ⟨tb, 0, none⟩))) := ⟨_, rfl⟩
                      have HW8 : Hid (w8 = (wc.alloc (.cells #[.iface 63 (.pointer (some ⟨tb, 0, none⟩))] 80)).setCell ⟨gT, 0 + k, none⟩ (.iface 63 (.pointer (some ⟨tb, 0, none⟩)))) := hw8
                      have ha7 := a7.lt
                      obtain ⟨r8, j9, r9, o9, _⟩ := grow (pTab_ok (dOf B)) (R := NewR Y gT) (c := 3) (hdr := .slice (some ⟨gT, 0, none⟩) (k + 1) cT) hs1' jt.jp jt.room jt.row hlt hgT (fun b hb => ⟨hb.2, fun e => by have := hb.1; omega⟩) k7 hw8 (by simp) (fun w' kw hu => ⟨tb, av, ⟨by omega, by omega⟩, hu, a7.kept kw (by omega), (i7.kept kw (fun b hb _ e => by have := hb.1; omega)).at (fun b hb _ => ⟨by have := hb.1; omega, by have := hb.1; omega⟩)⟩)
                      have jt9 : JT B W1 Y hi gT (some ⟨gT, 0, none⟩) cT iv (k + 1) (w8.setCell ⟨Y, 3, none⟩ (.slice (some ⟨gT, 0, none⟩) (k + 1) cT)) := ⟨j9, r9, o9⟩
                      clear hw8 jt j9 r9 o9 i7 a7
                      have y2 := r7.cell (j := 3) rfl
                      have y7 := r8.cell (j := 3) rfl
                      have y8 := r8.frozen 3
                      simp only [Nat.zero_add] at y2 y7
                      go_wp2_with (first | (at_builtin; refine wpList_append_at _ rfl (.tmp 128) (.tmp 131) 48 rfl 80 i0 Yba.underlying48 hi0 hz1 gT 0 k cT rfl wc.heap.size 1 (.iface 63 (.pointer (some ⟨tb, 0, none⟩))) rfl (At.new wc #[.iface 63 (.pointer (some ⟨tb, 0, none⟩))] 80) rfl (by omega) yy (hyy.alloc _) w8 HW8.out ?_) | fail)
                      go_roundw
                      case rel => exact ⟨k + 1, by omega, by go_num, jt9⟩
                      case measure => simp [intOf]; omega
                ·
                  obtain rfl : k = B.nT := by omega
                  have tbF : RowF (pTab (dOf B)) Y wr.heap.size wr B.tnil B.nT (.slice aT B.nT cT) := by
                    rcases haT with ⟨h, rfl⟩ | ⟨h, rfl⟩
                    · exact ⟨none, cT, rfl, h.symm, fun i hi => by obtain ⟨g, o, h2, _⟩ := tE i hi; rw [h2] at tz; rw [← tz] at h; cases h⟩
                    · rw [h]; exact jt.row.through (pTab_ok _) (fun b hb => hb.1) (by have := jt.jp.lo; omega) cT
                  obtain ⟨fv, hfv⟩ : ∃ fv, fv = Value.slice aT B.nT cT := ⟨_, rfl⟩
                  have room2 := jt.room
                  rw [← hfv] at tbF room2
                  have jp2 := ((jt.jp.raise jt.jp.size (Nat.le_refl _)).to1 fv tbF)
                  obtain ⟨hi2, hhi2⟩ : ∃ h, wr.heap.size = h := ⟨_, rfl⟩
                  rw [hhi2] at jp2
                  clear jt tbF hfv haT hgT hcT tE tz
                  as_aux_lemma =>
                    have c4 := (bx _ jp2.kept).cell (j := 4) rfl
                    have c5 := (bx _ jp2.kept).cell (j := 5) rfl
                    simp only [Nat.zero_add] at c4 c5
                    have hrem : (B.wk : Int).tmod 5 = ((B.wk % 5 : Nat) : Int) := by rw [Int.tmod_eq_emod_of_nonneg (by omega)]; omega
                    obtain ⟨R2, hR2⟩ : ∃ R2, refsOf (B.wk % 5) = R2 := ⟨_, rfl⟩
                    obtain ⟨S2, hS2⟩ : ∃ S2, subsOf (B.wk % 5) = S2 := ⟨_, rfl⟩
                    have hR2l : R2 ≤ 1 := by have := refsOf_le (B.wk % 5); omega
                    have hS2l : S2 ≤ 1 := by have := subsOf_le (B.wk % 5); omega
                    obtain ⟨R0, hR0⟩ : ∃ R0, R1 + R2 = R0 := ⟨_, rfl⟩
                    obtain ⟨S0, hS0⟩ : ∃ S0, S1 + S2 = S0 := ⟨_, rfl⟩
                    have hR0l : R0 ≤ 301 := by omega
                    have hr6 : wrap64 ((R1 : Int) + (R2 : Int)) = (R0 : Int) := by
                      rw [IntWalk.wrap64_in _ ⟨by omega, by omega⟩]; omega
                    have hr7 : wrap64 ((S1 : Int) + (S2 : Int)) = (S0 : Int) := by
                      rw [IntWalk.wrap64_in _ ⟨by omega, by omega⟩]; omega
                    have HM := mk_ok (B.wk % 5) B.wn 0 wr (by omega) (by omega)
                    unfold MkPost at HM
                    rw [hR2, hS2] at HM
                    go_upto_region 28 with (first | (go_at_call 11; refine HM.mono ?_; rintro e w5 ⟨wv, rfl, hv, hbv⟩; have vone := hv.one; have r5 := room2.kept (KeptX.of_below (X := fun _ => False) hbv) (fun h => h); have y4 := r5.cell (j := 4) rfl; have y5 := r5.frozen 4; simp only [Nat.zero_add] at y4) | rw [run_store_to vone y4 y5] | fail)
                    obtain ⟨w6, hw6⟩ : ∃ w6, w6 = w5.setCell ⟨Y, 4, none⟩ wv := ⟨_, rfl⟩
                    rw [← hw6]
                    have hlo2 := jp2.lo
                    have hsz2 := hbv.size
                    have jp3 : JP B W1 Y w5.heap.size 2 iv fv wv (.slice none 0 0) .nilIface (.slice none 0 0) (.pointer none) w6 := by
                      rw [hw6]
                      exact (jp2.store (KeptX.of_below hbv) hs1' 4 wv).to2 wv ((hv.at (fun b (hb : wr.heap.size ≤ b) hl => ⟨by omega, hl⟩)).kept (KeptX.set1 _ _ _ _) (fun b hb _ e => by have := hb.1; omega))
                    have room3 : At w6 Y 0 [.int .i64 B.off, .bool B.dist, iv, fv, wv, .slice none 0 0, .nilIface, .slice none 0 0, .pointer none] := by rw [hw6]; exact r5.put 4 (by simp) _
                    obtain ⟨hi3, hhi3⟩ : ∃ h, w6.heap.size = h := ⟨_, rfl⟩
                    have e6 : w5.heap.size = hi3 := by rw [← hhi3, hw6]; simp
                    rw [e6] at jp3
                    clear hw6 HM hv hbv y4 y5 r5 c4 c5 hrem jp2 room2 e6
                    have c6 := (bx _ jp3.kept).cell (j := 6) rfl
                    simp only [Nat.zero_add] at c6
                    have HR : Hid (R0 ≤ 301 ∧ refsTo (dOf B) B.nI + refsOf (B.wk % 5) = R0 ∧ subsTo (dOf B) B.nI + subsOf (B.wk % 5) = S0) := ⟨hR0l, by omega, by omega⟩
                    clear hR1l hS1l hR2l hS2l hR0l hR0 hS0 hR1 hS1 hR2 hS2
                    have H6 : Hid (wrap64 ((R1 : Int) + (R2 : Int)) = (R0 : Int)) := hr6
                    have H7 : Hid (wrap64 ((S1 : Int) + (S2 : Int)) = (S0 : Int)) := hr7
                    clear hr6 hr7
                    go_upto_if 158 with fail
                    rw [H6.out, H7.out]
                    clear H6 H7
                    have nZ : W.heap.size ≠ Y := by omega
                    have nZ' : Y ≠ W.heap.size := by omega
                    go_cut [] (fun wx => ∃ g5 g7 a5 a7 q5 q7, OrdSt B Y hi3 g5 g7 a5 a7 q5 q7 ∧ JO B W1 Y hi3 g5 g7 a5 a7 q5 q7 iv fv wv 0 0 wx)
                    case first =>
                      as_aux_lemma =>
                        have d7 := room3.cell (j := 7) rfl
                        have f7 := room3.frozen 7
                        simp only [Nat.zero_add] at d7
                        have hlo3 := jp3.lo
                        cases oao with
                        | none =>
                          have hn0 : B.nO = 0 := by
                            rcases Nat.eq_zero_or_pos B.nO with h | h
                            · exact h
                            · obtain ⟨g, o, h2, _⟩ := oE 0 h; cases h2
                          have onil : B.onil = true := by simpa using oz.symm
                          have hg0 : (dOf B).nGrp = 0 := by show (if B.grp then B.nO else 0) = 0; split <;> omega
                          clear oz
                          rw [show (!B.onil) = false by simp [onil]]
                          go_wp2_with fail
                          go_meet
                          case rel => exact ⟨0, hi3, none, none, 0, 0, ⟨by omega, Nat.le_refl _, by omega, by omega, fun _ => ⟨rfl, rfl⟩, fun h => (by rw [onil] at h; cases h), fun h => (by rw [onil] at h; cases h), fun _ => ⟨rfl, rfl⟩⟩, jp3, room3, ⟨fun m hm => by omega, fun i hi => by omega⟩, ⟨fun m hm => by omega, fun i hi => by omega⟩⟩
                        | some oad =>
                          have onil : B.onil = false := by simpa using oz.symm
                          clear oz
                          rw [show (!B.onil) = true by simp [onil]]
                          obtain ⟨i0, hi0, hz0, hz1, hz2⟩ := info_parts Yba.info66
                          go_upto_region 32 with (first | (at_make; refine wpList_make_own _ rfl _ _ 52 rfl hi3 66 i0 (.pointer none) 1 Yba.underlying52 hi0 hz0 hz1 _ _ _ B.nO rfl rfl rfl (by rw [hz2]; omega) (by unfold maxLen; omega) (by omega) ?_; intro w3 hown hgrow; have room4 := room3.kept (KeptX.of_grown (X := fun _ => False) hgrow) (fun h => h); have d8 := room4.cell (j := 7) rfl; have f8 := room4.frozen 7; simp only [Nat.zero_add] at d8) | fail)
                          rw [hhi3] at hown
                          obtain ⟨w4, hw4⟩ : ∃ w4, w4 = w3.setCell ⟨Y, 7, none⟩ (.slice (some ⟨hi3, 0, none⟩) 0 B.nO) := ⟨_, rfl⟩
                          rw [← hw4]
                          have k3 : KeptX (fun _ => False) w6 w3 := KeptX.of_grown hgrow
                          have s4 : Fp Y 7 1 w3 w4 := by rw [hw4]; exact Fp.set _ _ ⟨by omega, by omega⟩ _
                          have jp4 := (jp3.new k3 hs1').fp s4 (.inl rfl) hs1'
                          have room5 : At w4 Y 0 [.int .i64 B.off, .bool B.dist, iv, fv, wv, .slice none 0 0, .nilIface, .slice (some ⟨hi3, 0, none⟩) 0 B.nO, .pointer none] := by rw [hw4]; exact room4.put 7 (by simp) _
                          have row7 : ∀ g5, RowR (pOrd (dOf B)) (NewO Y g5 hi3) hi3 B.nO 0 w4 := fun g5 => ⟨fun m hm => by obtain ⟨x, hx⟩ := own_spare hown m hm; exact ⟨x, s4.at hx (fun e => by omega)⟩, fun i hi => by omega⟩
                          have hl3 := own_lt hown
                          have hs4 := s4.kept.size
                          obtain ⟨hi4, hhi4⟩ : ∃ h, w4.heap.size = h := ⟨_, rfl⟩
                          clear hw4 hown hgrow room4 d8 f8 k3 s4 room3 d7 f7 c6
                          have c6 := (bx _ jp4.kept).cell (j := 6) rfl
                          have c7 := (bx _ jp4.kept).cell (j := 7) rfl
                          have d5 := room5.cell (j := 5) rfl
                          have f5 := room5.frozen 5
                          simp only [Nat.zero_add] at c6 c7 d5
                          cases hgr : B.grp with
                          | false =>
                            rw [hgr] at c7
                            have hg0 : (dOf B).nGrp = 0 := by show (if B.grp then B.nO else 0) = 0; rw [hgr]; rfl
                            go_wp2_with fail
                            go_meet
                            case rel => exact ⟨0, hi3, none, some ⟨hi3, 0, none⟩, 0, B.nO, ⟨by omega, Nat.le_refl _, Nat.le_refl _, by omega, fun h => (by rw [onil] at h; cases h), fun _ => rfl, fun _ h => (by rw [hgr] at h; cases h), fun _ => ⟨rfl, rfl⟩⟩, jp4, room5, ⟨fun m hm => by omega, fun i hi => by omega⟩, row7 0⟩
                          | true =>
                            rw [hgr] at c7
                            have hg0 : (dOf B).nGrp = B.nO := by show (if B.grp then B.nO else 0) = B.nO; rw [hgr]; rfl
                            obtain ⟨i1, hj0, hy0, hy1, hy2⟩ := info_parts Yba.info50
                            go_wp2_with (first | (at_make; refine wpList_make_own _ rfl _ _ 51 rfl hi4 50 i1 .nilIface 1 Yba.underlying51 hj0 hy0 hy1 _ _ _ B.nO rfl rfl rfl (by rw [hy2]; omega) (by unfold maxLen; omega) (by omega) ?_; intro w9 hown9 hgrow9; have room9 := room5.kept (KeptX.of_grown (X := fun _ => False) hgrow9) (fun h => h); have d9 := room9.cell (j := 5) rfl; have f9 := room9.frozen 5; simp only [Nat.zero_add] at d9) | fail)
                            go_meet
                            case rel =>
                              rw [hhi4] at hown9
                              have k9 : KeptX (fun _ => False) w4 w9 := KeptX.of_grown hgrow9
                              have s9 : Fp Y 5 1 w9 (w9.setCell ⟨Y, 5, none⟩ (.slice (some ⟨hi4, 0, none⟩) 0 B.nO)) := Fp.set _ _ ⟨by omega, by omega⟩ _
                              refine ⟨hi4, hi3, some ⟨hi4, 0, none⟩, some ⟨hi3, 0, none⟩, B.nO, B.nO, ⟨by omega, Nat.le_refl _, Nat.le_refl _, by omega, fun h => (by rw [onil] at h; cases h), fun _ => rfl, fun _ _ => ⟨rfl, by omega⟩, fun h => (by rw [hgr] at h; cases h)⟩, (jp4.new k9 hs1').fp s9 (.inl rfl) hs1', room9.put 5 (by simp) _, ⟨fun m hm => ?_, fun i hi => by omega⟩, ((row7 hi4).fp (pOrd_ok _) (Fp.of_kept (cb := Y) (co := 0) (l := 0) k9) (fun b hb e => by have := hb.1; omega) (by omega)).fp (pOrd_ok _) s9 (fun b hb e => by have := hb.1; omega) (by omega)⟩
                              obtain ⟨x, hx⟩ := own_spare hown9 m (by omega)
                              exact ⟨x, s9.at hx (fun e => by omega)⟩
                    case rest =>
                      obtain ⟨g5, g7, a5, a7, q5, q7, os, jo0⟩ := hcut
                      clear jp3 room3 c6
                      as_aux_lemma =>
                        have c6 := (bx _ jo0.jp.kept).cell (j := 6) rfl
                        simp only [Nat.zero_add] at c6
                        have hgk0 : gk B 0 = 0 := by unfold gk; split <;> rfl
                        go_wp2_with fail
                        clear c6
                        go_loopw [6, 178] (fun s6 i wr => ∃ k Q : Nat, k ≤ B.nO ∧ i = .int .i64 k ∧ s6 = .int .i64 Q ∧ Hid (R0 + k + gk B k = Q) ∧ JO B W1 Y hi3 g5 g7 a5 a7 q5 q7 iv fv wv (gk B k) k wr) (fun _ i _ => B.nO - (intOf i).toNat)
                        case atStart => exact ⟨0, R0, by omega, rfl, rfl, by show _ = _; omega, by rw [hgk0]; exact jo0⟩
                        case round =>
                          obtain ⟨k, Q, hkn, rfl, rfl, hQ, jo⟩ := hrel
                          clear jo0
                          have hgkl : gk B k ≤ k := by unfold gk; split <;> omega
                          by_cases hlt : k < B.nO
                          ·
                            as_aux_lemma =>
                              obtain ⟨g0, o0, had, ai, hts⟩ := oE k hlt
                              subst had
                              have onil : B.onil = false := by simpa using oz.symm
                              clear oz
                              obtain rfl := os.some7 onil
                              have ai' := ai.kept (kO.trans jo.jp.kept) (fun h => h)
                              have e0 := ai'.cell (j := 0) rfl
                              have hk1 : (k : Int) < (B.nO : Int) := by omega
                              simp only [Nat.add_zero] at e0
                              have hYl := jo.room.lt
                              have hlo := jo.jp.lo
                              have h7lo := os.lo
                              have h57 := os.ne
                              have g7l : g7 < wr.heap.size := by obtain ⟨x, hx⟩ := jo.ord.spare k hlt; exact hx.lt
                              have g5l : g5 < wr.heap.size ∧ g5 ≠ Y := by
                                cases hg : B.grp with
                                | false => obtain ⟨_, rfl⟩ := os.none5 hg; omega
                                | true =>
                                  obtain ⟨_, h5⟩ := os.some5 onil hg
                                  obtain ⟨x, hx⟩ := jo.grp.spare k (by show k < (if B.grp then B.nO else 0); rw [hg]; exact hlt)
                                  exact ⟨hx.lt, by omega⟩
                              obtain ⟨h5l, h5Y⟩ := g5l
                              have cap7 := os.cap7
                              have hq1 : Hid (wrap64 ((Q : Int) + 1) = (Q : Int) + 1) := (by have h1 := hQ.out; have h2 := HR.out; exact IntWalk.wrap64_in _ ⟨by omega, by omega⟩)
                              have hq2 : Hid (wrap64 ((Q : Int) + 1 + 1) = (Q : Int) + 1 + 1) := (by have h1 := hQ.out; have h2 := HR.out; exact IntWalk.wrap64_in _ ⟨by omega, by omega⟩)
                              have d7 := jo.room.cell (j := 7) rfl
                              have f7 := jo.room.frozen 7
                              simp only [Nat.zero_add] at d7
                              obtain ⟨i0, hi0, hz0, hz1, hz2⟩ := info_parts Yba.info66
                              go_upto_region 37 with fail
                              go_cut [] (fun wx => JO B W1 Y hi3 g5 g7 a5 (some ⟨g7, 0, none⟩) q5 q7 iv fv wv (gk B k) (k + 1) wx)
                              case first =>
                                refine wp_region_late (fun w' => w'.cell? ⟨Y, 7, none⟩ = some (.slice (some ⟨g7, 0, none⟩) k q7)) 12 (by kernel_rfl) ?_
                                refine wpLate_take (i := 0) (v := ?_) rfl (by kernel_rfl) (by kernel_rfl) (by kernel_rfl) rfl (fun _ _ _ h => h) rfl (fun w => ?_) d7 ?_
                                rotate_left 1
                                · (go_simp; try with_reducible rfl)
                                try simp only [Act.put, List.setIfInBounds_toArray, List.set_cons_zero, List.set_cons_succ]
                                refine wpLate_take (i := 1) (v := ?_) rfl (by kernel_rfl) (by kernel_rfl) (by kernel_rfl) rfl (fun _ _ _ h => h) rfl (fun w => ?_) d7 ?_
                                rotate_left 1
                                · (go_simp; try with_reducible rfl)
                                try simp only [Act.put, List.setIfInBounds_toArray, List.set_cons_zero, List.set_cons_succ]
                                refine wpLate_take (i := 2) (v := ?_) rfl (by kernel_rfl) (by kernel_rfl) (by kernel_rfl) rfl (fun _ _ _ h => h) rfl (fun w => ?_) d7 ?_
                                rotate_left 1
                                · (go_simp; try with_reducible rfl)
                                try simp only [Act.put, List.setIfInBounds_toArray, List.set_cons_zero, List.set_cons_succ]
                                refine wpLate_take (i := 3) (v := ?_) rfl (by kernel_rfl) (by kernel_rfl) (by kernel_rfl) rfl (fun _ _ _ h => h) rfl (fun w => ?_) d7 ?_
                                rotate_left 1
                                · (go_simp; try with_reducible rfl)
                                try simp only [Act.put, List.setIfInBounds_toArray, List.set_cons_zero, List.set_cons_succ]
                                refine wpLate_load (i := 4) (v := ?_) rfl (by kernel_rfl) (by kernel_rfl) (by kernel_rfl) rfl (by kernel_rfl) (by kernel_rfl) (fun _ _ _ h => h) rfl (fun w hSw => ?_) d7 ?_
                                rotate_left 1
                                · (go_simp; try with_reducible rfl)
                                try simp only [Act.put, List.setIfInBounds_toArray, List.set_cons_zero, List.set_cons_succ]
                                refine wpLate_take (i := 5) (v := ?_) rfl (by kernel_rfl) (by kernel_rfl) (by kernel_rfl) rfl (fun _ _ _ h => h) rfl (fun w => ?_) d7 ?_
                                rotate_left 1
                                · (go_simp; try with_reducible rfl)
                                try simp only [Act.put, List.setIfInBounds_toArray, List.set_cons_zero, List.set_cons_succ]
                                refine wpLate_take (i := 6) (v := ?_) rfl (by kernel_rfl) (by kernel_rfl) (by kernel_rfl) rfl (fun _ _ _ h => h) rfl (fun w => ?_) d7 ?_
                                rotate_left 1
                                · (go_simp; try with_reducible rfl)
                                try simp only [Act.put, List.setIfInBounds_toArray, List.set_cons_zero, List.set_cons_succ]
                                refine wpLate_step (i := 7) rfl (by kernel_rfl) (fun K hK => ?_)
                                go_simp
                                go_at_call 12
                                refine (acol_ok (B.ord k) k _ (by omega)).mono ?_
                                rintro e w5 ⟨cb, rfl, hcb, hca, hbv⟩
                                have kx : KeptX (fun _ => False) wr w5 := (KeptX.refl _ wr).drew.trans (KeptX.of_below hbv)
                                obtain ⟨w7, hw7⟩ : ∃ w7, w7 = ((w5.alloc (.cells #[.iface 29 (.pointer (some ⟨cb, 0, none⟩)), .int .i64 0] 70)).alloc (.cells #[.pointer (some ⟨w5.heap.size, 0, none⟩)] 66)).setCell ⟨g7, 0 + k, none⟩ (.pointer (some ⟨w5.heap.size, 0, none⟩)) := ⟨_, rfl⟩
                                have HW7 : Hid (w7 = ((w5.alloc (.cells #[.iface 29 (.pointer (some ⟨cb, 0, none⟩)), .int .i64 0] 70)).alloc (.cells #[.pointer (some ⟨w5.heap.size, 0, none⟩)] 66)).setCell ⟨g7, 0 + k, none⟩ (.pointer (some ⟨w5.heap.size, 0, none⟩))) := hw7
                                obtain ⟨r7, jo7⟩ := jo.ordStep hs1' hlt h57 h7lo h5l h5Y kx hca hcb hw7
                                have r5 := jo.room.kept kx (fun h => h)
                                have y2 := r5.cell (j := 7) rfl
                                obtain ⟨yy, hyy⟩ : ∃ y, At w5 g7 (0 + k) [y] := (by (obtain ⟨x, hx⟩ := jo.ord.spare k hlt); exact ⟨x, by (rw [Nat.zero_add]); exact hx.kept kx (fun h => h)⟩)
                                clear hw7
                                have y7 := r7.cell (j := 7) rfl
                                have y8 := r7.frozen 7
                                have hY5 := r5.lt
                                simp only [Nat.zero_add] at y2 y7
                                have y2a := (r5.alloc (.cells #[.iface 29 (.pointer (some ⟨cb, 0, none⟩)), .int .i64 0] 70)).cell (j := 7) rfl
                                have y2b := ((r5.alloc (.cells #[.iface 29 (.pointer (some ⟨cb, 0, none⟩)), .int .i64 0] 70)).alloc (.cells #[.pointer (some ⟨w5.heap.size, 0, none⟩)] 66)).cell (j := 7) rfl
                                simp only [Nat.zero_add] at y2a y2b
                                go_wp2_with fail
                                refine hK.out _ _ (fun _ => y2) ?_
                                clear hK K
                                try simp only [Act.put, List.setIfInBounds_toArray, List.set_cons_zero, List.set_cons_succ]
                                refine wpLate_take (i := 8) (v := ?_) rfl (by kernel_rfl) (by kernel_rfl) (by kernel_rfl) rfl (fun _ _ _ h => h) rfl (fun w => ?_) y2 ?_
                                rotate_left 1
                                · (go_simp; try with_reducible rfl)
                                try simp only [Act.put, List.setIfInBounds_toArray, List.set_cons_zero, List.set_cons_succ]
                                refine wpLate_take (i := 9) (v := ?_) rfl (by kernel_rfl) (by kernel_rfl) (by kernel_rfl) rfl (fun _ _ _ h => h) rfl (fun w => ?_) y2 ?_
                                rotate_left 1
                                · (go_simp; try with_reducible rfl)
                                try simp only [Act.put, List.setIfInBounds_toArray, List.set_cons_zero, List.set_cons_succ]
                                refine wpLate_step (i := 10) rfl (by kernel_rfl) (fun K hK => ?_)
                                go_simp
                                refine hK.out _ _ (fun _ => y2a) ?_
                                clear hK K
                                try simp only [Act.put, List.setIfInBounds_toArray, List.set_cons_zero, List.set_cons_succ]
                                refine wpLate_step (i := 11) rfl (by kernel_rfl) (fun K hK => ?_)
                                go_simp
                                refine hK.out _ _ (fun _ => y2b) ?_
                                clear hK K
                                try simp only [Act.put, List.setIfInBounds_toArray, List.set_cons_zero, List.set_cons_succ]
                                refine wpLate_step (i := 12) rfl (by kernel_rfl) (fun K hK => ?_)
                                refine step_append_at rfl (.tmp 187) (.tmp 194) 52 rfl 66 i0 Yba.underlying52 hi0 hz1 g7 0 k q7 (by simp [Act.eval]) (w5.heap.size + 1) 1 (.pointer (some ⟨w5.heap.size, 0, none⟩)) (by simp [Act.eval]) (At.next w5 (.cells #[.iface 29 (.pointer (some ⟨cb, 0, none⟩)), .int .i64 0] 70) #[.pointer (some ⟨w5.heap.size, 0, none⟩)] 66) rfl (by omega) yy ((hyy.alloc _).alloc _) w7 HW7.out ?_
                                refine hK.out _ _ (fun h => absurd (h.symm.trans (by kernel_rfl : _ = true)) (by decide)) ?_
                                clear hK K
                                try simp only [Act.put, List.setIfInBounds_toArray, List.set_cons_zero, List.set_cons_succ]
                                refine wpLate_step (i := 13) rfl (by kernel_rfl) (fun K hK => ?_)
                                go_simp
                                refine hK.out _ _ (fun h => absurd (h.symm.trans (by kernel_rfl : _ = true)) (by decide)) ?_
                                clear hK K
                                try simp only [Act.put, List.setIfInBounds_toArray, List.set_cons_zero, List.set_cons_succ]
                                refine wpLate_step (i := 14) rfl (by kernel_rfl) (fun K hK => ?_)
                                go_simp
                                refine hK.out _ _ (fun h => absurd (h.symm.trans (by kernel_rfl : _ = true)) (by decide)) ?_
                                clear hK K
                                try simp only [Act.put, List.setIfInBounds_toArray, List.set_cons_zero, List.set_cons_succ]
                                refine wpLate_step (i := 15) rfl (by kernel_rfl) (fun K hK => ?_)
                                go_simp
                                refine hK.out _ _ (fun h => absurd (h.symm.trans (by kernel_rfl : _ = true)) (by decide)) ?_
                                clear hK K
                                refine wpLate_done (by kernel_rfl) ?_ _
                                try simp only [Act.put, List.setIfInBounds_toArray, List.set_cons_zero, List.set_cons_succ]
                                go_wp2_with fail
                                go_meet
                                case rel => exact jo7
                              case rest =>
                                have jo7 := hcut
                                clear jo d7 f7 e0 ai' g7l h5l hYl hcut
                                have c7 := (bx _ jo7.jp.kept).cell (j := 7) rfl
                                simp only [Nat.zero_add] at c7
                                go_upto_if 201 with fail
                                rw [hq1.out]
                                clear c7
                                cases hgr : B.grp with
                                | false =>
                                  have hg1 : gk B (k + 1) = gk B k := by unfold gk; rw [hgr]; rfl
                                  go_wp2_with fail
                                  go_roundw
                                  case rel => exact ⟨k + 1, Q + 1, by omega, by go_num, by go_num, by show _ = _; have := hQ.out; omega, by rw [hg1]; exact jo7⟩
                                  case measure => simp [intOf]; omega
                                | true =>
                                  have hgk : gk B k = k := by unfold gk; rw [hgr]; rfl
                                  have hgk1 : gk B (k + 1) = k + 1 := by unfold gk; rw [hgr]; rfl
                                  obtain ⟨rfl, h5lo⟩ := os.some5 onil hgr
                                  rw [hgk] at jo7
                                  have hnG : k < (dOf B).nGrp := by show k < (if B.grp then B.nO else 0); rw [hgr]; exact hlt
                                  have g7l2 : g7 < wc.heap.size := by obtain ⟨x, hx⟩ := jo7.ord.spare k hlt; exact hx.lt
                                  have HA : ∀ w, Calls Yba.prog 12 #[.string (B.ord k), .int .i64 ((k : Int) + 1)] w _ := fun w => acol_ok (B.ord k) (k + 1) w (by omega)
                                  obtain ⟨i1, hj0, hy0, hy1, hy2⟩ := info_parts Yba.info50
                                  have cap5 := os.cap5
                                  have hkw : IntKind.i64.wrap ((k : Int) + 1) = (k : Int) + 1 := IntWalk.i64_in _ ⟨by omega, by omega⟩
                                  have hYl := jo7.room.lt
                                  have d5 := jo7.room.cell (j := 5) rfl
                                  have f5 := jo7.room.frozen 5
                                  simp only [Nat.zero_add] at d5
                                  go_upto_region 40 with fail
                                  go_cut [] (fun wx => JO B W1 Y hi3 g5 g7 (some ⟨g5, 0, none⟩) (some ⟨g7, 0, none⟩) q5 q7 iv fv wv (k + 1) (k + 1) wx)
                                  case first =>
                                    refine wp_region_late (fun w' => w'.cell? ⟨Y, 5, none⟩ = some (.slice (some ⟨g5, 0, none⟩) k q5)) 11 (by kernel_rfl) ?_
                                    refine wpLate_take (i := 0) (v := ?_) rfl (by kernel_rfl) (by kernel_rfl) (by kernel_rfl) rfl (fun _ _ _ h => h) rfl (fun w => ?_) d5 ?_
                                    rotate_left 1
                                    · (go_simp; try with_reducible rfl)
                                    try simp only [Act.put, List.setIfInBounds_toArray, List.set_cons_zero, List.set_cons_succ]
                                    refine wpLate_take (i := 1) (v := ?_) rfl (by kernel_rfl) (by kernel_rfl) (by kernel_rfl) rfl (fun _ _ _ h => h) rfl (fun w => ?_) d5 ?_
                                    rotate_left 1
                                    · (go_simp; try with_reducible rfl)
                                    try simp only [Act.put, List.setIfInBounds_toArray, List.set_cons_zero, List.set_cons_succ]
                                    refine wpLate_take (i := 2) (v := ?_) rfl (by kernel_rfl) (by kernel_rfl) (by kernel_rfl) rfl (fun _ _ _ h => h) rfl (fun w => ?_) d5 ?_
                                    rotate_left 1
                                    · (go_simp; try with_reducible rfl)
                                    try simp only [Act.put, List.setIfInBounds_toArray, List.set_cons_zero, List.set_cons_succ]
                                    refine wpLate_take (i := 3) (v := ?_) rfl (by kernel_rfl) (by kernel_rfl) (by kernel_rfl) rfl (fun _ _ _ h => h) rfl (fun w => ?_) d5 ?_
                                    rotate_left 1
                                    · (go_simp; try with_reducible rfl)
                                    try simp only [Act.put, List.setIfInBounds_toArray, List.set_cons_zero, List.set_cons_succ]
                                    refine wpLate_load (i := 4) (v := ?_) rfl (by kernel_rfl) (by kernel_rfl) (by kernel_rfl) rfl (by kernel_rfl) (by kernel_rfl) (fun _ _ _ h => h) rfl (fun w hSw => ?_) d5 ?_
                                    rotate_left 1
                                    · (go_simp; try with_reducible rfl)
                                    try simp only [Act.put, List.setIfInBounds_toArray, List.set_cons_zero, List.set_cons_succ]
                                    refine wpLate_take (i := 5) (v := ?_) rfl (by kernel_rfl) (by kernel_rfl) (by kernel_rfl) rfl (fun _ _ _ h => h) rfl (fun w => ?_) d5 ?_
                                    rotate_left 1
                                    · (go_simp; try with_reducible rfl)
                                    try simp only [Act.put, List.setIfInBounds_toArray, List.set_cons_zero, List.set_cons_succ]
                                    refine wpLate_take (i := 6) (v := ?_) rfl (by kernel_rfl) (by kernel_rfl) (by kernel_rfl) rfl (fun _ _ _ h => h) rfl (fun w => ?_) d5 ?_
                                    rotate_left 1
                                    · (go_simp; try with_reducible rfl)
                                    try simp only [Act.put, List.setIfInBounds_toArray, List.set_cons_zero, List.set_cons_succ]
                                    refine wpLate_take (i := 7) (v := ?_) rfl (by kernel_rfl) (by kernel_rfl) (by kernel_rfl) rfl (fun _ _ _ h => h) rfl (fun w => ?_) d5 ?_
                                    rotate_left 1
                                    · (go_simp; try with_reducible rfl)
                                    try simp only [Act.put, List.setIfInBounds_toArray, List.set_cons_zero, List.set_cons_succ]
                                    refine wpLate_step (i := 8) rfl (by kernel_rfl) (fun K hK => ?_)
                                    go_simp
                                    go_at_call 12
                                    refine (HA _).mono ?_
                                    rintro e w5 ⟨cb, rfl, hcb, hca, hbv⟩
                                    have kx : KeptX (fun _ => False) wc w5 := (KeptX.refl _ wc).drew.trans (KeptX.of_below hbv)
                                    obtain ⟨w7, hw7⟩ : ∃ w7, w7 = (w5.alloc (.cells #[.iface 29 (.pointer (some ⟨cb, 0, none⟩))] 50)).setCell ⟨g5, 0 + k, none⟩ (.iface 29 (.pointer (some ⟨cb, 0, none⟩))) := ⟨_, rfl⟩
                                    have HW7 : Hid (w7 = (w5.alloc (.cells #[.iface 29 (.pointer (some ⟨cb, 0, none⟩))] 50)).setCell ⟨g5, 0 + k, none⟩ (.iface 29 (.pointer (some ⟨cb, 0, none⟩)))) := hw7
                                    obtain ⟨r7, jo9⟩ := jo7.grpStep hs1' hnG h57 h5lo g7l2 (by omega) kx hca hcb hw7
                                    have r5 := jo7.room.kept kx (fun h => h)
                                    have y2 := r5.cell (j := 5) rfl
                                    obtain ⟨yy, hyy⟩ : ∃ y, At w5 g5 (0 + k) [y] := (by (obtain ⟨x, hx⟩ := jo7.grp.spare k hnG); exact ⟨x, by (rw [Nat.zero_add]); exact hx.kept kx (fun h => h)⟩)
                                    clear hw7
                                    have y7 := r7.cell (j := 5) rfl
                                    have y8 := r7.frozen 5
                                    have hY5 := r5.lt
                                    simp only [Nat.zero_add] at y2 y7
                                    have y2b := (r5.alloc (.cells #[.iface 29 (.pointer (some ⟨cb, 0, none⟩))] 50)).cell (j := 5) rfl
                                    simp only [Nat.zero_add] at y2b
                                    go_wp2_with fail
                                    refine hK.out _ _ (fun _ => y2) ?_
                                    clear hK K
                                    try simp only [Act.put, List.setIfInBounds_toArray, List.set_cons_zero, List.set_cons_succ]
                                    refine wpLate_take (i := 9) (v := ?_) rfl (by kernel_rfl) (by kernel_rfl) (by kernel_rfl) rfl (fun _ _ _ h => h) rfl (fun w => ?_) y2 ?_
                                    rotate_left 1
                                    · (go_simp; try with_reducible rfl)
                                    try simp only [Act.put, List.setIfInBounds_toArray, List.set_cons_zero, List.set_cons_succ]
                                    refine wpLate_step (i := 10) rfl (by kernel_rfl) (fun K hK => ?_)
                                    go_simp
                                    refine hK.out _ _ (fun _ => y2b) ?_
                                    clear hK K
                                    try simp only [Act.put, List.setIfInBounds_toArray, List.set_cons_zero, List.set_cons_succ]
                                    refine wpLate_step (i := 11) rfl (by kernel_rfl) (fun K hK => ?_)
                                    refine step_append_at rfl (.tmp 206) (.tmp 212) 51 rfl 50 i1 Yba.underlying51 hj0 hy1 g5 0 k q5 (by simp [Act.eval]) w5.heap.size 1 (.iface 29 (.pointer (some ⟨cb, 0, none⟩))) (by simp [Act.eval]) (At.new w5 #[.iface 29 (.pointer (some ⟨cb, 0, none⟩))] 50) rfl (by omega) yy (hyy.alloc _) w7 HW7.out ?_
                                    refine hK.out _ _ (fun h => absurd (h.symm.trans (by kernel_rfl : _ = true)) (by decide)) ?_
                                    clear hK K
                                    try simp only [Act.put, List.setIfInBounds_toArray, List.set_cons_zero, List.set_cons_succ]
                                    refine wpLate_step (i := 12) rfl (by kernel_rfl) (fun K hK => ?_)
                                    go_simp
                                    refine hK.out _ _ (fun h => absurd (h.symm.trans (by kernel_rfl : _ = true)) (by decide)) ?_
                                    clear hK K
                                    try simp only [Act.put, List.setIfInBounds_toArray, List.set_cons_zero, List.set_cons_succ]
                                    refine wpLate_step (i := 13) rfl (by kernel_rfl) (fun K hK => ?_)
                                    go_simp
                                    refine hK.out _ _ (fun h => absurd (h.symm.trans (by kernel_rfl : _ = true)) (by decide)) ?_
                                    clear hK K
                                    try simp only [Act.put, List.setIfInBounds_toArray, List.set_cons_zero, List.set_cons_succ]
                                    refine wpLate_step (i := 14) rfl (by kernel_rfl) (fun K hK => ?_)
                                    go_simp
                                    refine hK.out _ _ (fun h => absurd (h.symm.trans (by kernel_rfl : _ = true)) (by decide)) ?_
                                    clear hK K
                                    refine wpLate_done (by kernel_rfl) ?_ _
                                    try simp only [Act.put, List.setIfInBounds_toArray, List.set_cons_zero, List.set_cons_succ]
                                    go_wp2_with fail
                                    go_meet
                                    case rel => exact jo9
                                  case rest =>
                                    have jo9 := hcut
                                    clear jo7 d5 f5 hYl g7l2 HA hcut
                                    go_wp2_with fail
                                    go_roundw
                                    case rel => exact ⟨k + 1, Q + 1 + 1, by omega, by go_num, by rw [hq2.out]; go_num, by show _ = _; have := hQ.out; omega, by rw [hgk1]; exact jo9⟩
                                    case measure => simp [intOf]; omega
                          ·
                            obtain rfl : k = B.nO := by omega
                            have hnil : B.onil = true → B.nO = 0 := fun h => by
                              rcases Nat.eq_zero_or_pos B.nO with h0 | h0
                              · exact h0
                              · obtain ⟨g, o, h2, _⟩ := oE 0 h0
                                rw [h2] at oz; rw [← oz] at h; cases h
                            have jp5 := jo.through os hnil
                            have room5 := jo.room
                            obtain ⟨gv, hgv⟩ : ∃ gv, gv = Value.slice a5 (gk B B.nO) q5 := ⟨_, rfl⟩
                            obtain ⟨ov, hov⟩ : ∃ ov, ov = Value.slice a7 B.nO q7 := ⟨_, rfl⟩
                            rw [← hgv, ← hov] at jp5 room5
                            obtain ⟨hi5, hhi5⟩ : ∃ h, wr.heap.size = h := ⟨_, rfl⟩
                            rw [hhi5] at jp5
                            clear jo os hgv hov hnil oE oz
                            as_aux_lemma =>
                              have c7 := (bx _ jp5.kept).cell (j := 7) rfl
                              simp only [Nat.zero_add] at c7
                              go_upto_if 220 with fail
                              go_cut [] (fun wx => ∃ hi hv, JP B W1 Y hi 4 iv fv wv gv hv ov (.pointer none) wx ∧ At wx Y 0 [.int .i64 B.off, .bool B.dist, iv, fv, wv, gv, hv, ov, .pointer none])
                              case first =>
                                have hYl5 : Y < hi5 := by have := room5.lt; omega
                                have d6 := room5.cell (j := 6) rfl
                                have f6 := room5.frozen 6
                                simp only [Nat.zero_add] at d6
                                cases hgr : B.grp with
                                | false =>
                                  have hE : Ex wr (Till Y hi5) .nilIface (dOf B).hk (dOf B).hn 0 := by
                                    show Ex wr (Till Y hi5) .nilIface (if B.grp then 1 else 4) _ 0
                                    rw [hgr]; exact .inr ⟨by decide, rfl⟩
                                  go_wp2_with fail
                                  go_meet
                                  case rel => exact ⟨hi5, .nilIface, jp5.to4 _ hE, room5⟩
                                | true =>
                                  have havFin : ∀ wF, wF = (wr.alloc (.cells #[.int .i64 0, .string ⟨#[49]⟩, .string ⟨#[49]⟩, .int .i64 0] 74)).setCell ⟨Y, 6, none⟩ (.iface 71 (.pointer (some ⟨hi5, 0, none⟩))) → ∃ hi hv, JP B W1 Y hi 4 iv fv wv gv hv ov (.pointer none) wF ∧ At wF Y 0 [.int .i64 B.off, .bool B.dist, iv, fv, wv, gv, hv, ov, .pointer none] := by
                                    intro wF hF
                                    subst hF
                                    have hlo5 := jp5.lo
                                    have ka : KeptX (fun _ => False) wr (wr.alloc (.cells #[.int .i64 0, .string ⟨#[49]⟩, .string ⟨#[49]⟩, .int .i64 0] 74)) := (KeptX.refl _ _).alloc _
                                    refine ⟨_, _, (jp5.store ka hs1' 6 (.iface 71 (.pointer (some ⟨hi5, 0, none⟩)))).to4 (.iface 71 (.pointer (some ⟨hi5, 0, none⟩))) ?_, (room5.kept ka (fun h => h)).put 6 (by simp) _⟩
                                    show Ex _ _ _ (if B.grp then 1 else 4) _ 0
                                    rw [hgr]
                                    have hn := At.new wr #[.int .i64 0, .string ⟨#[49]⟩, .string ⟨#[49]⟩, .int .i64 0] 74
                                    rw [hhi5] at hn
                                    exact .inr ⟨by decide, hi5, ⟨by omega, by simp; omega⟩, rfl, hn.kept (KeptX.set1 _ _ _ _) (by omega)⟩
                                  go_wp2_with fail
                                  go_meet
                                  case rel => exact havFin _ (by first | rfl | (go_simp; done))
                              case rest =>
                                obtain ⟨hi6, hv, jp6, room6⟩ := hcut
                                clear jp5 room5 c7
                                as_aux_lemma =>
                                  have c8 := (bx _ jp6.kept).cell (j := 8) rfl
                                  simp only [Nat.zero_add] at c8
                                  go_upto_if 228 with fail
                                  go_cut [] (fun wx => ∃ hi lv, JP B W1 Y hi 5 iv fv wv gv hv ov lv wx ∧ At wx Y 0 [.int .i64 B.off, .bool B.dist, iv, fv, wv, gv, hv, ov, lv])
                                  case first =>
                                    as_aux_lemma =>
                                      have d8 := room6.cell (j := 8) rfl
                                      have f8 := room6.frozen 8
                                      have c9 := (bx _ jp6.kept).cell (j := 9) rfl
                                      simp only [Nat.zero_add] at d8 c9
                                      cases hlm : B.lim with
                                      | false =>
                                        have hE : LimPtr wc (Till Y hi6) (.pointer none) (dOf B).lim := by
                                          show LimPtr wc (Till Y hi6) (.pointer none) (if B.lim then _ else none)
                                          rw [hlm]; rfl
                                        go_wp2_with fail
                                        go_meet
                                        case rel => exact ⟨hi6, .pointer none, jp6.to5 _ hE, room6⟩
                                      | true =>
                                        have hlo6 := jp6.lo
                                        have hsz6 := jp6.size
                                        obtain ⟨L, hL⟩ : ∃ L, wc.heap.size = L := ⟨_, rfl⟩
                                        have hYL : Y < L := by have := room6.lt; omega
                                        have hoff : (dOf B).lim = some (B.cnt, if B.hasOff then some B.offS else none) := by show (if B.lim then _ else none) = _; rw [hlm]; rfl
                                        go_upto_region 47 with fail
                                        obtain ⟨w0, hw0⟩ : ∃ w0, w0 = wc.setCell ⟨Y, 8, none⟩ (.pointer (some ⟨L + 1, 0, none⟩)) := ⟨_, rfl⟩
                                        have hs0 : w0.heap.size = L := by rw [hw0]; simpa using hL
                                        have jp0 : JP B W1 Y hi6 4 iv fv wv gv hv ov (.pointer none) w0 := by rw [hw0]; exact jp6.fp (Fp.set (co := 8) (l := 1) _ _ ⟨by omega, by omega⟩ _) (.inl rfl) hs1'
                                        have room0 : At w0 Y 0 [.int .i64 B.off, .bool B.dist, iv, fv, wv, gv, hv, ov, .pointer (some ⟨L + 1, 0, none⟩)] := by rw [hw0]; exact room6.put 8 (by simp) _
                                        obtain ⟨w1, hw1⟩ : ∃ w1, w1 = (w0.alloc (.cells #[.int .i64 0, .string B.cnt, .string B.cnt, .int .i64 0] 74)).alloc (.cells #[.pointer (some ⟨L, 0, none⟩), .pointer none] 76) := ⟨_, rfl⟩
                                        rw [← hw0, ← hw1]
                                        have ka : KeptX (fun _ => False) w0 w1 := by rw [hw1]; exact ((KeptX.refl _ _).alloc _).alloc _
                                        have jp7 := jp0.new ka hs1'
                                        have room7 := room0.kept ka (fun h => h)
                                        have lit7 : At w1 L 0 [.int .i64 0, .string B.cnt, .string B.cnt, .int .i64 0] := by
                                          have := At.new w0 #[.int .i64 0, .string B.cnt, .string B.cnt, .int .i64 0] 74
                                          rw [hs0] at this
                                          rw [hw1]; exact this.alloc _
                                        have lim7 : At w1 (L + 1) 0 [.pointer (some ⟨L, 0, none⟩), .pointer none] := by
                                          have := At.next w0 (.cells #[.int .i64 0, .string B.cnt, .string B.cnt, .int .i64 0] 74) #[.pointer (some ⟨L, 0, none⟩), .pointer none] 76
                                          rw [hs0] at this
                                          rw [hw1]; exact this
                                        have hsz7 : w1.heap.size = L + 2 := by rw [hw1]; simp [hs0]
                                        clear hw0 jp0 room0 hs0
                                        clear hw1 ka jp6 room6 d8 f8 c8 c9
                                        have c10 := (bx _ jp7.kept).cell (j := 10) rfl
                                        simp only [Nat.zero_add] at c10
                                        go_upto_if 241 with fail
                                        clear c10
                                        cases hof : B.hasOff with
                                        | false =>
                                          have hE : LimPtr w1 (Till Y (L + 2)) (.pointer (some ⟨L + 1, 0, none⟩)) (dOf B).lim := by
                                            rw [hoff, hof]
                                            exact ⟨L + 1, _, _, ⟨by omega, by omega⟩, rfl, lim7, ⟨L, ⟨by omega, by omega⟩, rfl, lit7⟩, rfl⟩
                                          go_wp2_with fail
                                          go_meet
                                          case rel => exact ⟨L + 2, _, (jp7.raise (by omega) (by omega)).to5 _ hE, room7⟩
                                        | true =>
                                          have limFin : ∀ (w2 : World), KeptX (fun _ => False) w1 w2 → w2.heap.size = L + 2 → ∀ wF, wF = (w2.alloc (.cells #[.int .i64 0, .string B.offS, .string B.offS, .int .i64 1] 74)).setCell ⟨L + 1, 1, none⟩ (.pointer (some ⟨L + 2, 0, none⟩)) → ∃ hi lv, JP B W1 Y hi 5 iv fv wv gv hv ov lv wF ∧ At wF Y 0 [.int .i64 B.off, .bool B.dist, iv, fv, wv, gv, hv, ov, lv] := by
                                            intro w2 k2 hs2 wF hF
                                            have kb : KeptX (fun _ => False) w2 (w2.alloc (.cells #[.int .i64 0, .string B.offS, .string B.offS, .int .i64 1] 74)) := (KeptX.refl _ _).alloc _
                                            have ks : KeptX (fun b => b = L + 1) (w2.alloc (.cells #[.int .i64 0, .string B.offS, .string B.offS, .int .i64 1] 74)) wF := by rw [hF]; exact KeptX.set1 _ _ _ _
                                            have fs : Fp (L + 1) 1 1 (w2.alloc (.cells #[.int .i64 0, .string B.offS, .string B.offS, .int .i64 1] 74)) wF := by rw [hF]; exact Fp.set _ _ ⟨by omega, by omega⟩ _
                                            have hsF : wF.heap.size = L + 3 := by rw [hF]; simp [hs2]
                                            have kk := k2.trans kb
                                            have j9 := (jp7.new kk hs1').fp fs (.inr (by omega)) hs1'
                                            have hn := At.new w2 #[.int .i64 0, .string B.offS, .string B.offS, .int .i64 1] 74
                                            rw [hs2] at hn
                                            have l9 : At wF (L + 1) 0 [.pointer (some ⟨L, 0, none⟩), .pointer (some ⟨L + 2, 0, none⟩)] := by rw [hF]; exact (lim7.kept kk (fun h => h)).put 1 (by simp) _
                                            have hE : LimPtr wF (Till Y (L + 3)) (.pointer (some ⟨L + 1, 0, none⟩)) (dOf B).lim := by
                                              rw [hoff, hof]
                                              exact ⟨L + 1, _, _, ⟨by omega, by omega⟩, rfl, l9, ⟨L, ⟨by omega, by omega⟩, rfl, (lit7.kept kk (fun h => h)).kept ks (by omega)⟩, ⟨L + 2, ⟨by omega, by omega⟩, rfl, hn.kept ks (by omega)⟩⟩
                                            exact ⟨L + 3, _, (j9.raise (by omega) (by omega)).to5 _ hE, (room7.kept kk (fun h => h)).kept ks (by omega)⟩
                                          have c11 := (bx _ jp7.kept).cell (j := 11) rfl
                                          have d8 := room7.cell (j := 8) rfl
                                          have x1 := lim7.cell (j := 1) rfl
                                          have x2 := lim7.frozen 1
                                          simp only [Nat.zero_add] at c11 d8 x1
                                          have hZ1 : W.heap.size < L + 2 := by omega
                                          have hY2 : Y < L + 2 := by omega
                                          go_upto_region 48 with fail
                                          go_region
                                          all_goals
                                            go_wp2_with fail
                                            go_meet
                                            case rel => exact limFin w1.drew ((KeptX.refl _ _).drew) hsz7 _ (by first | rfl | (go_simp; done))
                                  case rest =>
                                    obtain ⟨hi7, lv, jp7, room7⟩ := hcut
                                    clear jp6 room6 c8
                                    have fin := jp7.whole room7 (Z := W.heap.size) (by omega) iN tN oN
                                    have kF := kO.trans jp7.kept
                                    clear jp7 room7
                                    have hrefs : refsD (dOf B) = Q := by
                                      have e1 : refsD (dOf B) = refsTo (dOf B) B.nI + refsOf (B.wk % 5) + gk B B.nO + refsOf (if B.grp then 1 else 4) + B.nO := rfl
                                      have e2 : refsOf (if B.grp then 1 else 4) = 0 := by split <;> rfl
                                      have h1 := hQ.out
                                      have h2 := HR.out
                                      omega
                                    have hsubs : subsD (dOf B) = S0 := by
                                      have e1 : subsD (dOf B) = subsTo (dOf B) B.nI + subsOf (B.wk % 5) + subsOf (if B.grp then 1 else 4) := rfl
                                      have e2 : subsOf (if B.grp then 1 else 4) = 0 := by split <;> rfl
                                      have h2 := HR.out
                                      omega
                                    clear hQ HR hgkl
                                    subst hrefs
                                    subst hsubs
                                    go_wp2_with fail
                                    go_ret3
                                    exact ⟨Y, rfl, by omega, fin, kF⟩

end Go.Proofs.Ybulkaq
