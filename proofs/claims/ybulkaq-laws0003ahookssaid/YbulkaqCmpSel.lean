/-
  'zzs0003asel': two blocks of one make, in different places: they compare equal.
-/
import Derived.Test.YbulkaqSel
namespace Go.Proofs.Ybulkaq
open Go.RowKit

theorem size55 : (Yba.prog.info? 55).map (·.size) = some 9 := by kernel_rfl
theorem size62 : (Yba.prog.info? 62).map (·.size) = some 3 := by kernel_rfl
theorem size65 : (Yba.prog.info? 65).map (·.size) = some 4 := by kernel_rfl
theorem size70 : (Yba.prog.info? 70).map (·.size) = some 2 := by kernel_rfl
theorem size76 : (Yba.prog.info? 76).map (·.size) = some 2 := by kernel_rfl

theorem sliceNil {t e : TypeId} (ht : Yba.prog.underlying t = some (.slice e)) (w : World) (a : Option Addr) (n c : Nat) : (binOp .eql t (.slice a n c) (.slice none 0 0)).run Yba.prog w = .ok (.bool a.isNone) w := Lib.run_eql_slice_nil w t e a n c 0 0 ht

/-- A quiet contract: 'true', and draws alone. -/
def Yes (W : World) (f : FuncId) (args : Array Value) : Prop := ∀ a n, Calls Yba.prog f args (W.drewN (a + n)) fun e w' => e = .returned (.bool true) ∧ ∃ m, w' = W.drewN (a + m)

theorem yes_of {W : World} {f : FuncId} {args : Array Value} (h : ∀ m, Calls Yba.prog f args (W.drewN m) fun e w' => e = .returned (.bool true) ∧ ∃ k, w' = (W.drewN m).drewN k) : Yes W f args := fun a n =>
  (h (a + n)).mono fun e w' ⟨he, k, hk⟩ => ⟨he, n + k, by rw [hk, World.drewN_drewN, Nat.add_assoc]⟩

theorem yes_ident {W : World} {R R' : Nat → Prop} {v v' : Value} {x : Option (ByteArray × ByteArray × Int)} (h : IdPtr W R v x) (h' : IdPtr W R' v' x) (hd : ∀ b, R b → ¬ R' b) : Yes W 7 #[v, v'] :=
  yes_of fun m => ident_same (h.kept (keepN W m) noX) (h'.kept (keepN W m) noX) hd

theorem yes_lit {W : World} {R R' : Nat → Prop} {v v' : Value} {n : Nat} {x : Option ByteArray} (h : LitPtr W R v n x) (h' : LitPtr W R' v' n x) (hd : ∀ b, R b → ¬ R' b) : Yes W 20 #[v, v'] :=
  yes_of fun m => by
    match x, h, h' with
    | none, h, h' => rw [show v = .pointer none from h, show v' = .pointer none from h']; exact lit_nil _
    | some nm, ⟨b, hR, hv, hl⟩, ⟨b', hR', hv', hl'⟩ =>
      rw [hv, hv']
      exact lit_both b b' nm nm n _ (At.drewN hl m) (At.drewN hl' m) (fun e => hd b hR (e ▸ hR'))

set_option maxRecDepth 100000 in
set_option maxHeartbeats 2000000 in
theorem cmp_sel {W : World} {R R' : Nat → Prop} {E E' : Value → Nat → ByteArray → Nat → Prop} {b b' : Nat} {D : SelD} (h : SelIn W R E b D) (h' : SelIn W R' E' b' D) (hb : R b) (hb' : R' b') (hd : ∀ b, R b → ¬ R' b)
    (hE : ∀ v v' k nm n, E v k nm n → E' v' k nm n → Yes W 19 #[v, v']) :
    Calls Yba.prog 10 #[.pointer (some ⟨b, 0, none⟩), .pointer (some ⟨b', 0, none⟩)] W fun e w' => e = .returned (.bool true) ∧ ∃ k, w' = W.drewN k := by
  obtain ⟨iv, fv, wv, gv, hv, ov, lv, inil, a, hi, hf, hw, hg, hh, ho, hl⟩ := h
  obtain ⟨iv', fv', wv', gv', hv', ov', lv', inil', a', hi', hf', hw', hg', hh', ho', hl'⟩ := h'
  obtain ⟨ia, ic, rfl, _, hni, hi⟩ := hi
  obtain ⟨ia', ic', rfl, _, _, hi'⟩ := hi'
  obtain ⟨fa, fc, rfl, hfz, hnf, hf⟩ := hf
  obtain ⟨fa', fc', rfl, hfz', _, hf'⟩ := hf'
  obtain ⟨ga, gc, rfl, hgz, hng, hg⟩ := hg
  obtain ⟨ga', gc', rfl, hgz', _, hg'⟩ := hg'
  obtain ⟨oa, oc, rfl, hoz, hno, ho⟩ := ho
  obtain ⟨oa', oc', rfl, hoz', _, ho'⟩ := ho'
  have c0 := a.cell (j := 0) rfl
  have c1 := a.cell (j := 1) rfl
  have c2 := a.cell (j := 2) rfl
  have c3 := a.cell (j := 3) rfl
  have c4 := a.cell (j := 4) rfl
  have c5 := a.cell (j := 5) rfl
  have c6 := a.cell (j := 6) rfl
  have c7 := a.cell (j := 7) rfl
  have c8 := a.cell (j := 8) rfl
  have d0 := a'.cell (j := 0) rfl
  have d1 := a'.cell (j := 1) rfl
  have d2 := a'.cell (j := 2) rfl
  have d3 := a'.cell (j := 3) rfl
  have d4 := a'.cell (j := 4) rfl
  have d5 := a'.cell (j := 5) rfl
  have d6 := a'.cell (j := 6) rfl
  have d7 := a'.cell (j := 7) rfl
  have d8 := a'.cell (j := 8) rfl
  simp only [Nat.zero_add] at c0 c1 c2 c3 c4 c5 c6 c7 c8 d0 d1 d2 d3 d4 d5 d6 d7 d8
  have q := eqlN a a' (fun e => hd b hb (e ▸ hb')) Yba.underlying26 size55 0 0
  have qs := fun (w : World) a n c => sliceNil Yba.underlying48 w a n c
  have qg := fun (w : World) a n c => sliceNil Yba.underlying51 w a n c
  have qo := fun (w : World) a n c => sliceNil Yba.underlying52 w a n c
  have HW := hE _ _ _ _ _ hw hw'
  have HH := hE _ _ _ _ _ hh hh'
  clear hw hw' hh hh'
  go_enter Yba.func10, Yba.ntmps10
  go_wp2
  go_quiet (fail)
  go_wp2
  go_quiet (fail)
  rw [World.drewN_drewN]
  go_wp2
  go_loopw [5, 6, 7] (fun i _ _ wr => ∃ k m : Nat, k ≤ D.nItems ∧ i = .int .i64 k ∧ wr = W.drewN m) (fun i _ _ _ => D.nItems - (intOf i).toNat)
  case atStart => exact ⟨0, _, by omega, rfl, rfl⟩
  case round =>
    obtain ⟨k, m, hk, rfl, rfl⟩ := hrel
    by_cases hlt : k < D.nItems
    · obtain ⟨g, o, u, hRg, rfl, au, ib, io, ev, av, hRb, rfl, ai, he, hal⟩ := hi k hlt
      obtain ⟨g', o', u', hRg', rfl, au', ib', io', ev', av', hRb', rfl, ai', he', hal'⟩ := hi' k hlt
      have e0 := au.cell (j := 0) rfl
      have e1 := ai.cell (j := 0) rfl
      have e2 := ai.cell (j := 1) rfl
      have e3 := ai.cell (j := 2) rfl
      have f0 := au'.cell (j := 0) rfl
      have f1 := ai'.cell (j := 0) rfl
      have f2 := ai'.cell (j := 1) rfl
      have f3 := ai'.cell (j := 2) rfl
      simp only [Nat.add_zero] at e0 e1 e2 e3 f0 f1 f2 f3
      have qi := eqlN ai ai' (fun e => hd ib hRb (e ▸ hRb')) Yba.underlying60 size62 io io'
      have HI := yes_ident hal hal' hd
      have HX := hE _ _ _ _ _ he he'
      have hk1 : (k : Int) < (D.nItems : Int) := by omega
      clear hi hi' hf hf' hg hg' ho ho' au au' ai ai' he he' hal hal' HW HH hl hl' a a' hE
      go_wp2
      go_quiet (fail)
      rw [World.drewN_drewN]
      go_wp2
      go_quiet ((first | (go_at_call 7; exact HI _ _) | (go_at_call 19; exact HX _ _)))
      rw [World.drewN_drewN]
      go_wp2
      go_roundw
      case rel => exact ⟨k + 1, _, by omega, by go_num, rfl⟩
      case measure => simp [intOf]; omega
    · clear hi hi'
      go_wp2
      go_quiet (fail)
      rw [World.drewN_drewN]
      go_wp2
      go_loopw [8, 9, 10, 11, 12] (fun i _ _ _ _ wr => ∃ k m : Nat, k ≤ D.nTabs ∧ i = .int .i64 k ∧ wr = W.drewN m) (fun i _ _ _ _ _ => D.nTabs - (intOf i).toNat)
      case atStart => exact ⟨0, _, by omega, rfl, rfl⟩
      case round =>
        obtain ⟨k2, m2, hk2, rfl, rfl⟩ := hrel
        by_cases hlt2 : k2 < D.nTabs
        · obtain ⟨g, o, u, hRg, rfl, au, ib, io, av, hRb, rfl, ai, hal⟩ := hf k2 hlt2
          obtain ⟨g', o', u', hRg', rfl, au', ib', io', av', hRb', rfl, ai', hal'⟩ := hf' k2 hlt2
          have e0 := au.cell (j := 0) rfl
          have e1 := ai.cell (j := 0) rfl
          have e2 := ai.cell (j := 1) rfl
          have e3 := ai.cell (j := 2) rfl
          have e4 := ai.cell (j := 3) rfl
          have f0 := au'.cell (j := 0) rfl
          have f1 := ai'.cell (j := 0) rfl
          have f2 := ai'.cell (j := 1) rfl
          have f3 := ai'.cell (j := 2) rfl
          have f4 := ai'.cell (j := 3) rfl
          simp only [Nat.add_zero] at e0 e1 e2 e3 e4 f0 f1 f2 f3 f4
          have qi := eqlN ai ai' (fun e => hd ib hRb (e ▸ hRb')) Yba.underlying63 size65 io io'
          have HI := yes_ident hal hal' hd
          have hk1 : (k2 : Int) < (D.nTabs : Int) := by omega
          clear hf hf' hg hg' ho ho' au au' ai ai' hal hal' HW HH hl hl' a a' hE
          go_wp2
          go_quiet ((go_at_call 7; exact HI _ _))
          rw [World.drewN_drewN]
          go_wp2
          go_roundw
          case rel => exact ⟨k2 + 1, _, by omega, by go_num, rfl⟩
          case measure => simp [intOf]; omega
        · clear hf hf'
          go_wp2
          go_quiet ((first | (go_at_call_of 19 wv; exact HW _ _) | (go_at_call_of 19 hv; exact HH _ _)))
          rw [World.drewN_drewN]
          clear HW HH
          go_wp2
          go_quiet (fail)
          rw [World.drewN_drewN]
          go_wp2
          go_loopw [13] (fun i wr => ∃ k m : Nat, k ≤ D.nGrp ∧ i = .int .i64 k ∧ wr = W.drewN m) (fun i _ => D.nGrp - (intOf i).toNat)
          case atStart => exact ⟨0, _, by omega, rfl, rfl⟩
          case round =>
            obtain ⟨k3, m3, hk3, rfl, rfl⟩ := hrel
            by_cases hlt3 : k3 < D.nGrp
            · obtain ⟨g, o, u, hRg, rfl, au, he⟩ := hg k3 hlt3
              obtain ⟨g', o', u', hRg', rfl, au', he'⟩ := hg' k3 hlt3
              have e0 := au.cell (j := 0) rfl
              have f0 := au'.cell (j := 0) rfl
              simp only [Nat.add_zero] at e0 f0
              have HX := hE _ _ _ _ _ he he'
              have hk1 : (k3 : Int) < (D.nGrp : Int) := by omega
              clear hg hg' ho ho' au au' he he' hl hl' a a' hE
              go_wp2
              go_quiet ((go_at_call 19; exact HX _ _))
              rw [World.drewN_drewN]
              go_wp2
              go_roundw
              case rel => exact ⟨k3 + 1, _, by omega, by go_num, rfl⟩
              case measure => simp [intOf]; omega
            · clear hg hg'
              go_wp2
              go_quiet (fail)
              rw [World.drewN_drewN]
              go_wp2
              go_loopw [14, 15, 16] (fun i _ _ wr => ∃ k m : Nat, k ≤ D.nOrd ∧ i = .int .i64 k ∧ wr = W.drewN m) (fun i _ _ _ => D.nOrd - (intOf i).toNat)
              case atStart => exact ⟨0, _, by omega, rfl, rfl⟩
              case round =>
                obtain ⟨k4, m4, hk4, rfl, rfl⟩ := hrel
                by_cases hlt4 : k4 < D.nOrd
                · obtain ⟨g, o, u, hRg, rfl, au, ib, ev, hRb, rfl, ai, he⟩ := ho k4 hlt4
                  obtain ⟨g', o', u', hRg', rfl, au', ib', ev', hRb', rfl, ai', he'⟩ := ho' k4 hlt4
                  have e0 := au.cell (j := 0) rfl
                  have e1 := ai.cell (j := 0) rfl
                  have f0 := au'.cell (j := 0) rfl
                  have f1 := ai'.cell (j := 0) rfl
                  simp only [Nat.add_zero] at e0 e1 f0 f1
                  have qi := eqlN ai ai' (fun e => hd ib hRb (e ▸ hRb')) Yba.underlying66 size70 0 0
                  have HX := hE _ _ _ _ _ he he'
                  have hk1 : (k4 : Int) < (D.nOrd : Int) := by omega
                  clear ho ho' au au' ai ai' he he' hl hl' a a' hE
                  go_wp2
                  go_quiet (fail)
                  rw [World.drewN_drewN]
                  go_wp2
                  go_quiet ((go_at_call 19; exact HX _ _))
                  rw [World.drewN_drewN]
                  go_wp2
                  go_roundw
                  case rel => exact ⟨k4 + 1, _, by omega, by go_num, rfl⟩
                  case measure => simp [intOf]; omega
                · clear ho ho' hE
                  generalize D.lim = lm at hl hl'
                  match lm, hl, hl' with
                  | none, hl, hl' =>
                    rw [show lv = .pointer none from hl] at c8
                    rw [show lv' = .pointer none from hl'] at d8
                    go_wp2
                    go_ret
                    exact ⟨rfl, _, rfl⟩
                  | some (cnt, off), ⟨lb, cv, lov, hR, hv1, al, hc1, ho1⟩, ⟨lb', cv', lov', hR', hv1', al', hc1', ho1'⟩ =>
                    rw [hv1] at c8
                    rw [hv1'] at d8
                    have e0 := al.cell (j := 0) rfl
                    have e1 := al.cell (j := 1) rfl
                    have f0 := al'.cell (j := 0) rfl
                    have f1 := al'.cell (j := 1) rfl
                    simp only [Nat.zero_add] at e0 e1 f0 f1
                    have qi := neqN al al' (fun e => hd lb hR (e ▸ hR')) Yba.underlying53 size76 0 0
                    have H1 := yes_lit hc1 hc1' hd
                    have H2 := yes_lit ho1 ho1' hd
                    clear al al' hc1 hc1' ho1 ho1' hv1 hv1'
                    go_wp2
                    go_quiet ((first | (go_at_call_of 20 cv; exact H1 _ _) | (go_at_call_of 20 lov; exact H2 _ _)))
                    rw [World.drewN_drewN]
                    go_wp2
                    go_ret
                    exact ⟨by simp, _, rfl⟩

end Go.Proofs.Ybulkaq
