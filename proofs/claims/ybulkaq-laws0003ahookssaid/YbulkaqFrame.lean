/-
  FROM THE WALK OF 'LawS0003AHooks' TO ITS ROW: the whole input, long or short; the row's step; over the contract of 'zzs0003abuild'.
-/
import Derived.Test.YbulkaqOpen
namespace Go.Proofs.Ybulkaq.lawS0003AHooks
open Go.ChangeShapes Go.WideShapes Go.ChangeAt Go.RowKit Go.Deep
set_option linter.unusedVariables false

theorem own : ownKnob Yba.prog.godebug = none := by kernel_rfl
theorem laidOut : laidOutB Yba.prog = true := by kernel_rfl

set_option maxRecDepth 100000 in
set_option maxHeartbeats 1000000 in
/-- One of the three rows is longer than 300. -/
theorem law_long (W : World) (off wk : Int) (dist grp lim hasOff : Bool) (iao tao oao : Option Addr) (n1 c1 n2 c2 n3 c3 : Nat) (wn cnt offS : ByteArray) (h : 300 < n1 ∨ 300 < n2 ∨ 300 < n3) :
    Calls Yba.prog 3 #[.agg #[.int .i64 off, .bool dist, .slice iao n1 c1, .slice tao n2 c2, .int .u8 wk, .string wn, .slice oao n3 c3, .bool grp, .bool lim, .string cnt, .bool hasOff, .string offS]] W fun e w' => e = .returned (.bool true) ∧ KeptX (fun _ => False) W w' := by
  by_cases h1 : 300 < n1
  · have h1' : (300 : Int) < (n1 : Int) := by omega
    go_enter Yba.func3, Yba.ntmps3
    go_wp2
    go_ret
    exact ⟨rfl, (KeptX.refl _ _).alloc _⟩
  · have h1' : ¬ (300 : Int) < (n1 : Int) := by omega
    by_cases h2 : 300 < n2
    · have h2' : (300 : Int) < (n2 : Int) := by omega
      go_enter Yba.func3, Yba.ntmps3
      go_wp2
      go_ret
      exact ⟨rfl, (KeptX.refl _ _).alloc _⟩
    · have h2' : ¬ (300 : Int) < (n2 : Int) := by omega
      have h3' : (300 : Int) < (n3 : Int) := by omega
      go_enter Yba.func3, Yba.ntmps3
      go_wp2
      go_ret
      exact ⟨rfl, (KeptX.refl _ _).alloc _⟩

section
variable {H : Type} {enc : TypeId × Value → H} {w : World} {base : Nat} {spare : Nat → Bool} {held : Bool}

set_option maxRecDepth 100000 in
theorem open_block {fuel : Nat} {cs : List Value} {x : DataW H × List MemPlace} (h : DataW.trod enc Yba.prog w base spare held fuel 25 cs = some x) (hw : ∀ n ∈ DataW.weights Yba.prog 25 x.1, n ≤ 140737488351232) :
    ∃ (B : BlkD) (iao tao oao : Option Addr) (icp tcp ocp : Nat), cs = [.int .i64 B.off, .bool B.dist, .slice iao B.nI icp, .slice tao B.nT tcp, .int .u8 B.wk, .string B.wn, .slice oao B.nO ocp, .bool B.grp, .bool B.lim, .string B.cnt, .bool B.hasOff, .string B.offS] ∧ B.wk < 256 ∧
      (B.nI ≤ 300 → ItemsAt w (.slice iao B.nI icp) B) ∧ (B.nT ≤ 300 → StrsAt w (.slice tao B.nT tcp) B.tnil B.nT B.tabs) ∧ (B.nO ≤ 300 → StrsAt w (.slice oao B.nO ocp) B.onil B.nO B.ord) := by
  obtain ⟨xs, m, hx, hl, _, hf⟩ := fields_of Yba.underlying25 (by kernel_rfl) h
  rw [Yba.cells25] at hl
  obtain ⟨c0, c1, c2, c3, c4, c5, c6, c7, c8, c9, c10, c11, rfl⟩ := len12 hl
  obtain ⟨y0, _, h0⟩ : ∃ y, xs[0]? = some y ∧ DataW.trod enc Yba.prog w base spare held m 3 [c0] = some y := hf 0 _ c0 rfl rfl
  obtain ⟨y1, _, h1⟩ : ∃ y, xs[1]? = some y ∧ DataW.trod enc Yba.prog w base spare held m 4 [c1] = some y := hf 1 _ c1 rfl rfl
  obtain ⟨y2, _, h2⟩ : ∃ y, xs[2]? = some y ∧ DataW.trod enc Yba.prog w base spare held m 22 [c2] = some y := hf 2 _ c2 rfl rfl
  obtain ⟨y3, hy3, h3⟩ : ∃ y, xs[3]? = some y ∧ DataW.trod enc Yba.prog w base spare held m 23 [c3] = some y := hf 3 _ c3 rfl rfl
  obtain ⟨y4, _, h4⟩ : ∃ y, xs[4]? = some y ∧ DataW.trod enc Yba.prog w base spare held m 5 [c4] = some y := hf 4 _ c4 rfl rfl
  obtain ⟨y5, _, h5⟩ : ∃ y, xs[5]? = some y ∧ DataW.trod enc Yba.prog w base spare held m 9 [c5] = some y := hf 5 _ c5 rfl rfl
  obtain ⟨y6, hy6, h6⟩ : ∃ y, xs[6]? = some y ∧ DataW.trod enc Yba.prog w base spare held m 23 [c6] = some y := hf 6 _ c6 rfl rfl
  obtain ⟨y7, _, h7⟩ : ∃ y, xs[7]? = some y ∧ DataW.trod enc Yba.prog w base spare held m 4 [c7] = some y := hf 7 _ c7 rfl rfl
  obtain ⟨y8, _, h8⟩ : ∃ y, xs[8]? = some y ∧ DataW.trod enc Yba.prog w base spare held m 4 [c8] = some y := hf 8 _ c8 rfl rfl
  obtain ⟨y9, _, h9⟩ : ∃ y, xs[9]? = some y ∧ DataW.trod enc Yba.prog w base spare held m 9 [c9] = some y := hf 9 _ c9 rfl rfl
  obtain ⟨y10, _, h10⟩ : ∃ y, xs[10]? = some y ∧ DataW.trod enc Yba.prog w base spare held m 4 [c10] = some y := hf 10 _ c10 rfl rfl
  obtain ⟨y11, _, h11⟩ : ∃ y, xs[11]? = some y ∧ DataW.trod enc Yba.prog w base spare held m 9 [c11] = some y := hf 11 _ c11 rfl rfl
  have hwj : ∀ (j : Nat) (t : TypeId) (y : DataW H × List MemPlace), ([3, 4, 22, 23, 5, 9, 23, 4, 4, 9, 4, 9] : List TypeId)[j]? = some t → xs[j]? = some y → ∀ n ∈ DataW.weights Yba.prog t y.1, n ≤ 140737488351232 := by
    intro j t y hj hy n hn
    refine hw n ?_
    rw [hx]
    simp only [DataW.weights, Yba.underlying25]
    exact DataW.weights_mem_each (j := j) (t := t) (d := y.1) hj (by rw [List.getElem?_map, hy]; rfl) n hn
  obtain ⟨off, e0, _, _⟩ := DataW.trod_int Yba.underlying3 h0
  obtain ⟨dist, e1, _⟩ := DataW.trod_bool Yba.underlying4 h1
  obtain ⟨iao, nI, icp, its, e2, hits⟩ := open_items h2
  obtain ⟨tao, nT, tcp, tabs, e3, htabs⟩ := open_strs h3 (hwj 3 23 y3 rfl hy3)
  obtain ⟨wk', e4, _, w4⟩ := DataW.trod_int Yba.underlying5 h4
  obtain ⟨wn, e5, _, _⟩ := DataW.trod_string Yba.underlying9 h5
  obtain ⟨oao, nO, ocp, ord, e6, hord⟩ := open_strs h6 (hwj 6 23 y6 rfl hy6)
  obtain ⟨grp, e7, _⟩ := DataW.trod_bool Yba.underlying4 h7
  obtain ⟨lim, e8, _⟩ := DataW.trod_bool Yba.underlying4 h8
  obtain ⟨cnt, e9, _, _⟩ := DataW.trod_string Yba.underlying9 h9
  obtain ⟨hasOff, e10, _⟩ := DataW.trod_bool Yba.underlying4 h10
  obtain ⟨offS, e11, _, _⟩ := DataW.trod_string Yba.underlying9 h11
  obtain ⟨wk, rfl, hwk⟩ := u8_nat w4
  injection e0 with e0
  injection e1 with e1
  injection e4 with e4
  injection e5 with e5
  injection e7 with e7
  injection e8 with e8
  injection e9 with e9
  injection e10 with e10
  injection e11 with e11
  subst e0 e1 e2 e3 e4 e5 e6 e7 e8 e9 e10 e11
  exact ⟨{ off := off, dist := dist, items := its, nI := nI, inil := iao.isNone, tabs := tabs, nT := nT, tnil := tao.isNone, wk := wk, wn := wn, ord := ord, nO := nO, onil := oao.isNone, grp := grp, lim := lim, cnt := cnt, hasOff := hasOff, offS := offS }, iao, tao, oao, icp, tcp, ocp, rfl, hwk,
    fun h => ⟨iao, icp, rfl, rfl, h, hits⟩, fun h => ⟨tao, tcp, rfl, rfl, h, htabs⟩, fun h => ⟨oao, ocp, rfl, rfl, h, hord⟩⟩
end

/-- WHATEVER THE BLOCK: true; nothing of old has turned. -/
theorem law_any (build_ok : BuildOk) {W : World} (B : BlkD) {iao tao oao : Option Addr} {icp tcp ocp : Nat} (hwk : B.wk < 256) (hI : B.nI ≤ 300 → ItemsAt W (.slice iao B.nI icp) B) (hT : B.nT ≤ 300 → StrsAt W (.slice tao B.nT tcp) B.tnil B.nT B.tabs) (hO : B.nO ≤ 300 → StrsAt W (.slice oao B.nO ocp) B.onil B.nO B.ord) :
    Calls Yba.prog 3 #[.agg #[.int .i64 B.off, .bool B.dist, .slice iao B.nI icp, .slice tao B.nT tcp, .int .u8 B.wk, .string B.wn, .slice oao B.nO ocp, .bool B.grp, .bool B.lim, .string B.cnt, .bool B.hasOff, .string B.offS]] W fun e w' => e = .returned (.bool true) ∧ KeptX (fun _ => False) W w' := by
  by_cases h : 300 < B.nI ∨ 300 < B.nT ∨ 300 < B.nO
  · exact law_long W B.off B.wk B.dist B.grp B.lim B.hasOff iao tao oao B.nI icp B.nT tcp B.nO ocp B.wn B.cnt B.offS h
  · exact law_in build_ok B (hI (by omega)) (hT (by omega)) (hO (by omega)) hwk

set_option maxRecDepth 100000 in
set_option maxHeartbeats 1000000 in
theorem lifted (build_ok : BuildOk) (os : Os) (started : os.Started) (H : Type) (enc : TypeId × Value → H) :
    ReturnsInHanded {} Yba.checked os 3 .any (Rows.lawS0003AHooksSpec.pre6 enc Yba.prog Yba.f3 Rows.lawS0003AHooksRow.domain false) (Rows.lawS0003AHooksSpec.post enc Yba.prog Yba.f3 false true false false) := by
  refine returnsInHanded_of_change_sized (C := Yba.checked) own started (by kernel_rfl) Yba.func3
    (ChangeSpec.witness6 (enc := enc) (C := Yba.checked) false ⟨#[], #[.agg #[.int .i64 0, .bool false, .slice none 0 0, .slice none 0 0, .int .u8 0, .string ByteArray.empty, .slice none 0 0, .bool false, .bool false, .string ByteArray.empty, .bool false, .string ByteArray.empty]], []⟩ 8 (by kernel_rfl) (by kernel_rfl) (by kernel_rfl) (by kernel_rfl)) ?_
  intro W base args ds gs before hval0 hW hcnd hsz _
  have hval : ∀ (j : Nat) t v, Yba.f3.params[j]? = some t → args[j]? = some v → Value.okWide Yba.prog W .any base t v := hval0
  have hW' := hW
  obtain ⟨p, q, hA0, hV, rfl, hfz, hnd⟩ := hW
  have hA : DataW.TrodAll enc Yba.prog W 0 (fun _ => true) true Yba.f3.params.toList args.toList ds p := hA0
  rw [Yba.params3] at hA hval hsz
  obtain ⟨v0, d0, rfl, rfl, h0⟩ := trodAll_one hA
  obtain ⟨rfl, rfl⟩ := trodVars_none hV
  have h0k := h0
  obtain ⟨cs, rfl, hcs⟩ := okWide_struct Yba.underlying25 (hval 0 25 v0 rfl rfl)
  obtain ⟨fuel, hf⟩ := h0
  clear hA0 hval0 hA
  simp only [List.append_nil] at hW' hfz
  have hw : ∀ n ∈ DataW.weights Yba.prog 25 d0, n ≤ 140737488351232 := fun n hn => by
    have := List.all_eq_true.1 hsz n (DataW.weights_mem_each (j := 0) (t := 25) (d := d0) rfl rfl n hn)
    have h2 : n ≤ reachBytes := by simpa using this
    exact h2
  obtain ⟨B, iao, tao, oao, icp, tcp, ocp, hB, hwk, hI, hT, hO⟩ := open_block (cs := cs.toList) hf hw
  obtain rfl : cs = #[.int .i64 B.off, .bool B.dist, .slice iao B.nI icp, .slice tao B.nT tcp, .int .u8 B.wk, .string B.wn, .slice oao B.nO ocp, .bool B.grp, .bool B.lim, .string B.cnt, .bool B.hasOff, .string B.offS] := by
    cases cs; simpa using hB
  clear hf hB hcs hval hsz hw
  refine (law_any build_ok B hwk hI hT hO).mono fun e W' ⟨he, hk⟩ => ?_
  subst he
  have hb : Below W.heap.size W W' := hk.below (Nat.le_refl _) (fun _ _ h => h)
  have hlt : ∀ x ∈ p, x.block < W.heap.size := fun x hx => by simpa using hW'.lt x hx
  refine ⟨_, rfl, _, _, _, [], p, [], hW', trodAll_cons_mk (shut_bool Yba.underlying4 _) trodAll_mk0, ?_, rfl, hb.frame _, fun h => by cases h⟩
  exact trodAll_mk1 (Below.trod laidOut (by kernel_rfl) (of_decide_eq_true (by kernel_rfl)) h0k hb hlt)

theorem over (build_ok : BuildOk) : Rows.lawS0003AHooksRow.holds Yba.pinned (OpenSpec.ofChange Rows.lawS0003AHooksSpec) :=
  OpenClaim.holds_of_wide 3 Yba.f3 rfl rfl rfl rfl rfl rfl rfl ⟨rfl, rfl, rfl, rfl, rfl⟩ rfl rfl rfl rfl rfl (by kernel_rfl) Yba.func3 (by kernel_rfl)
    (of_decide_eq_true (by kernel_rfl)) (by unfold Func.isWrapper; first | (rw [if_pos (by decide +kernel)]; kernel_rfl) | (rw [if_neg (by decide +kernel)]; exact ⟨rfl, rfl⟩))
    (fun os started H enc _ => lifted build_ok os started H enc)

end Go.Proofs.Ybulkaq.lawS0003AHooks
