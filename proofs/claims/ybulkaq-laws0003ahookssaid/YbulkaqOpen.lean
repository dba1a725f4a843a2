/-
  THE LAW's INPUT OPENED: what a 'ZzS0003ABlock' by value reads as, put in the walks' own words. No walk.
-/
import Derived.Test.YbulkaqLaw
import Derived.ProofKit
import Derived.OpenShut
import Derived.ShutString
import Derived.SliceStrings
import Derived.SizedLaws
import Derived.Carry
import Derived.Deep.Fields
namespace Go.Proofs.Ybulkaq
open Go.ChangeShapes Go.WideShapes Go.ChangeAt Go.RowKit Go.Deep
set_option linter.unusedVariables false

theorem Yba.cells57 : Yba.prog.cellsOf 57 = 5 := by kernel_rfl
theorem Yba.cells25 : Yba.prog.cellsOf 25 = 12 := by kernel_rfl
theorem Yba.cells9 : Yba.prog.cellsOf 9 = 1 := by kernel_rfl

section
variable {H : Type} {enc : TypeId × Value → H} {P : Program} {w : World} {base : Nat} {spare : Nat → Bool} {held : Bool}

/-- A struct whose fields are one cell each. -/
theorem fields_of {t : TypeId} {fs : Array Field} {fuel : Nat} {cs : List Value} {x : DataW H × List MemPlace} (hs : P.underlying t = some (.struct fs)) (hone : oneCellFields P fs = true) (h : DataW.trod enc P w base spare held fuel t cs = some x) :
    ∃ (xs : List (DataW H × List MemPlace)) (n : Nat), x = (.agg (xs.map (·.1)), xs.flatMap (·.2)) ∧ cs.length = P.cellsOf t ∧ xs.length = fs.size ∧
      ∀ (i : Nat) (f : Field) (c : Value), fs[i]? = some f → cs[i]? = some c → ∃ y, xs[i]? = some y ∧ DataW.trod enc P w base spare held n f.type [c] = some y := by
  obtain ⟨xs, n, _, hx, hl, hlen, hf⟩ := DataW.trod_struct hs h
  refine ⟨xs, n, hx, hl, hlen, fun i f c h1 h2 => ?_⟩
  obtain ⟨o, k⟩ := hone_of hone i f h1
  have h3 := hf i f h1
  have hlt : i < xs.length := by rw [hlen]; exact (Array.getElem?_eq_some_iff.1 h1).1
  refine ⟨xs[i], List.getElem?_eq_getElem hlt, ?_⟩
  rw [o, k] at h3
  have e : (cs.drop i).take 1 = [c] := by
    obtain ⟨hi, he⟩ := List.getElem?_eq_some_iff.1 h2
    rw [List.drop_eq_getElem_cons hi, he]; rfl
  rw [e] at h3
  rw [h3]; exact List.getElem?_eq_getElem hlt

theorem len5 {α : Type} {l : List α} (h : l.length = 5) : ∃ a b c d e, l = [a, b, c, d, e] := by
  match l, h with
  | [a, b, c, d, e], _ => exact ⟨a, b, c, d, e, rfl⟩
theorem len12 {α : Type} {l : List α} (h : l.length = 12) : ∃ a b c d e f g i j k m n, l = [a, b, c, d, e, f, g, i, j, k, m, n] := by
  match l, h with
  | [a, b, c, d, e, f, g, i, j, k, m, n], _ => exact ⟨a, b, c, d, e, f, g, i, j, k, m, n, rfl⟩

theorem u8_nat {n : Int} (h : (Lit.int .u8 n).wf = true) : ∃ k : Nat, n = k ∧ k < 256 := by
  simp only [Lit.wf, Bool.and_eq_true, decide_eq_true_eq] at h
  have h1 : (0 : Int) ≤ n := h.1
  have h2 : n ≤ 255 := h.2
  exact ⟨n.toNat, by omega, by omega⟩

theorem weights_mem_all {e : TypeId} {l : List (DataW H)} {d : DataW H} (hd : d ∈ l) {n : Nat} (hn : n ∈ d.weights P e) : n ∈ DataW.weightsAll P e l := by
  induction l with
  | nil => cases hd
  | cons a r ih =>
    unfold DataW.weightsAll
    rcases List.mem_cons.1 hd with rfl | h
    · exact List.mem_append_left _ hn
    · exact List.mem_append_right _ (ih h)

set_option maxRecDepth 100000 in
/-- The items. -/
theorem open_items {fuel : Nat} {v : Value} {x : DataW H × List MemPlace} (h : DataW.trod enc Yba.prog w base spare held fuel 22 [v] = some x) :
    ∃ (ao : Option Addr) (n c : Nat) (its : Nat → ItD), v = .slice ao n c ∧ ∀ i, i < n → ∃ g o, ao = some ⟨g, o, none⟩ ∧
      Rd w g (o + i * 5) [.int .u8 (its i).k, .string (its i).nm, .bool (its i).ha, .string (its i).al, .string (its i).text] ∧ (its i).k < 256 := by
  rcases DataW.trod_slice Yba.underlying22 h with ⟨hcs, _⟩ | ⟨a, len, cap, elems, rest, n, _, hcs, _, hb, hl, hm, hlen, hel, _⟩
  · obtain rfl : v = .slice none 0 0 := by injection hcs
    exact ⟨none, 0, 0, fun _ => ⟨0, ⟨#[]⟩, false, ⟨#[]⟩, ⟨#[]⟩⟩, rfl, fun i hi => absurd hi (Nat.not_lt_zero i)⟩
  · obtain rfl : v = .slice (some a) len cap := by injection hcs
    have spot : 0 < len → a.spot = none := fun h0 => by
      have he := hel 0 h0
      rw [List.getElem?_eq_getElem (by omega), Yba.cells57, Option.bind_eq_some_iff] at he
      obtain ⟨cs, hc, _⟩ := he
      obtain ⟨_, hl5, hcell⟩ := World.cells?_some hc
      obtain ⟨c0, c1, c2, c3, c4, rfl⟩ := len5 hl5
      have g0 := hcell 0 (by omega)
      simpa [Addr.add] using World.cell?_spot g0
    have each : ∀ i, ∃ d : ItD, i < len → ∃ g o, some a = some ⟨g, o, none⟩ ∧ Rd w g (o + i * 5) [.int .u8 d.k, .string d.nm, .bool d.ha, .string d.al, .string d.text] ∧ d.k < 256 := by
      intro i
      by_cases hi : i < len
      · have he := hel i hi
        rw [List.getElem?_eq_getElem (by omega), Yba.cells57, Option.bind_eq_some_iff] at he
        obtain ⟨cs, hc, ht⟩ := he
        obtain ⟨_, hl5, hcell⟩ := World.cells?_some hc
        obtain ⟨c0, c1, c2, c3, c4, rfl⟩ := len5 hl5
        obtain ⟨xs, m, _, _, _, hf⟩ := fields_of Yba.underlying57 (by kernel_rfl) ht
        obtain ⟨y0, _, h0⟩ : ∃ y, xs[0]? = some y ∧ DataW.trod enc Yba.prog w base spare held m 5 [c0] = some y := hf 0 _ c0 rfl rfl
        obtain ⟨y1, _, h1⟩ : ∃ y, xs[1]? = some y ∧ DataW.trod enc Yba.prog w base spare held m 9 [c1] = some y := hf 1 _ c1 rfl rfl
        obtain ⟨y2, _, h2⟩ : ∃ y, xs[2]? = some y ∧ DataW.trod enc Yba.prog w base spare held m 4 [c2] = some y := hf 2 _ c2 rfl rfl
        obtain ⟨y3, _, h3⟩ : ∃ y, xs[3]? = some y ∧ DataW.trod enc Yba.prog w base spare held m 9 [c3] = some y := hf 3 _ c3 rfl rfl
        obtain ⟨y4, _, h4⟩ : ∃ y, xs[4]? = some y ∧ DataW.trod enc Yba.prog w base spare held m 9 [c4] = some y := hf 4 _ c4 rfl rfl
        obtain ⟨n0, e0, _, w0⟩ := DataW.trod_int Yba.underlying5 h0
        obtain ⟨s1, e1, _, _⟩ := DataW.trod_string Yba.underlying9 h1
        obtain ⟨b2, e2, _⟩ := DataW.trod_bool Yba.underlying4 h2
        obtain ⟨s3, e3, _, _⟩ := DataW.trod_string Yba.underlying9 h3
        obtain ⟨s4, e4, _, _⟩ := DataW.trod_string Yba.underlying9 h4
        obtain rfl : c0 = .int .u8 n0 := by injection e0
        obtain rfl : c1 = .string s1 := by injection e1
        obtain rfl : c2 = .bool b2 := by injection e2
        obtain rfl : c3 = .string s3 := by injection e3
        obtain rfl : c4 = .string s4 := by injection e4
        obtain ⟨k, rfl, hk⟩ := u8_nat w0
        obtain ⟨g, o, sp⟩ := a
        obtain rfl : sp = none := spot (by omega)
        simp only [Addr.add_lit] at hcell hc
        refine ⟨⟨k, s1, b2, s3, s4⟩, fun _ => ⟨g, o, rfl, ⟨?_, fun j v hj => ?_⟩, hk⟩⟩
        · exact World.cells?_block hc (by omega)
        · have hj5 : j < 5 := by
            have := (List.getElem?_eq_some_iff.1 hj).1
            simpa using this
          have := hcell j hj5
          rw [hj] at this
          exact this
      · exact ⟨⟨0, ⟨#[]⟩, false, ⟨#[]⟩, ⟨#[]⟩⟩, fun h => absurd h hi⟩
    obtain ⟨its, hits⟩ := Classical.skolem.1 each
    exact ⟨some a, len, cap, its, rfl, fun i hi => hits i hi⟩

set_option maxRecDepth 100000 in
/-- A slice of strings, each within the reach. -/
theorem open_strs {fuel : Nat} {v : Value} {x : DataW H × List MemPlace} (h : DataW.trod enc Yba.prog w base spare held fuel 23 [v] = some x) (hw : ∀ n ∈ DataW.weights Yba.prog 23 x.1, n ≤ 140737488351232) :
    ∃ (ao : Option Addr) (n c : Nat) (t : Nat → ByteArray), v = .slice ao n c ∧ ∀ i, i < n → ∃ g o, ao = some ⟨g, o, none⟩ ∧ Rd w g (o + i) [.string (t i)] ∧ (t i).size ≤ 140737488351232 := by
  rcases open_strings Yba.underlying23 Yba.underlying9 Yba.cells9 h with ⟨hcs, _⟩ | ⟨a, len, cap, ss, hcs, hb, hl, hm, hz, hx, hcell, _⟩
  · obtain rfl : v = .slice none 0 0 := by injection hcs
    exact ⟨none, 0, 0, fun _ => ⟨#[]⟩, rfl, fun i hi => absurd hi (Nat.not_lt_zero i)⟩
  · obtain rfl : v = .slice (some a) len cap := by injection hcs
    have hls : len ≤ ss.length := by rw [hz]; split <;> omega
    refine ⟨some a, len, cap, fun i => ss.getD i ByteArray.empty, rfl, fun i hi => ?_⟩
    have spot : a.spot = none := by
      have g0 := hcell 0 (by omega)
      simpa [Addr.add] using World.cell?_spot g0
    have g0 := hcell i (by omega)
    obtain ⟨g, o, sp⟩ := a
    obtain rfl : sp = none := spot
    simp only [Addr.add_lit] at g0
    have hsz : (ss.getD i ByteArray.empty).size ≤ 140737488351232 := by
      refine hw _ ?_
      rw [hx]
      have hi' : i < ss.length := by omega
      have hg : ss.getD i ByteArray.empty = ss[i] := by simp [List.getD, List.getElem?_eq_getElem hi']
      have hmem : (DataW.lit (H := H) (.string (ss[i]).data.toList)) ∈ strs (ss.take len) := by
        unfold strs
        refine List.mem_map.2 ⟨ss[i], ?_, rfl⟩
        exact List.mem_take_iff_getElem.2 ⟨i, by omega, rfl⟩
      have hin := weights_mem_all (P := Yba.prog) (e := 9) hmem (n := (ss.getD i ByteArray.empty).size) (by rw [hg]; show _ ∈ [((ss[i]).data.toList).length]; rw [Array.length_toList]; exact List.mem_singleton.2 rfl)
      simp only [DataW.weights, Yba.underlying23]
      exact List.mem_cons_of_mem _ (List.mem_append_left _ hin)
    refine ⟨g, o, rfl, ⟨?_, fun j v hj => ?_⟩, hsz⟩
    · have hc := g0
      rcases Nat.lt_or_ge g w.heap.size with h1 | h1
      · exact h1
      · simp [World.cell?, Array.getElem?_eq_none h1] at hc
    · match j, hj with
      | 0, hj =>
        obtain rfl : Value.string (ss.getD i ByteArray.empty) = v := by injection hj
        exact g0
end

end Go.Proofs.Ybulkaq
