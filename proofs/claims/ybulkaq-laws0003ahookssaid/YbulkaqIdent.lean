/-
  'zzs0003aident' and 'zzs0003alit' BY CONTRACTS OF THEIR OWN.
-/
import Derived.Test.YbulkaqBase
namespace Go.Proofs.Ybulkaq
open Go.RowKit

theorem size32 : (Yba.prog.info? 32).map (·.size) = some 3 := by kernel_rfl
theorem size74 : (Yba.prog.info? 74).map (·.size) = some 4 := by kernel_rfl

/-- A pointer to an Ident: nil, or a box of its own. -/
def IdPtr (W : World) (R : Nat → Prop) (v : Value) : Option (ByteArray × ByteArray × Int) → Prop
  | none => v = .pointer none
  | some (nm, raw, n) => ∃ b, R b ∧ v = .pointer (some ⟨b, 0, none⟩) ∧ At W b 0 [.string nm, .string raw, .int .i64 n]

set_option maxHeartbeats 400000 in
theorem ident_both (b b' : Nat) (nm raw : ByteArray) (n : Int) (w : World) (h : At w b 0 [.string nm, .string raw, .int .i64 n]) (h' : At w b' 0 [.string nm, .string raw, .int .i64 n]) (hne : b ≠ b') :
    Calls Yba.prog 7 #[.pointer (some ⟨b, 0, none⟩), .pointer (some ⟨b', 0, none⟩)] w fun e w' => e = .returned (.bool true) ∧ ∃ k, w' = w.drewN k := by
  have h1 := h.cell (j := 0) rfl
  have h2 := h.cell (j := 1) rfl
  have h3 := h.cell (j := 2) rfl
  have h1' := h'.cell (j := 0) rfl
  have h2' := h'.cell (j := 1) rfl
  have h3' := h'.cell (j := 2) rfl
  simp only [Nat.zero_add] at h1 h2 h3 h1' h2' h3'
  obtain ⟨i, hi, hs⟩ := size_of size32
  have q : ∀ k, (binOp .neq 30 (.pointer (some ⟨b, 0, none⟩)) (.pointer (some ⟨b', 0, none⟩))).run Yba.prog (w.drewN k) = .ok (.bool true) (w.drewN k) := fun k => neq_ptr (h.drewN k) (h'.drewN k) hne 0 0 Yba.underlying30 hi (by rw [hs]; decide)
  clear hi hs h h'
  go_enter Yba.func7, Yba.ntmps7
  go_wp2
  go_quiet (fail)
  go_wp2
  go_ret
  exact ⟨by simp, _, rfl⟩

set_option maxHeartbeats 400000 in
theorem ident_nil (w : World) : Calls Yba.prog 7 #[.pointer none, .pointer none] w fun e w' => e = .returned (.bool true) ∧ ∃ k, w' = w.drewN k := by
  go_enter Yba.func7, Yba.ntmps7
  go_wp2
  go_ret
  exact ⟨rfl, 0, rfl⟩

theorem ident_same {W : World} {R R' : Nat → Prop} {v v' : Value} {x : Option (ByteArray × ByteArray × Int)} (h : IdPtr W R v x) (h' : IdPtr W R' v' x) (hd : ∀ b, R b → ¬ R' b) :
    Calls Yba.prog 7 #[v, v'] W fun e w' => e = .returned (.bool true) ∧ ∃ k, w' = W.drewN k := by
  match x, h, h' with
  | none, h, h' => rw [show v = .pointer none from h, show v' = .pointer none from h']; exact ident_nil W
  | some (nm, raw, n), ⟨b, hR, hv, hb⟩, ⟨b', hR', hv', hb'⟩ =>
    rw [hv, hv']
    exact ident_both b b' nm raw n W hb hb' (fun e => hd b hR (e ▸ hR'))

end Go.Proofs.Ybulkaq
