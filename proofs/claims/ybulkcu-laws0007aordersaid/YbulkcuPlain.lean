/-
  THE PLAIN PART: the weight of a byte or of a run's end; the first place at which two runs differ decides. No Go in sight.
-/
namespace Go.Proofs.Ybulkcu.Plain

def letter (c : Nat) : Bool := decide (97 ≤ c ∧ c ≤ 122) || decide (65 ≤ c ∧ c ≤ 90)
/-- The weight of a byte. -/
def wb (c : Nat) : Int := if c = 126 then -1 else if letter c then c else c + 256
/-- The weight at place i: of the byte there, or of the end. -/
def wt (s : ByteArray) (i : Nat) : Int := if h : i < s.size then wb (s[i]).toNat else 0
/-- The model's class and code. -/
def cb (c : Nat) : Int := if c = 126 then 0 else if letter c then 2 else 3
def xb (c : Nat) : Int := if c = 126 then 0 else c
def cls (s : ByteArray) (i : Nat) : Int := if h : i < s.size then cb (s[i]).toNat else 1
def cod (s : ByteArray) (i : Nat) : Int := if h : i < s.size then xb (s[i]).toNat else 0

def sgn (x y : Int) : Int := if x < y then -1 else if y < x then 1 else 0
def sgn2 (c x d y : Int) : Int := if c < d then -1 else if d < c then 1 else sgn x y

theorem wt_in {s : ByteArray} {i : Nat} (h : i < s.size) : wt s i = wb (s[i]).toNat := by simp [wt, h]
theorem wt_out {s : ByteArray} {i : Nat} (h : ¬ i < s.size) : wt s i = 0 := by simp [wt, h]
theorem cls_in {s : ByteArray} {i : Nat} (h : i < s.size) : cls s i = cb (s[i]).toNat := by simp [cls, h]
theorem cls_out {s : ByteArray} {i : Nat} (h : ¬ i < s.size) : cls s i = 1 := by simp [cls, h]
theorem cod_in {s : ByteArray} {i : Nat} (h : i < s.size) : cod s i = xb (s[i]).toNat := by simp [cod, h]
theorem cod_out {s : ByteArray} {i : Nat} (h : ¬ i < s.size) : cod s i = 0 := by simp [cod, h]

theorem letter_bounds {c : Nat} (h : letter c = true) : 65 ≤ c ∧ c ≤ 122 ∧ c ≠ 126 := by
  simp [letter] at h; omega

theorem wb_inj {c d : Nat} (hc : c < 256) (hd : d < 256) (h : wb c = wb d) : c = d := by
  unfold wb at h
  by_cases h1 : c = 126 <;> by_cases h2 : d = 126 <;> by_cases h3 : letter c = true <;> by_cases h4 : letter d = true <;> simp [h1, h2, h3, h4] at h ⊢ <;> omega
theorem wb_ne0 {c : Nat} (hc : c < 256) : wb c ≠ 0 := by
  unfold wb
  by_cases h1 : c = 126
  · simp [h1]
  · by_cases h3 : letter c = true
    · have := letter_bounds h3; simp [h1, h3]; omega
    · simp [h1, h3]; omega

/-- The first k places: the first difference decides. -/
def upto (f g : Nat → Int) : Nat → Int
  | 0 => 0
  | k + 1 => if upto f g k = 0 then sgn (f k) (g k) else upto f g k

theorem upto_succ {f g : Nat → Int} {k : Nat} (h : upto f g k = 0) : upto f g (k + 1) = sgn (f k) (g k) := by simp [upto, h]
theorem upto_stays {f g : Nat → Int} {k : Nat} (h : upto f g k ≠ 0) : ∀ n, k ≤ n → upto f g n = upto f g k
  | 0, hn => by obtain rfl : k = 0 := by omega
                rfl
  | n + 1, hn => by
    by_cases e : k = n + 1
    · rw [e]
    · have := upto_stays h n (by omega)
      rw [upto, this, if_neg h]

/-- The model's. -/
def upto2 (c x d y : Nat → Int) : Nat → Int
  | 0 => 0
  | k + 1 => if upto2 c x d y k = 0 then sgn2 (c k) (x k) (d k) (y k) else upto2 c x d y k

theorem upto2_succ {c x d y : Nat → Int} {k : Nat} (h : upto2 c x d y k = 0) : upto2 c x d y (k + 1) = sgn2 (c k) (x k) (d k) (y k) := by simp [upto2, h]
theorem upto2_stays {c x d y : Nat → Int} {k : Nat} (h : upto2 c x d y k ≠ 0) : ∀ n, k ≤ n → upto2 c x d y n = upto2 c x d y k
  | 0, hn => by obtain rfl : k = 0 := by omega
                rfl
  | n + 1, hn => by
    by_cases e : k = n + 1
    · rw [e]
    · have := upto2_stays h n (by omega)
      rw [upto2, this, if_neg h]

theorem place (c d : Nat) (hc : c < 256) (hd : d < 256) : sgn (wb c) (wb d) = sgn2 (cb c) (xb c) (cb d) (xb d) := by
  have l1 := @letter_bounds c
  have l2 := @letter_bounds d
  unfold sgn2 sgn wb cb xb
  by_cases h1 : c = 126 <;> by_cases h2 : d = 126 <;> by_cases h3 : letter c = true <;> by_cases h4 : letter d = true <;>
    simp only [h1, h2, h3, h4, if_true, if_false] at * <;> (try have := l1 trivial) <;> (try have := l2 trivial) <;> (repeat' split) <;> first | rfl | omega

theorem place_any (a b : ByteArray) (i : Nat) : sgn (wt a i) (wt b i) = sgn2 (cls a i) (cod a i) (cls b i) (cod b i) := by
  by_cases ha : i < a.size
  · have hc := (a[i]).toNat_lt
    by_cases hb : i < b.size
    · rw [wt_in ha, wt_in hb, cls_in ha, cls_in hb, cod_in ha, cod_in hb]
      exact place _ _ hc (b[i]).toNat_lt
    · rw [wt_in ha, wt_out hb, cls_in ha, cls_out hb, cod_in ha, cod_out hb]
      generalize (a[i]).toNat = c at hc
      unfold sgn2 sgn wb cb xb
      by_cases h3 : letter c = true
      · have l1 := letter_bounds h3
        rw [if_neg l1.2.2, if_neg l1.2.2, if_neg l1.2.2, if_pos h3, if_pos h3]
        repeat' split
        all_goals omega
      · rw [if_neg h3, if_neg h3]
        by_cases h1 : c = 126
        · rw [if_pos h1, if_pos h1, if_pos h1]
          rfl
        · rw [if_neg h1, if_neg h1, if_neg h1]
          repeat' split
          all_goals omega
  · by_cases hb : i < b.size
    · have hc := (b[i]).toNat_lt
      rw [wt_out ha, wt_in hb, cls_out ha, cls_in hb, cod_out ha, cod_in hb]
      generalize (b[i]).toNat = c at hc
      unfold sgn2 sgn wb cb xb
      by_cases h3 : letter c = true
      · have l1 := letter_bounds h3
        rw [if_neg l1.2.2, if_neg l1.2.2, if_neg l1.2.2, if_pos h3, if_pos h3]
        repeat' split
        all_goals omega
      · rw [if_neg h3, if_neg h3]
        by_cases h1 : c = 126
        · rw [if_pos h1, if_pos h1, if_pos h1]
          rfl
        · rw [if_neg h1, if_neg h1, if_neg h1]
          repeat' split
          all_goals omega
    · rw [wt_out ha, wt_out hb, cls_out ha, cls_out hb, cod_out ha, cod_out hb]
      rfl

theorem upto_model (a b : ByteArray) : ∀ n, upto (wt a) (wt b) n = upto2 (cls a) (cod a) (cls b) (cod b) n
  | 0 => rfl
  | n + 1 => by simp only [upto, upto2, upto_model a b n, place_any a b n]

theorem sgn_range (x y : Int) : -1 ≤ sgn x y ∧ sgn x y ≤ 1 := by unfold sgn; repeat' split <;> omega
theorem sgn_flip (x y : Int) : sgn x y = - sgn y x := by unfold sgn; repeat' split <;> omega
theorem sgn_zero {x y : Int} (h : sgn x y = 0) : x = y := by unfold sgn at h; repeat' split at h <;> omega

theorem upto_range (f g : Nat → Int) : ∀ n, -1 ≤ upto f g n ∧ upto f g n ≤ 1
  | 0 => by simp [upto]
  | n + 1 => by
    rw [upto]
    split
    · exact sgn_range _ _
    · exact upto_range f g n

theorem upto_flip (f g : Nat → Int) : ∀ n, upto f g n = - upto g f n
  | 0 => rfl
  | n + 1 => by
    have ih := upto_flip f g n
    rw [upto, upto]
    by_cases h : upto f g n = 0
    · rw [if_pos h, if_pos (by omega)]; exact sgn_flip _ _
    · rw [if_neg h, if_neg (by omega)]; exact ih

theorem upto_zero {f g : Nat → Int} : ∀ {n}, upto f g n = 0 → ∀ i, i < n → f i = g i
  | 0, _, i, hi => by omega
  | n + 1, h, i, hi => by
    rw [upto] at h
    by_cases h0 : upto f g n = 0
    · rw [if_pos h0] at h
      by_cases e : i = n
      · subst e; exact sgn_zero h
      · exact upto_zero h0 i (by omega)
    · rw [if_neg h0] at h; exact absurd h h0

theorem upto_self (f : Nat → Int) : ∀ n, upto f f n = 0
  | 0 => rfl
  | n + 1 => by rw [upto, upto_self f n, if_pos rfl]; unfold sgn; repeat' split <;> omega

theorem eq_of_zero {a b : ByteArray} {n : Nat} (ha : a.size ≤ n) (hb : b.size ≤ n) (h : upto (wt a) (wt b) n = 0) : a = b := by
  have hw := upto_zero h
  have hs : a.size = b.size := by
    rcases Nat.lt_trichotomy a.size b.size with h1 | h1 | h1
    · have := hw a.size (by omega)
      rw [wt_out (by omega), wt_in h1] at this
      exact absurd this.symm (wb_ne0 (b[a.size]).toNat_lt)
    · exact h1
    · have := hw b.size (by omega)
      rw [wt_in h1, wt_out (by omega)] at this
      exact absurd this (wb_ne0 (a[b.size]).toNat_lt)
  refine ByteArray.ext (Array.ext hs fun i h1 h2 => ?_)
  have := hw i (by have : a.data.size = a.size := rfl; omega)
  rw [wt_in (show i < a.size from h1), wt_in (show i < b.size from h2)] at this
  have e := wb_inj (a[i]).toNat_lt (b[i]).toNat_lt this
  exact UInt8.toNat_inj.1 e

end Go.Proofs.Ybulkcu.Plain
