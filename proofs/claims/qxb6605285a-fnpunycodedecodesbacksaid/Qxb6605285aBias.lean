namespace Puny

/-- RFC 3492's bias adaptation behind the damping -/
def biasOf (d : Nat) : Nat := if h : 455 < d then
    have : d / 35 < d := by omega
    36 + biasOf (d / 35)
  else 36 * d / (d + 38)

theorem biasOf_big (d : Nat) (h : 455 < d) : biasOf d = 36 + biasOf (d / 35) := by
  rw [biasOf, dif_pos h]
theorem biasOf_small (d : Nat) (h : ¬ 455 < d) : biasOf d = 36 * d / (d + 38) := by
  rw [biasOf, dif_neg h]

def damp (delta points : Nat) (first : Bool) : Nat :=
  let d := if first then delta / 700 else delta / 2
  d + d / points

def adapt (delta points : Nat) (first : Bool) : Nat := biasOf (damp delta points first)

theorem small_le (d : Nat) : 36 * d / (d + 38) ≤ 35 := by
  have : 36 * d / (d + 38) < 36 := by
    rw [Nat.div_lt_iff_lt_mul (by omega)]; omega
  omega

theorem biasOf_le (d : Nat) : biasOf d ≤ d / 2 + 36 := by
  induction d using Nat.strongRecOn with
  | _ d ih =>
    by_cases h : 455 < d
    · rw [biasOf_big d h]
      have := ih (d / 35) (by omega)
      omega
    · rw [biasOf_small d h]
      have := small_le d
      omega

theorem small_mono (d e : Nat) (h : d ≤ e) : 36 * d / (d + 38) ≤ 36 * e / (e + 38) := by
  rw [Nat.le_div_iff_mul_le (by omega)]
  have hq : 36 * d / (d + 38) ≤ 36 := by have := small_le d; omega
  have hm : 36 * d / (d + 38) * (d + 38) ≤ 36 * d := Nat.div_mul_le_self _ _
  generalize 36 * d / (d + 38) = q at *
  obtain ⟨k, rfl⟩ := Nat.exists_eq_add_of_le h
  have e1 : q * (d + k + 38) = q * (d + 38) + q * k := by rw [← Nat.mul_add]; congr 1; omega
  have e2 : q * k ≤ 36 * k := Nat.mul_le_mul_right k hq
  omega

theorem biasOf_mono (e : Nat) : ∀ d, d ≤ e → biasOf d ≤ biasOf e := by
  induction e using Nat.strongRecOn with
  | _ e ih =>
    intro d hde
    by_cases he : 455 < e
    · rw [biasOf_big e he]
      by_cases hd : 455 < d
      · rw [biasOf_big d hd]
        have := ih (e / 35) (by omega) (d / 35) (Nat.div_le_div_right hde)
        omega
      · rw [biasOf_small d hd]
        have := small_le d
        omega
    · rw [biasOf_small e he, biasOf_small d (by omega)]
      exact small_mono d e hde

theorem damp_mono (a b p : Nat) (f : Bool) (h : a ≤ b) : damp a p f ≤ damp b p f := by
  unfold damp
  have h1 : (if f then a / 700 else a / 2) ≤ (if f then b / 700 else b / 2) := by
    cases f
    · simp; omega
    · simp; omega
  have h2 := Nat.div_le_div_right (c := p) h1
  simp only []
  omega

theorem damp_first (a p : Nat) : damp a p true ≤ damp a p false := by
  unfold damp
  have h1 : a / 700 ≤ a / 2 := by omega
  have h2 := Nat.div_le_div_right (c := p) h1
  simp only [if_true]
  simp
  omega

theorem adapt_mono (a b p : Nat) (f : Bool) (h : a ≤ b) : adapt a p f ≤ adapt b p f := biasOf_mono _ _ (damp_mono a b p f h)
theorem adapt_first (a p : Nat) : adapt a p true ≤ adapt a p false := biasOf_mono _ _ (damp_first a p)

/-- one round of the closed form's loop: p := 35 * p -/
theorem biasOf_round (d p : Nat) (hp : 0 < p) (h : p ≤ d / 456) : biasOf (d / p) = 36 + biasOf (d / (p * 35)) := by
  have h1 : 456 * p ≤ d := by
    have := Nat.mul_le_of_le_div _ _ _ h
    omega
  have h2 : 456 ≤ d / p := by
    rw [Nat.le_div_iff_mul_le hp]; exact h1
  rw [biasOf_big (d / p) (by omega), Nat.div_div_eq_div_mul]

theorem last_lt (d p : Nat) (hp : 0 < p) (h : ¬ p ≤ d / 456) : d / p ≤ 455 := by
  have h2 : d / p < 456 := by
    rw [Nat.div_lt_iff_lt_mul hp]
    have := Nat.div_add_mod d 456
    have := Nat.mod_lt d (show 0 < 456 by omega)
    omega
  omega

theorem biasOf_last (d p : Nat) (hp : 0 < p) (h : ¬ p ≤ d / 456) : biasOf (d / p) = 36 * (d / p) / (d / p + 38) := by
  have h2 : d / p < 456 := by
    rw [Nat.div_lt_iff_lt_mul hp]
    have := Nat.div_add_mod d 456
    have := Nat.mod_lt d (show 0 < 456 by omega)
    omega
  exact biasOf_small _ (by omega)
end Puny
