namespace Puny

/-- the threshold: k - bias held to 1 .. 26 -/
def thr (k bias : Nat) : Nat := if k ≤ bias + 1 then 1 else if bias + 26 ≤ k then 26 else k - bias

theorem thr_ge (k bias : Nat) : 1 ≤ thr k bias := by unfold thr; split <;> (try split) <;> omega
theorem thr_le (k bias : Nat) : thr k bias ≤ 26 := by unfold thr; split <;> (try split) <;> omega

theorem next_lt (q t : Nat) (h1 : 1 ≤ t) (h26 : t ≤ 26) (h : ¬ q < t) : (q - t) / (36 - t) ≤ q / 10 := by
  have : (q - t) / (36 - t) ≤ (q - t) / 10 := Nat.div_le_div_left (by omega) (by omega)
  omega

/-- the digits of q, the first under the threshold at k -/
def vli (k bias q : Nat) : List Nat :=
  if h : q < thr k bias then [q]
  else
    have : (q - thr k bias) / (36 - thr k bias) < q := by
      have h1 := thr_ge k bias
      have := next_lt q (thr k bias) h1 (thr_le k bias) h
      omega
    (thr k bias + (q - thr k bias) % (36 - thr k bias)) :: vli (k + 36) bias ((q - thr k bias) / (36 - thr k bias))

theorem vli_last (k bias q : Nat) (h : q < thr k bias) : vli k bias q = [q] := by rw [vli, dif_pos h]
theorem vli_more (k bias q : Nat) (h : ¬ q < thr k bias) :
    vli k bias q = (thr k bias + (q - thr k bias) % (36 - thr k bias)) :: vli (k + 36) bias ((q - thr k bias) / (36 - thr k bias)) := by rw [vli, dif_neg h]

theorem vli_len (n : Nat) : ∀ k bias q, q < 10 ^ n → (vli k bias q).length ≤ n + 1 := by
  induction n with
  | zero =>
    intro k bias q h
    rw [vli_last k bias q (by have := thr_ge k bias; simp at h; omega)]
    simp
  | succ n ih =>
    intro k bias q h
    by_cases hq : q < thr k bias
    · rw [vli_last k bias q hq]; simp
    · rw [vli_more k bias q hq]
      have h1 := next_lt q (thr k bias) (thr_ge k bias) (thr_le k bias) hq
      have h2 : q / 10 < 10 ^ n := by
        rw [Nat.div_lt_iff_lt_mul (by omega)]
        rw [Nat.pow_succ] at h; exact h
      have := ih (k + 36) bias _ (Nat.lt_of_le_of_lt h1 h2)
      simp; omega

theorem vli_ne (k bias q : Nat) : vli k bias q ≠ [] := by
  by_cases hq : q < thr k bias
  · rw [vli_last k bias q hq]; simp
  · rw [vli_more k bias q hq]; simp

theorem digit_lt (q t : Nat) (h1 : 1 ≤ t) (h26 : t ≤ 26) : t + (q - t) % (36 - t) < 36 := by
  have := Nat.mod_lt (q - t) (show 0 < 36 - t by omega)
  omega

/-- a digit as a byte: a to z, then 0 to 9 -/
def chr (d : Nat) : UInt8 := if d < 26 then UInt8.ofNat (97 + d) else UInt8.ofNat (22 + d)

theorem chr_toNat (d : Nat) (h : d < 36) : (chr d).toNat = if d < 26 then 97 + d else 22 + d := by
  unfold chr
  split
  · rw [UInt8.toNat_ofNat']; omega
  · rw [UInt8.toNat_ofNat']; omega

/-- what writeDelta writes -/
def enc (k bias q : Nat) : List UInt8 := (vli k bias q).map chr

theorem enc_len (k bias q : Nat) (h : q ≤ 9223372036854775807) : (enc k bias q).length ≤ 20 := by
  unfold enc
  rw [List.length_map]
  exact vli_len 19 k bias q (by omega)
theorem enc_last (k bias q : Nat) (h : q < thr k bias) : enc k bias q = [chr q] := by unfold enc; rw [vli_last k bias q h]; rfl
theorem enc_more (k bias q : Nat) (h : ¬ q < thr k bias) :
    enc k bias q = chr (thr k bias + (q - thr k bias) % (36 - thr k bias)) :: enc (k + 36) bias ((q - thr k bias) / (36 - thr k bias)) := by
  unfold enc; rw [vli_more k bias q h]; rfl

/-- the value of a list of digits, the first under the threshold at k -/
def val (bias : Nat) : Nat → List Nat → Nat
  | _, [] => 0
  | _, [d] => d
  | k, d :: e :: r => d + (36 - thr k bias) * val bias (k + 36) (e :: r)

theorem val_cons (bias k d : Nat) (l : List Nat) (h : l ≠ []) : val bias k (d :: l) = d + (36 - thr k bias) * val bias (k + 36) l := by
  cases l with
  | nil => exact absurd rfl h
  | cons e r => rfl

theorem val_vli (n : Nat) : ∀ k bias q, q ≤ n → val bias k (vli k bias q) = q := by
  induction n with
  | zero =>
    intro k bias q h
    rw [vli_last k bias q (by have := thr_ge k bias; omega)]; rfl
  | succ n ih =>
    intro k bias q h
    by_cases hq : q < thr k bias
    · rw [vli_last k bias q hq]; rfl
    · have h1 := thr_ge k bias
      have h2 := thr_le k bias
      have h3 := next_lt q (thr k bias) h1 h2 hq
      rw [vli_more k bias q hq, val_cons _ _ _ _ (vli_ne _ _ _), ih (k + 36) bias _ (by omega)]
      have := Nat.mod_add_div (q - thr k bias) (36 - thr k bias)
      omega

/-- every digit but the last is at or above its threshold, the last below it; all are under 36 -/
def good (bias : Nat) : Nat → List Nat → Prop
  | _, [] => False
  | k, [d] => d < thr k bias
  | k, d :: e :: r => thr k bias ≤ d ∧ d < 36 ∧ good bias (k + 36) (e :: r)

theorem good_cons (bias k d : Nat) (l : List Nat) (h : l ≠ []) : good bias k (d :: l) ↔ (thr k bias ≤ d ∧ d < 36 ∧ good bias (k + 36) l) := by
  cases l with
  | nil => exact absurd rfl h
  | cons e r => exact Iff.rfl

theorem good_vli (n : Nat) : ∀ k bias q, q ≤ n → good bias k (vli k bias q) := by
  induction n with
  | zero =>
    intro k bias q h
    rw [vli_last k bias q (by have := thr_ge k bias; omega)]
    show q < thr k bias
    have := thr_ge k bias; omega
  | succ n ih =>
    intro k bias q h
    by_cases hq : q < thr k bias
    · rw [vli_last k bias q hq]; exact hq
    · have h1 := thr_ge k bias
      have h2 := thr_le k bias
      have h3 := next_lt q (thr k bias) h1 h2 hq
      rw [vli_more k bias q hq, good_cons _ _ _ _ (vli_ne _ _ _)]
      exact ⟨by omega, digit_lt q _ h1 h2, ih (k + 36) bias _ (by omega)⟩

/-- place by place -/
theorem good_at (bias : Nat) : ∀ (l : List Nat) (k j : Nat), good bias k l → j < l.length →
    l.getD j 0 < 36 ∧ ((j + 1 = l.length) ↔ l.getD j 0 < thr (k + 36 * j) bias)
  | [], _, _, h, _ => h.elim
  | [d], k, j, h, hj => by
    obtain rfl : j = 0 := by simp at hj; omega
    have h' : d < thr k bias := h
    have := thr_le k bias
    simp; omega
  | d :: e :: r, k, j, h, hj => by
    obtain ⟨h1, h2, h3⟩ := h
    cases j with
    | zero => simp; omega
    | succ j =>
      have := good_at bias (e :: r) (k + 36) j h3 (by simpa using hj)
      rw [show k + 36 * (j + 1) = k + 36 + 36 * j from by omega]
      simpa using this

/-- the value from place j on -/
theorem val_drop (bias : Nat) : ∀ (l : List Nat) (k j : Nat), j + 1 < l.length →
    val bias (k + 36 * j) (l.drop j) = l.getD j 0 + (36 - thr (k + 36 * j) bias) * val bias (k + 36 * (j + 1)) (l.drop (j + 1))
  | [], _, _, h => by simp at h
  | d :: l, k, 0, h => by
    simp only [Nat.mul_zero, Nat.add_zero, List.drop_zero, List.drop_succ_cons, List.getD_cons_zero, Nat.zero_add, Nat.mul_one]
    exact val_cons bias k d l (by intro e; rw [e] at h; simp at h)
  | d :: l, k, j + 1, h => by
    have := val_drop bias l (k + 36) j (by simpa using h)
    rw [show k + 36 * (j + 1) = k + 36 + 36 * j from by omega, show k + 36 * (j + 1 + 1) = k + 36 + 36 * (j + 1) from by omega]
    simpa using this

theorem val_last (bias : Nat) (l : List Nat) (k j : Nat) (h : j + 1 = l.length) : val bias (k + 36 * j) (l.drop j) = l.getD j 0 := by
  have hj : j < l.length := by omega
  rw [List.drop_eq_getElem_cons hj, List.drop_of_length_le (by omega)]
  simp [val, List.getD_eq_getElem?_getD, hj]

theorem val_mono (bias : Nat) (l : List Nat) : ∀ (j k : Nat), j < l.length → val bias (k + 36 * j) (l.drop j) ≤ val bias k l
  | 0, k, _ => by simp
  | j + 1, k, h => by
    have h1 := val_drop bias l k j (by omega)
    have h2 := val_mono bias l j k (by omega)
    have h3 : 1 ≤ 36 - thr (k + 36 * j) bias := by have := thr_le (k + 36 * j) bias; omega
    have h4 : val bias (k + 36 * (j + 1)) (l.drop (j + 1)) ≤ (36 - thr (k + 36 * j) bias) * val bias (k + 36 * (j + 1)) (l.drop (j + 1)) := Nat.le_mul_of_pos_left _ (by omega)
    omega
end Puny
