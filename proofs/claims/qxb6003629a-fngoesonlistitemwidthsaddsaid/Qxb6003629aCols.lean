namespace Cols

/-- the column behind the byte x at column c -/
def nxt (c x : Nat) : Nat := if x = 9 then (c / 4 + 1) * 4 else c + 1

theorem nxt_gt (c x : Nat) : c < nxt c x := by unfold nxt; split <;> omega
theorem nxt_le (c x : Nat) : nxt c x ≤ c + 4 := by unfold nxt; split <;> omega
theorem nxt_tab (c : Nat) : nxt c 9 = c + (4 - c % 4) := by unfold nxt; rw [if_pos rfl]; omega

/-- over spaces and tabs: how many bytes, and the column behind them -/
def scan : List Nat → Nat → Nat × Nat
  | [], c => (0, c)
  | x :: t, c => if x = 32 ∨ x = 9 then ((scan t (nxt c x)).1 + 1, (scan t (nxt c x)).2) else (0, c)

def posAt : List Nat → Nat → Nat → Nat
  | [], _, _ => 0
  | x :: t, c, T => if (x = 32 ∨ x = 9) ∧ nxt c x ≤ T then posAt t (nxt c x) T + 1 else 0

/-- n columns on -/
def adv : List Nat → Nat → Nat → Nat × Nat
  | [], c, _ => (0, c)
  | x :: t, c, n => if n = 0 then (0, c)
    else if x ≠ 9 then ((adv t (c + 1) (n - 1)).1 + 1, (adv t (c + 1) (n - 1)).2)
    else if 4 - c % 4 ≤ n then ((adv t (c + (4 - c % 4)) (n - (4 - c % 4))).1 + 1, (adv t (c + (4 - c % 4)) (n - (4 - c % 4))).2)
    else (0, c + n)

/-- n bytes on -/
def advB : List Nat → Nat → Nat → Nat × Nat
  | [], c, _ => (0, c)
  | x :: t, c, n => if n = 0 then (0, c) else ((advB t (nxt c x) (n - 1)).1 + 1, (advB t (nxt c x) (n - 1)).2)

theorem scan_yes (x : Nat) (t : List Nat) (c : Nat) (hx : x = 32 ∨ x = 9) : scan (x :: t) c = ((scan t (nxt c x)).1 + 1, (scan t (nxt c x)).2) := by rw [scan, if_pos hx]
theorem scan_no (x : Nat) (t : List Nat) (c : Nat) (hx : ¬ (x = 32 ∨ x = 9)) : scan (x :: t) c = (0, c) := by rw [scan, if_neg hx]
theorem posAt_yes (x : Nat) (t : List Nat) (c T : Nat) (hx : x = 32 ∨ x = 9) (h : nxt c x ≤ T) : posAt (x :: t) c T = posAt t (nxt c x) T + 1 := by rw [posAt, if_pos ⟨hx, h⟩]
theorem posAt_no (x : Nat) (t : List Nat) (c T : Nat) (h : ¬ ((x = 32 ∨ x = 9) ∧ nxt c x ≤ T)) : posAt (x :: t) c T = 0 := by rw [posAt, if_neg h]

theorem scan_ge : ∀ (l : List Nat) (c : Nat), c ≤ (scan l c).2
  | [], c => by simp [scan]
  | x :: t, c => by
    simp only [scan]
    split
    · have := scan_ge t (nxt c x); have := nxt_gt c x; simp; omega
    · simp

theorem scan_len : ∀ (l : List Nat) (c : Nat), (scan l c).1 ≤ l.length
  | [], c => by simp [scan]
  | x :: t, c => by
    simp only [scan]
    split
    · have := scan_len t (nxt c x); simp; omega
    · simp

theorem scan_le : ∀ (l : List Nat) (c : Nat), (scan l c).2 ≤ c + 4 * l.length
  | [], c => by simp [scan]
  | x :: t, c => by
    simp only [scan]
    split
    · have := scan_le t (nxt c x); have := nxt_le c x; simp; omega
    · simp

theorem adv_len : ∀ (l : List Nat) (c n : Nat), (adv l c n).1 ≤ l.length ∧ (adv l c n).2 ≤ c + n
  | [], c, n => by simp [adv]
  | x :: t, c, n => by
    simp only [adv]
    split
    · simp
    · split
      · have := adv_len t (c + 1) (n - 1); simp; omega
      · split
        · have := adv_len t (c + (4 - c % 4)) (n - (4 - c % 4)); simp; omega
        · simp

theorem advB_len : ∀ (l : List Nat) (c n : Nat), (advB l c n).1 ≤ l.length
  | [], c, n => by simp [advB]
  | x :: t, c, n => by
    simp only [advB]
    split
    · simp
    · have := advB_len t (nxt c x) (n - 1); simp; omega

theorem posAt_self (l : List Nat) (c : Nat) : posAt l c c = 0 := by
  cases l with
  | nil => rfl
  | cons x t =>
    simp only [posAt]
    rw [if_neg]
    intro h; have := nxt_gt c x; omega

theorem adv_zero (l : List Nat) (c : Nat) : adv l c 0 = (0, c) := by
  cases l <;> simp [adv]

theorem nxt_mid (c n : Nat) (h : n < 4 - c % 4) : nxt (c + n) 9 = nxt c 9 := by
  unfold nxt; rw [if_pos rfl, if_pos rfl]; omega

/-- within the blanks, n columns on lands at column c + n, where posAt says; the rest scans on as before -/
theorem adv_scan : ∀ (l : List Nat) (c n : Nat), c + n ≤ (scan l c).2 →
    adv l c n = (posAt l c (c + n), c + n) ∧ posAt l c (c + n) + (scan (l.drop (posAt l c (c + n))) (c + n)).1 = (scan l c).1 ∧ (scan (l.drop (posAt l c (c + n))) (c + n)).2 = (scan l c).2
  | [], c, n, h => by
    simp only [scan] at h
    obtain rfl : n = 0 := by omega
    simp [adv, posAt, scan]
  | x :: t, c, n, h => by
    by_cases hn : n = 0
    · subst hn
      rw [Nat.add_zero, posAt_self, adv_zero]
      simp
    · by_cases hx : x = 32 ∨ x = 9
      · by_cases h9 : x = 9
        · subst h9
          by_cases hm : 4 - c % 4 ≤ n
          · have h' : c + (4 - c % 4) + (n - (4 - c % 4)) ≤ (scan t (c + (4 - c % 4))).2 := by
              rw [scan_yes 9 t c hx, nxt_tab] at h; simp only [] at h; omega
            have ih := adv_scan t (c + (4 - c % 4)) (n - (4 - c % 4)) h'
            have e : c + (4 - c % 4) + (n - (4 - c % 4)) = c + n := by omega
            rw [e] at ih
            obtain ⟨i1, i2, i3⟩ := ih
            have ep : posAt (9 :: t) c (c + n) = posAt t (c + (4 - c % 4)) (c + n) + 1 := by
              rw [posAt_yes 9 t c _ hx (by rw [nxt_tab]; omega), nxt_tab]
            have es : scan (9 :: t) c = ((scan t (c + (4 - c % 4))).1 + 1, (scan t (c + (4 - c % 4))).2) := by
              rw [scan_yes 9 t c hx, nxt_tab]
            have ea : adv (9 :: t) c n = ((adv t (c + (4 - c % 4)) (n - (4 - c % 4))).1 + 1, (adv t (c + (4 - c % 4)) (n - (4 - c % 4))).2) := by
              simp only [adv]; rw [if_neg hn, if_neg (by simp), if_pos hm]
            rw [ep, es, ea, i1]
            refine ⟨rfl, ?_, ?_⟩
            · rw [List.drop_succ_cons]; simp only []; omega
            · rw [List.drop_succ_cons]; exact i3
          · have ep : posAt (9 :: t) c (c + n) = 0 := by
              apply posAt_no; rw [nxt_tab]; omega
            have ea : adv (9 :: t) c n = (0, c + n) := by
              simp only [adv]; rw [if_neg hn, if_neg (by simp), if_neg hm]
            rw [ep, ea, List.drop_zero]
            have es : scan (9 :: t) (c + n) = scan (9 :: t) c := by
              rw [scan_yes 9 t _ hx, scan_yes 9 t _ hx, nxt_mid c n (by omega)]
            rw [es]
            simp
        · have h32 : nxt c x = c + 1 := by unfold nxt; rw [if_neg h9]
          have h' : c + 1 + (n - 1) ≤ (scan t (c + 1)).2 := by
            simp only [scan, if_pos hx, h32] at h; omega
          have ih := adv_scan t (c + 1) (n - 1) h'
          have e : c + 1 + (n - 1) = c + n := by omega
          rw [e] at ih
          obtain ⟨i1, i2, i3⟩ := ih
          have ep : posAt (x :: t) c (c + n) = posAt t (c + 1) (c + n) + 1 := by
            simp only [posAt]; rw [h32, if_pos ⟨hx, by omega⟩]
          have es : scan (x :: t) c = ((scan t (c + 1)).1 + 1, (scan t (c + 1)).2) := by
            simp only [scan]; rw [if_pos hx, h32]
          have ea : adv (x :: t) c n = ((adv t (c + 1) (n - 1)).1 + 1, (adv t (c + 1) (n - 1)).2) := by
            simp only [adv]; rw [if_neg hn, if_pos h9]
          rw [ep, es, ea, i1]
          refine ⟨rfl, ?_, ?_⟩
          · rw [List.drop_succ_cons]; simp only []; omega
          · rw [List.drop_succ_cons]; exact i3
      · simp only [scan, if_neg hx] at h; omega

theorem advB_scan : ∀ (l : List Nat) (c : Nat), advB l c (scan l c).1 = scan l c
  | [], c => by simp [advB, scan]
  | x :: t, c => by
    by_cases hx : x = 32 ∨ x = 9
    · have es : scan (x :: t) c = ((scan t (nxt c x)).1 + 1, (scan t (nxt c x)).2) := by simp only [scan]; rw [if_pos hx]
      rw [es]
      simp only [advB]
      rw [if_neg (by omega), Nat.add_sub_cancel, advB_scan t (nxt c x)]
    · have es : scan (x :: t) c = (0, c) := by simp only [scan]; rw [if_neg hx]
      rw [es]
      simp [advB]

/-- widths add up -/
theorem posAt_add : ∀ (l : List Nat) (c a b : Nat), c + a + b ≤ (scan l c).2 →
    posAt l c (c + a + b) = posAt l c (c + a) + posAt (l.drop (posAt l c (c + a))) (c + a) (c + a + b)
  | [], c, a, b, _ => by simp [posAt]
  | x :: t, c, a, b, h => by
    by_cases ha : a = 0
    · subst ha; rw [Nat.add_zero, posAt_self]; simp
    · by_cases hx : x = 32 ∨ x = 9
      · by_cases hs : nxt c x ≤ c + a
        · have h1 : posAt (x :: t) c (c + a) = posAt t (nxt c x) (c + a) + 1 := by
            simp only [posAt]; rw [if_pos ⟨hx, hs⟩]
          have h2 : posAt (x :: t) c (c + a + b) = posAt t (nxt c x) (c + a + b) + 1 := by
            simp only [posAt]; rw [if_pos ⟨hx, by omega⟩]
          have h3 : (scan (x :: t) c).2 = (scan t (nxt c x)).2 := by simp only [scan]; rw [if_pos hx]
          rw [h3] at h
          have hgt := nxt_gt c x
          have ih := posAt_add t (nxt c x) (c + a - nxt c x) b (by omega)
          rw [show nxt c x + (c + a - nxt c x) = c + a from by omega] at ih
          rw [h1, h2, List.drop_succ_cons, ih]; omega
        · have h1 : posAt (x :: t) c (c + a) = 0 := by simp only [posAt]; rw [if_neg (fun h => hs h.2)]
          have h9 : x = 9 := by
            rcases hx with rfl | rfl
            · unfold nxt at hs; simp at hs; omega
            · rfl
          subst h9
          have hn : nxt (c + a) 9 = nxt c 9 := nxt_mid c a (by rw [nxt_tab] at hs; omega)
          rw [h1, List.drop_zero, Nat.zero_add]
          simp only [posAt]
          rw [hn]
      · simp only [scan, if_neg hx] at h; omega
end Cols
