import Derived.Test.Qxb6003629aZZ
import Derived.Test.Qxb6003629aScan
namespace Go.Proofs.Qxb6003629a
open Cols (nxt scan adv advB posAt)

theorem scan_again : ∀ (l : List Nat) (c : Nat), scan (l.drop (scan l c).1) (scan l c).2 = (0, (scan l c).2)
  | [], c => by simp [scan]
  | x :: t, c => by
    by_cases hx : x = 32 ∨ x = 9
    · rw [Cols.scan_yes x t c hx]
      exact scan_again t (nxt c x)
    · rw [Cols.scan_no x t c hx]
      exact Cols.scan_no x t c hx

theorem s_again (Z : List Nat) (p c : Nat) : sK Z (p + sK Z p c) (sC Z p c) = 0 ∧ sC Z (p + sK Z p c) (sC Z p c) = sC Z p c := by
  have h := scan_again (Z.drop p) c
  rw [List.drop_drop] at h
  unfold sK sC
  rw [h]
  exact ⟨rfl, rfl⟩

theorem a_scan (Z : List Nat) (p c n : Nat) (h : c + n ≤ sC Z p c) :
    aK Z p c n = pK Z p c (c + n) ∧ aC Z p c n = c + n ∧ pK Z p c (c + n) + sK Z (p + pK Z p c (c + n)) (c + n) = sK Z p c ∧ sC Z (p + pK Z p c (c + n)) (c + n) = sC Z p c := by
  have h := Cols.adv_scan (Z.drop p) c n h
  rw [List.drop_drop] at h
  obtain ⟨h1, h2, h3⟩ := h
  unfold aK aC pK sK sC
  rw [h1]
  exact ⟨rfl, rfl, h2, h3⟩

theorem p_add (Z : List Nat) (p c a b : Nat) (h : c + a + b ≤ sC Z p c) :
    pK Z p c (c + a + b) = pK Z p c (c + a) + pK Z (p + pK Z p c (c + a)) (c + a) (c + a + b) := by
  have h := Cols.posAt_add (Z.drop p) c a b h
  rw [List.drop_drop] at h
  exact h

theorem go_yes {Z : List Nat} {nb : Bool} {p c n : Nat} {empty : Bool} (h : c + n ≤ sC Z p c) :
    goOk Z nb p c n empty = true ∧ goPos Z nb p c n empty = p + pK Z p c (c + n) ∧ goCol Z nb p c n empty = c + n := by
  obtain ⟨h1, h2, _, _⟩ := a_scan Z p c n h
  unfold goOk goPos goCol
  rw [if_pos (by omega), if_pos (by omega), if_pos (by omega), h1, h2]
  exact ⟨rfl, rfl, rfl⟩

theorem go_blank {Z : List Nat} {nb : Bool} {p c n : Nat} {empty : Bool} (h : ¬ c + n ≤ sC Z p c) (hb : blk Z nb p c = true) (he : empty = false) :
    goOk Z nb p c n empty = true ∧ goPos Z nb p c n empty = p + sK Z p c ∧ goCol Z nb p c n empty = sC Z p c := by
  subst he
  have hge : c ≤ sC Z p c := Cols.scan_ge _ _
  have hif : ¬ n ≤ sC Z p c - c := by omega
  unfold goOk goPos goCol
  simp only [if_neg hif, hb]
  exact ⟨rfl, rfl, rfl⟩

theorem go_no {Z : List Nat} {nb : Bool} {p c n : Nat} {empty : Bool} (h : ¬ c + n ≤ sC Z p c) (hb : (blk Z nb p c && !empty) = false) :
    goOk Z nb p c n empty = false ∧ goPos Z nb p c n empty = p ∧ goCol Z nb p c n empty = c := by
  have hge : c ≤ sC Z p c := Cols.scan_ge _ _
  have hif : ¬ n ≤ sC Z p c - c := by omega
  unfold goOk goPos goCol
  refine ⟨?_, ?_, ?_⟩ <;> simp only [if_neg hif, hb] <;> rfl

/-- behind a step inside the blanks the scan ends where it ended -/
theorem step_same (Z : List Nat) (nb : Bool) (p c a : Nat) (h : c + a ≤ sC Z p c) :
    p + pK Z p c (c + a) + sK Z (p + pK Z p c (c + a)) (c + a) = p + sK Z p c ∧ sC Z (p + pK Z p c (c + a)) (c + a) = sC Z p c ∧ blk Z nb (p + pK Z p c (c + a)) (c + a) = blk Z nb p c := by
  obtain ⟨_, _, h3, h4⟩ := a_scan Z p c a h
  have e : p + pK Z p c (c + a) + sK Z (p + pK Z p c (c + a)) (c + a) = p + sK Z p c := by omega
  exact ⟨e, h4, by unfold blk; rw [e]⟩

theorem end_same (Z : List Nat) (nb : Bool) (p c : Nat) : blk Z nb (p + sK Z p c) (sC Z p c) = blk Z nb p c := by
  unfold blk; rw [(s_again Z p c).1]; rfl

/-! what the three calls answer, way by way: 'first' = the width a + b, 'then' = a, b -/

structure WayA (Z : List Nat) (nb : Bool) (p c a b : Nat) (empty : Bool) (P C PA CA : Nat) : Prop where
  o : goOk Z nb p c (a + b) empty = true
  q : goPos Z nb p c (a + b) empty = P
  r : goCol Z nb p c (a + b) empty = C
  oa : goOk Z nb p c a empty = true
  qa : goPos Z nb p c a empty = PA
  ra : goCol Z nb p c a empty = CA
  ob : goOk Z nb PA CA b empty = true
  qb : goPos Z nb PA CA b empty = P
  rb : goCol Z nb PA CA b empty = C
  bp : PA ≤ Z.length
  bc : CA ≤ c + 65536 ∨ CA = sC Z p c

theorem wayA {Z : List Nat} (nb : Bool) {p c a b : Nat} (empty : Bool) (h : c + (a + b) ≤ sC Z p c) (hp : p ≤ Z.length) (ha : a ≤ 65536) :
    WayA Z nb p c a b empty (p + pK Z p c (c + (a + b))) (c + (a + b)) (p + pK Z p c (c + a)) (c + a) := by
  obtain ⟨a1, a2, a3⟩ := go_yes (nb := nb) (empty := empty) h
  obtain ⟨b1, b2, b3⟩ := go_yes (nb := nb) (empty := empty) (Z := Z) (p := p) (c := c) (n := a) (by omega)
  obtain ⟨s1, s2, s3⟩ := step_same Z nb p c a (by omega)
  obtain ⟨c1, c2, c3⟩ := go_yes (nb := nb) (empty := empty) (Z := Z) (p := p + pK Z p c (c + a)) (c := c + a) (n := b) (by omega)
  have e := p_add Z p c a b (by omega)
  rw [Nat.add_assoc c a b] at e c2 c3
  have hb := (s_bound Z p c hp).1
  exact ⟨a1, a2, a3, b1, b2, b3, c1, by omega, c3, by omega, .inl (by omega)⟩

theorem wayB1 {Z : List Nat} {nb : Bool} {p c a b : Nat} {empty : Bool} (h : ¬ c + (a + b) ≤ sC Z p c) (hb : blk Z nb p c = true) (he : empty = false) (h1 : c + a ≤ sC Z p c) (hp : p ≤ Z.length) (ha : a ≤ 65536) :
    WayA Z nb p c a b empty (p + sK Z p c) (sC Z p c) (p + pK Z p c (c + a)) (c + a) := by
  obtain ⟨a1, a2, a3⟩ := go_blank h hb he
  obtain ⟨b1, b2, b3⟩ := go_yes (nb := nb) (empty := empty) h1
  obtain ⟨s1, s2, s3⟩ := step_same Z nb p c a (by omega)
  obtain ⟨c1, c2, c3⟩ := go_blank (Z := Z) (nb := nb) (p := p + pK Z p c (c + a)) (c := c + a) (n := b) (empty := empty) (by omega) (by rw [s3, hb]) he
  have hb := (s_bound Z p c hp).1
  exact ⟨a1, a2, a3, b1, b2, b3, c1, by omega, by omega, by omega, .inl (by omega)⟩

theorem wayB2 {Z : List Nat} {nb : Bool} {p c a b : Nat} {empty : Bool} (hb : blk Z nb p c = true) (he : empty = false) (h1 : ¬ c + a ≤ sC Z p c) (hp : p ≤ Z.length) :
    WayA Z nb p c a b empty (p + sK Z p c) (sC Z p c) (p + sK Z p c) (sC Z p c) := by
  obtain ⟨a1, a2, a3⟩ := go_blank (n := a + b) (by omega) hb he
  obtain ⟨b1, b2, b3⟩ := go_blank h1 hb he
  obtain ⟨t1, t2⟩ := s_again Z p c
  have hbd := (s_bound Z p c hp).1
  by_cases hz : b = 0
  · subst hz
    obtain ⟨c1, c2, c3⟩ := go_yes (nb := nb) (empty := empty) (Z := Z) (p := p + sK Z p c) (c := sC Z p c) (n := 0) (by omega)
    have e0 : pK Z (p + sK Z p c) (sC Z p c) (sC Z p c + 0) = 0 := Cols.posAt_self _ _
    exact ⟨a1, a2, a3, b1, b2, b3, c1, by omega, by omega, by omega, .inr rfl⟩
  · obtain ⟨c1, c2, c3⟩ := go_blank (Z := Z) (nb := nb) (p := p + sK Z p c) (c := sC Z p c) (n := b) (empty := empty) (by omega) (by rw [end_same, hb]) he
    exact ⟨a1, a2, a3, b1, b2, b3, c1, by omega, by omega, by omega, .inr rfl⟩

structure WayC (Z : List Nat) (nb : Bool) (p c a b : Nat) (empty : Bool) (PA CA : Nat) : Prop where
  o : goOk Z nb p c (a + b) empty = false
  q : goPos Z nb p c (a + b) empty = p
  r : goCol Z nb p c (a + b) empty = c
  oa : goOk Z nb p c a empty = true
  qa : goPos Z nb p c a empty = PA
  ra : goCol Z nb p c a empty = CA
  ob : goOk Z nb PA CA b empty = false
  bp : PA ≤ Z.length
  bc : CA ≤ c + 65536

theorem wayC1 {Z : List Nat} {nb : Bool} {p c a b : Nat} {empty : Bool} (h : ¬ c + (a + b) ≤ sC Z p c) (hb : (blk Z nb p c && !empty) = false) (h1 : c + a ≤ sC Z p c) (hp : p ≤ Z.length) (ha : a ≤ 65536) :
    WayC Z nb p c a b empty (p + pK Z p c (c + a)) (c + a) := by
  obtain ⟨a1, a2, a3⟩ := go_no h hb
  obtain ⟨b1, b2, b3⟩ := go_yes (nb := nb) (empty := empty) h1
  obtain ⟨s1, s2, s3⟩ := step_same Z nb p c a (by omega)
  obtain ⟨c1, c2, c3⟩ := go_no (Z := Z) (nb := nb) (p := p + pK Z p c (c + a)) (c := c + a) (n := b) (empty := empty) (by omega) (by rw [s3, hb])
  have hb := (s_bound Z p c hp).1
  exact ⟨a1, a2, a3, b1, b2, b3, c1, by omega, by omega⟩
end Go.Proofs.Qxb6003629a
