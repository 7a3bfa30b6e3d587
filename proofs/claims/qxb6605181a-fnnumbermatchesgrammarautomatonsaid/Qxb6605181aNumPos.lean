import Derived.Test.Qxb6605181aNum
namespace Go.Proofs.Qxb6605181a
open Go.ChangeShapes Go.WideShapes Go.ChangeAt Go.RowKit
open NumLaw (sgnLen intLen fracLen expLen tailLen numLen nd)

/-- where the number that begins at i ends -/
def nEnd (s : ByteArray) (i : Nat) : Option Nat := (numLen (rest s i)).map (i + ·)
def numStr (s : ByteArray) (i : Nat) : ByteArray := match nEnd s i with | some e => s.extract i e | none => ⟨#[]⟩

def T1 (l : List UInt8) : Option Nat := match intLen l with | none => none | some b => (tailLen (l.drop b)).map (· + b)

theorem rest_rest (s : ByteArray) (i k : Nat) : (rest s i).drop k = rest s (i + k) := by
  unfold rest; rw [List.drop_drop]

theorem map_add (o : Option Nat) (a b : Nat) : (o.map (· + a)).map (b + ·) = o.map (b + a + ·) := by
  cases o <;> simp; omega

theorem numLen_T1 (l : List UInt8) : numLen l = (T1 (l.drop (sgnLen l))).map (· + sgnLen l) := by
  unfold numLen T1 tailLen
  generalize sgnLen l = a
  simp only []
  cases intLen (l.drop a) with
  | none => rfl
  | some b =>
    simp only [List.drop_drop]
    cases fracLen (l.drop (a + b)) with
    | none => rfl
    | some c =>
      simp only []
      cases expLen (l.drop (a + b + c)) with
      | none => rfl
      | some d => simp; omega

theorem bt_iff (s : ByteArray) (k : Nat) (c : UInt8) : s.data.toList.getD k 0 = c ↔ byteAt s k = c.toNat := eq_iff _ _

/-- stage 1 -/
theorem nEnd1_yes (s : ByteArray) (i : Nat) (h : i < s.size) (hb : byteAt s i = 45) : nEnd s i = (T1 (rest s (i + 1))).map (i + 1 + ·) := by
  unfold nEnd
  rw [numLen_T1, rest_rest, map_add]
  have : sgnLen (rest s i) = 1 := by
    rw [rest_at s i h, sgnLen, if_pos ((bt_iff s i 45).2 hb)]
  rw [this]

theorem nEnd1_no (s : ByteArray) (i : Nat) (hb : ¬ (i < s.size ∧ byteAt s i = 45)) : nEnd s i = (T1 (rest s i)).map (i + ·) := by
  unfold nEnd
  rw [numLen_T1, rest_rest, map_add]
  have : sgnLen (rest s i) = 0 := by
    by_cases h : i < s.size
    · rw [rest_at s i h, sgnLen, if_neg (fun e => hb ⟨h, (bt_iff s i 45).1 e⟩)]
    · rw [rest_end s i h, sgnLen]
  rw [this]; rfl

/-- stage 2 -/
theorem T1_zero (s : ByteArray) (p : Nat) (h : p < s.size) (hb : byteAt s p = 48) : (T1 (rest s p)).map (p + ·) = (tailLen (rest s (p + 1))).map (p + 1 + ·) := by
  unfold T1
  have : intLen (rest s p) = some 1 := by
    rw [rest_at s p h, intLen, if_pos ((bt_iff s p 48).2 hb)]
  rw [this]
  simp only [rest_rest, map_add]

theorem T1_digits (s : ByteArray) (p : Nat) (h : p < s.size) (h1 : 49 ≤ byteAt s p) (h2 : byteAt s p ≤ 57) : (T1 (rest s p)).map (p + ·) = (tailLen (rest s (dEnd s p))).map (dEnd s p + ·) := by
  unfold T1
  have : intLen (rest s p) = some (nd (rest s p)) := by
    rw [rest_at s p h, intLen, if_neg (fun e => by have := (eq_iff _ _).1 e; rw [← byteAt_eq] at this; have e2 : (48 : UInt8).toNat = 48 := rfl; omega),
      if_pos ((dig_iff _).2 ⟨by rw [← byteAt_eq]; omega, by rw [← byteAt_eq]; omega⟩), nd, if_pos ((dig_iff _).2 ⟨by rw [← byteAt_eq]; omega, by rw [← byteAt_eq]; omega⟩)]
  rw [this]
  simp only [rest_rest, map_add]
  rfl

theorem T1_none (s : ByteArray) (p : Nat) (h : ¬ (p < s.size ∧ 48 ≤ byteAt s p ∧ byteAt s p ≤ 57)) : (T1 (rest s p)).map (p + ·) = none := by
  unfold T1
  have : intLen (rest s p) = none := by
    by_cases hp : p < s.size
    · rw [rest_at s p hp, intLen, if_neg (fun e => by have := (eq_iff _ _).1 e; rw [← byteAt_eq] at this; have e2 : (48 : UInt8).toNat = 48 := rfl; omega),
        if_neg (fun e => h ⟨hp, by rw [byteAt_eq]; exact (dig_iff _).1 e⟩)]
    · rw [rest_end s p hp, intLen]
  rw [this]; rfl

/-- stage 3 -/
theorem tail_no (s : ByteArray) (p : Nat) (h : ¬ (p < s.size ∧ byteAt s p = 46)) : (tailLen (rest s p)).map (p + ·) = (expLen (rest s p)).map (p + ·) := by
  have : fracLen (rest s p) = some 0 := by
    by_cases hp : p < s.size
    · rw [rest_at s p hp, fracLen, if_neg (fun e => h ⟨hp, (bt_iff s p 46).1 e⟩)]
    · rw [rest_end s p hp, fracLen]
  unfold tailLen
  rw [this]
  simp

theorem tail_bad (s : ByteArray) (p : Nat) (h : p < s.size) (hb : byteAt s p = 46) (hd : dEnd s (p + 1) = p + 1) : (tailLen (rest s p)).map (p + ·) = none := by
  have hn : nd (rest s (p + 1)) = 0 := by unfold dEnd at hd; omega
  have : fracLen (rest s p) = none := by
    rw [rest_at s p h, fracLen, if_pos ((bt_iff s p 46).2 hb), if_pos hn]
  unfold tailLen
  rw [this]; rfl

theorem tail_yes (s : ByteArray) (p : Nat) (h : p < s.size) (hb : byteAt s p = 46) (hd : dEnd s (p + 1) ≠ p + 1) :
    (tailLen (rest s p)).map (p + ·) = (expLen (rest s (dEnd s (p + 1)))).map (dEnd s (p + 1) + ·) := by
  have hn : nd (rest s (p + 1)) ≠ 0 := by unfold dEnd at hd; omega
  have : fracLen (rest s p) = some (nd (rest s (p + 1)) + 1) := by
    rw [rest_at s p h, fracLen, if_pos ((bt_iff s p 46).2 hb), if_neg hn]
  unfold tailLen
  rw [this]
  simp only [rest_rest, map_add]
  have e : p + (nd (rest s (p + 1)) + 1) = dEnd s (p + 1) := by unfold dEnd; omega
  rw [e]

theorem or_map {a b c d : Prop} (h : a ∨ b) (f : a → c) (g : b → d) : c ∨ d :=
  match h with
  | .inl x => .inl (f x)
  | .inr x => .inr (g x)

/-- stage 4 -/
theorem exp_no (s : ByteArray) (p : Nat) (h : ¬ (p < s.size ∧ (byteAt s p = 101 ∨ byteAt s p = 69))) : (expLen (rest s p)).map (p + ·) = some p := by
  have : expLen (rest s p) = some 0 := by
    by_cases hp : p < s.size
    · rw [rest_at s p hp]
      unfold NumLaw.expLen
      simp only []
      rw [if_neg (fun e => h ⟨hp, or_map e (bt_iff s p 101).1 (bt_iff s p 69).1⟩)]
    · rw [rest_end s p hp, expLen]
  rw [this]; rfl

/-- where the exponent's digits begin: behind the sign, if there is one -/
theorem exp_sign (s : ByteArray) (p : Nat) (h : p < s.size) (hb : byteAt s p = 101 ∨ byteAt s p = 69) (h1 : p + 1 < s.size) (hs : byteAt s (p + 1) = 43 ∨ byteAt s (p + 1) = 45) :
    (expLen (rest s p)).map (p + ·) = if dEnd s (p + 2) = p + 2 then none else some (dEnd s (p + 2)) := by
  have : expLen (rest s p) = if nd (rest s (p + 2)) = 0 then none else some (nd (rest s (p + 2)) + 2) := by
    rw [rest_at s p h, rest_at s (p + 1) h1, expLen, if_pos (or_map hb (bt_iff s p 101).2 (bt_iff s p 69).2), if_pos (or_map hs (bt_iff s (p + 1) 43).2 (bt_iff s (p + 1) 45).2)]
  rw [this]
  unfold dEnd
  split <;> split <;> simp <;> omega

theorem exp_nosign (s : ByteArray) (p : Nat) (h : p < s.size) (hb : byteAt s p = 101 ∨ byteAt s p = 69) (hs : ¬ (p + 1 < s.size ∧ (byteAt s (p + 1) = 43 ∨ byteAt s (p + 1) = 45))) :
    (expLen (rest s p)).map (p + ·) = if dEnd s (p + 1) = p + 1 then none else some (dEnd s (p + 1)) := by
  have : expLen (rest s p) = if nd (rest s (p + 1)) = 0 then none else some (nd (rest s (p + 1)) + 1) := by
    by_cases h1 : p + 1 < s.size
    · rw [rest_at s p h, rest_at s (p + 1) h1, expLen, if_pos (or_map hb (bt_iff s p 101).2 (bt_iff s p 69).2), if_neg (fun e => hs ⟨h1, or_map e (bt_iff s (p + 1) 43).1 (bt_iff s (p + 1) 45).1⟩)]
    · rw [rest_at s p h, rest_end s (p + 1) h1, expLen, if_pos (or_map hb (bt_iff s p 101).2 (bt_iff s p 69).2)]
      simp [nd]
  rw [this]
  unfold dEnd
  split <;> split <;> simp <;> omega

theorem nd_le : ∀ l : List UInt8, nd l ≤ l.length
  | [] => by simp [nd]
  | c :: t => by have := nd_le t; simp only [nd]; split <;> simp <;> omega

theorem dEnd_le (s : ByteArray) (p : Nat) (h : p ≤ s.size) : p ≤ dEnd s p ∧ dEnd s p ≤ s.size := by
  have := nd_le (rest s p)
  have e : (rest s p).length = s.size - p := by simp [rest]
  unfold dEnd; omega

/-- the byte before the digits' end -/
theorem before_dEnd (s : ByteArray) : ∀ (n p : Nat), p + n = s.size → dEnd s p ≠ p → byteAt s (dEnd s p - 1) ≠ 46
  | 0, p, hn, h => absurd (dEnd_out s p (by omega)) h
  | n + 1, p, hn, h => by
    have hp : p < s.size := by omega
    by_cases hd : 48 ≤ byteAt s p ∧ byteAt s p ≤ 57
    · have e := dEnd_yes s p hp hd.1 hd.2
      by_cases hq : dEnd s (p + 1) = p + 1
      · rw [← e, hq, Nat.add_sub_cancel]; omega
      · rw [← e]; exact before_dEnd s n (p + 1) (by omega) hq
    · exact absurd (dEnd_no s p hp hd) h
end Go.Proofs.Qxb6605181a
