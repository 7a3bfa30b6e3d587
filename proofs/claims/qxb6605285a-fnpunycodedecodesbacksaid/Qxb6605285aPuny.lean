import Derived.Test.Qxb6605285aBias
import Derived.Test.Qxb6605285aVli
namespace Puny

/-- the decoder's state between two code points -/
structure DSt where
  n : Nat
  i : Nat
  bias : Nat
  first : Bool
  out : List Nat

def insertAt (l : List Nat) (k x : Nat) : List Nat := l.take k ++ x :: l.drop k

theorem insertAt_length (l : List Nat) (k x : Nat) (h : k ≤ l.length) : (insertAt l k x).length = l.length + 1 := by
  unfold insertAt; simp; omega

/-- one code point read: delta -/
def decStep (st : DSt) (d : Nat) : DSt :=
  { n := st.n + (st.i + d) / (st.out.length + 1),
    i := (st.i + d) % (st.out.length + 1) + 1,
    bias := adapt d (st.out.length + 1) st.first,
    first := false,
    out := insertAt st.out ((st.i + d) % (st.out.length + 1)) (st.n + (st.i + d) / (st.out.length + 1)) }

theorem decStep_length (st : DSt) (d : Nat) : (decStep st d).out.length = st.out.length + 1 := by
  unfold decStep
  exact insertAt_length _ _ _ (by have := Nat.mod_lt (st.i + d) (show 0 < st.out.length + 1 by omega); omega)

def encAll : DSt → List Nat → List UInt8
  | _, [] => []
  | st, d :: r => enc 36 st.bias d ++ encAll (decStep st d) r

def run (st : DSt) (l : List Nat) : DSt := l.foldl decStep st

theorem encAll_snoc : ∀ (l : List Nat) (st : DSt) (d : Nat), encAll st (l ++ [d]) = encAll st l ++ enc 36 (run st l).bias d
  | [], st, d => by simp [encAll, run]
  | x :: l, st, d => by
    simp only [List.cons_append, encAll]
    rw [encAll_snoc l (decStep st x) d]
    simp [run, List.append_assoc]

theorem run_snoc (l : List Nat) (st : DSt) (d : Nat) : run st (l ++ [d]) = decStep (run st l) d := by
  unfold run; simp

/-- what the decoder's checks ask of every step -/
def Valid : DSt → List Nat → Prop
  | _, [] => True
  | st, d :: r => st.i + d ≤ 8589934592 ∧ st.bias ≤ 8589934592 ∧ (decStep st d).n ≤ 1114111 ∧ Valid (decStep st d) r

theorem valid_snoc : ∀ (l : List Nat) (st : DSt) (d : Nat), Valid st l → (run st l).i + d ≤ 8589934592 → (run st l).bias ≤ 8589934592 → (decStep (run st l) d).n ≤ 1114111 → Valid st (l ++ [d])
  | [], st, d, _, h1, h2, h3 => ⟨h1, h2, h3, trivial⟩
  | x :: l, st, d, h, h1, h2, h3 => by
    obtain ⟨a, b, c, e⟩ := h
    exact ⟨a, b, c, valid_snoc l (decStep st x) d e h1 h2 h3⟩

theorem run_length : ∀ (l : List Nat) (st : DSt), (run st l).out.length = st.out.length + l.length
  | [], st => by simp [run]
  | d :: l, st => by
    have h1 := run_length l (decStep st d)
    rw [decStep_length] at h1
    show (run (decStep st d) l).out.length = _
    rw [h1]; simp; omega

/-! ### the encoder's invariants over the runes R -/

/-- at the head of the outer loop -/
structure Head (R : List Nat) (st : DSt) (n delta : Nat) : Prop where
  out : st.out = R.filter (fun x => decide (x < n))
  le : st.n ≤ n
  eq : st.i + delta = (n - st.n) * (st.out.length + 1)

/-- in the pass for n, the runes before p behind it -/
structure Mid (R : List Nat) (st : DSt) (n delta p : Nat) : Prop where
  out : st.out = (R.take p).filter (fun x => decide (x ≤ n)) ++ (R.drop p).filter (fun x => decide (x < n))
  le : st.n ≤ n
  eq : st.i + delta = (n - st.n) * (st.out.length + 1) + ((R.take p).filter (fun x => decide (x ≤ n))).length

theorem filter_one (p : Nat → Bool) (x : Nat) : [x].filter p = if p x = true then [x] else [] := by
  rw [List.filter_cons, List.filter_nil]

theorem take_snoc (R : List Nat) (p : Nat) (h : p < R.length) : R.take (p + 1) = R.take p ++ [R.getD p 0] := by
  rw [List.take_succ_eq_append_getElem h]
  simp [List.getD_eq_getElem?_getD, h]

theorem drop_cons (R : List Nat) (p : Nat) (h : p < R.length) : R.drop p = R.getD p 0 :: R.drop (p + 1) := by
  rw [List.drop_eq_getElem_cons h]
  simp [List.getD_eq_getElem?_getD, h]

theorem mid_less {R : List Nat} {st : DSt} {n delta p : Nat} (h : Mid R st n delta p) (hp : p < R.length) (hr : R.getD p 0 < n) : Mid R st n (delta + 1) (p + 1) := by
  have e1 : (R.take (p + 1)).filter (fun x => decide (x ≤ n)) = (R.take p).filter (fun x => decide (x ≤ n)) ++ [R.getD p 0] := by
    rw [take_snoc R p hp, List.filter_append, filter_one, if_pos (by simp only [decide_eq_true_eq]; omega)]
  refine ⟨?_, h.le, ?_⟩
  · rw [h.out, e1, drop_cons R p hp, List.filter_cons, if_pos (by simpa using hr)]
    simp
  · rw [e1, List.length_append]
    have := h.eq
    simp only [List.length_singleton]
    omega

theorem mid_more {R : List Nat} {st : DSt} {n delta p : Nat} (h : Mid R st n delta p) (hp : p < R.length) (hr : n < R.getD p 0) : Mid R st n delta (p + 1) := by
  have e1 : (R.take (p + 1)).filter (fun x => decide (x ≤ n)) = (R.take p).filter (fun x => decide (x ≤ n)) := by
    rw [take_snoc R p hp, List.filter_append, filter_one, if_neg (by simp only [decide_eq_true_eq]; omega), List.append_nil]
  refine ⟨?_, h.le, ?_⟩
  · rw [h.out, e1, drop_cons R p hp, List.filter_cons, if_neg (by simp only [decide_eq_true_eq]; omega)]
  · rw [e1]; exact h.eq

theorem mid_step {R : List Nat} {st : DSt} {n delta p : Nat} (h : Mid R st n delta p) :
    (st.i + delta) / (st.out.length + 1) = n - st.n ∧ (st.i + delta) % (st.out.length + 1) = ((R.take p).filter (fun x => decide (x ≤ n))).length := by
  have hc : ((R.take p).filter (fun x => decide (x ≤ n))).length < st.out.length + 1 := by
    rw [h.out, List.length_append]; omega
  rw [h.eq, Nat.mul_comm, Nat.mul_add_div (by omega), Nat.mul_add_mod, Nat.div_eq_of_lt hc, Nat.mod_eq_of_lt hc]
  simp

theorem mid_same {R : List Nat} {st : DSt} {n delta p : Nat} (h : Mid R st n delta p) (hp : p < R.length) (hr : R.getD p 0 = n) :
    (decStep st delta).n = n ∧ Mid R (decStep st delta) n 0 (p + 1) := by
  obtain ⟨hd, hm⟩ := mid_step h
  have hn : (decStep st delta).n = n := by
    show st.n + (st.i + delta) / (st.out.length + 1) = n
    rw [hd]; have := h.le; omega
  have e1 : (R.take (p + 1)).filter (fun x => decide (x ≤ n)) = (R.take p).filter (fun x => decide (x ≤ n)) ++ [n] := by
    rw [take_snoc R p hp, List.filter_append, filter_one, if_pos (by simp only [decide_eq_true_eq]; omega), hr]
  refine ⟨hn, ⟨?_, by rw [hn]; exact Nat.le_refl _, ?_⟩⟩
  · show insertAt st.out ((st.i + delta) % (st.out.length + 1)) (st.n + (st.i + delta) / (st.out.length + 1)) = _
    have hn' : st.n + (st.i + delta) / (st.out.length + 1) = n := hn
    rw [hm, hn', e1]
    unfold insertAt
    have ho := h.out
    rw [drop_cons R p hp, List.filter_cons, if_neg (by simp only [decide_eq_true_eq]; omega)] at ho
    rw [ho, List.take_left, List.drop_left]
    simp
  · rw [hn, e1]
    show (st.i + delta) % (st.out.length + 1) + 1 + 0 = _
    rw [hm]; simp

theorem mid_end {R : List Nat} {st : DSt} {n delta : Nat} (h : Mid R st n delta R.length) : Head R st (n + 1) (delta + 1) := by
  have e : (R.take R.length).filter (fun x => decide (x ≤ n)) = R.filter (fun x => decide (x < n + 1)) := by
    rw [List.take_length]
    congr 1
    funext x
    by_cases hx : x ≤ n
    · simp [hx]; omega
    · simp [hx]; omega
  have ho : st.out = R.filter (fun x => decide (x < n + 1)) := by
    have := h.out
    rw [e, List.drop_length] at this
    simpa using this
  refine ⟨ho, by have := h.le; omega, ?_⟩
  have h1 := h.eq
  rw [e, ← ho] at h1
  have h2 : n + 1 - st.n = (n - st.n) + 1 := by have := h.le; omega
  rw [h2, Nat.add_mul]
  omega

theorem head_mid {R : List Nat} {st : DSt} {n delta m : Nat} (h : Head R st n delta) (hm : n ≤ m) (hmin : ∀ x ∈ R, n ≤ x → m ≤ x) : Mid R st m (delta + (m - n) * (st.out.length + 1)) 0 := by
  refine ⟨?_, by have := h.le; omega, ?_⟩
  · rw [h.out]
    simp only [List.take_zero, List.filter_nil, List.nil_append, List.drop_zero]
    apply List.filter_congr
    intro x hx
    by_cases hxn : x < n
    · simp [hxn]; omega
    · have := hmin x hx (by omega)
      simp [hxn]; omega
  · have h1 := h.eq
    have h2 : m - st.n = (n - st.n) + (m - n) := by have := h.le; omega
    simp only [List.take_zero, List.filter_nil, List.length_nil, Nat.add_zero]
    rw [h2, Nat.add_mul]
    omega

/-- while not all are handled there is a rune from n on -/
theorem head_some {R : List Nat} {st : DSt} {n delta : Nat} (h : Head R st n delta) (hl : st.out.length < R.length) : ∃ x ∈ R, n ≤ x := by
  by_cases hx : ∃ x ∈ R, n ≤ x
  · exact hx
  · have : R.filter (fun x => decide (x < n)) = R := by
      rw [List.filter_eq_self]
      intro a ha
      by_cases han : a < n
      · simpa using han
      · exact absurd ⟨a, ha, by omega⟩ hx
    rw [h.out, this] at hl
    omega

theorem head_done {R : List Nat} {st : DSt} {n delta : Nat} (h : Head R st n delta) (hl : ¬ st.out.length < R.length) : st.out = R := by
  have h1 : (R.filter (fun x => decide (x < n))).length ≤ R.length := List.length_filter_le _ _
  have h2 : (R.filter (fun x => decide (x < n))).length = R.length := by rw [h.out] at hl; omega
  rw [h.out]
  rw [List.filter_eq_self]
  exact List.length_filter_eq_length_iff.1 h2

theorem head_start (R : List Nat) : Head R { n := 128, i := 0, bias := 72, first := true, out := R.filter (fun x => decide (x < 128)) } 128 0 :=
  ⟨rfl, Nat.le_refl _, by simp⟩

/-- the bounds -/
theorem mid_bound {R : List Nat} {st : DSt} {n delta p : Nat} (h : Mid R st n delta p) (hn : n ≤ 1114111) (hR : R.length ≤ 4096) : st.i + delta ≤ 4564516863 ∧ st.out.length ≤ R.length := by
  have h1 : ((R.take p).filter (fun x => decide (x ≤ n))).length ≤ st.out.length := by rw [h.out, List.length_append]; omega
  have h2 : st.out.length ≤ R.length := by
    rw [h.out, List.length_append]
    have a := List.length_filter_le (fun x => decide (x ≤ n)) (R.take p)
    have b := List.length_filter_le (fun x => decide (x < n)) (R.drop p)
    have c : (R.take p).length + (R.drop p).length = R.length := by rw [← List.length_append, List.take_append_drop]
    omega
  refine ⟨?_, h2⟩
  rw [h.eq]
  have h3 : (n - st.n) * (st.out.length + 1) ≤ 1114111 * 4097 := Nat.mul_le_mul (by omega) (by omega)
  omega

theorem head_bound {R : List Nat} {st : DSt} {n delta : Nat} (h : Head R st n delta) (hn : n ≤ 1114112) (hR : R.length ≤ 4096) : st.i + delta ≤ 4564516864 ∧ st.out.length ≤ R.length := by
  have h2 : st.out.length ≤ R.length := by
    rw [h.out]; exact List.length_filter_le _ _
  refine ⟨?_, h2⟩
  rw [h.eq]
  have h3 : (n - st.n) * (st.out.length + 1) ≤ 1114112 * 4097 := Nat.mul_le_mul (by omega) (by omega)
  omega

theorem adapt_bound (d p : Nat) (f : Bool) (h : d ≤ 8589934592) : adapt d p f ≤ 8589934592 := by
  unfold adapt
  have h1 := biasOf_le (damp d p f)
  have h2 : damp d p f ≤ d := by
    unfold damp
    cases f
    · have := Nat.div_le_self (d / 2) p
      simp; omega
    · have := Nat.div_le_self (d / 700) p
      simp; omega
  omega
end Puny
