import Derived.Test.Qxb6605285aRune
import Derived.Deep.DeepCutAuto
import Derived.Deep.CutBlock
namespace Go.Proofs.Qxb6605285a
open Go.Shelf
open Go.ChangeShapes Go.WideShapes Go.ChangeAt Go.RowKit
open Puny (DSt decStep encAll run Valid Head Mid)

/-- the rune at place i -/
def rn (R : List Nat) (i : Nat) : Nat := R.getD i 0

/-- the basic runes as bytes -/
def basicB (l : List Nat) : List UInt8 := (l.filter (fun x => decide (x < 128))).map UInt8.ofNat
def pre (R : List Nat) : List UInt8 := basicB R ++ (if (basicB R).length = 0 then [] else [45])
def st0 (R : List Nat) : DSt := { n := 128, i := 0, bias := 72, first := true, out := R.filter (fun x => decide (x < 128)) }

theorem basicB_length (l : List Nat) : (basicB l).length = (l.filter (fun x => decide (x < 128))).length := by unfold basicB; simp

theorem basicB_snoc_yes (R : List Nat) (k : Nat) (h : k < R.length) (hr : rn R k < 128) : basicB (R.take (k + 1)) = basicB (R.take k) ++ [UInt8.ofNat (rn R k)] := by
  unfold basicB
  rw [Puny.take_snoc R k h, List.filter_append, Puny.filter_one, if_pos (by simp only [decide_eq_true_eq]; exact hr)]
  simp [rn]
theorem basicB_snoc_no (R : List Nat) (k : Nat) (h : k < R.length) (hr : ¬ rn R k < 128) : basicB (R.take (k + 1)) = basicB (R.take k) := by
  unfold basicB
  rw [Puny.take_snoc R k h, List.filter_append, Puny.filter_one, if_neg (by simp only [decide_eq_true_eq]; exact hr)]
  simp

theorem cell_row {w : World} {g : Nat} {C : Array Value} {R : List Nat} (h : w.heap[g]? = some (.cells C 21 (0, 0))) (hC : ∀ i, i < R.length → C[i]? = some (.int .i32 (rn R i : Nat))) (i : Nat) (hi : i < R.length) :
    w.cell? ⟨g, i, none⟩ = some (.int .i32 (rn R i : Nat)) := by
  rw [Lib.cell_of_heap h]; exact hC i hi

theorem row_kept {w w' : World} {g b : Nat} {C : Array Value} (k : Lib.OthersKept 5 (some b) w w') (hgb : g ≠ b) (h : w.heap[g]? = some (.cells C 21 (0, 0))) : w'.heap[g]? = some (.cells C 21 (0, 0)) :=
  k g _ h (by simpa using hgb) (by intro c fz e; injection e with _ e2; exact absurd e2 (by decide))

/-! ### the encoder's state, ghost and all -/
structure EncI (R : List Nat) (nb : Nat) (D : List Nat) (st : DSt) : Prop where
  eq : st = run (st0 R) D
  valid : Valid (st0 R) D
  bias : st.bias ≤ 8589934592
  first : st.first = decide (st.out.length = nb)
  ge : nb ≤ st.out.length
  lenD : nb + D.length = st.out.length

theorem EncI.start (R : List Nat) (nb : Nat) (h : (st0 R).out.length = nb) : EncI R nb [] (st0 R) :=
  ⟨rfl, trivial, by show 72 ≤ _; omega, by rw [h]; simp [st0], by omega, by simp; omega⟩

theorem EncI.step {R : List Nat} {nb : Nat} {D : List Nat} {st : DSt} (h : EncI R nb D st) (d : Nat) (h1 : st.i + d ≤ 8589934592) (h2 : (decStep st d).n ≤ 1114111) : EncI R nb (D ++ [d]) (decStep st d) := by
  have hl := Puny.decStep_length st d
  refine ⟨?_, ?_, ?_, ?_, ?_, ?_⟩
  · rw [Puny.run_snoc, ← h.eq]
  · exact Puny.valid_snoc D (st0 R) d h.valid (by rw [← h.eq]; exact h1) (by rw [← h.eq]; exact h.bias) (by rw [← h.eq]; exact h2)
  · exact Puny.adapt_bound d _ _ (by omega)
  · show false = _
    have := h.ge
    rw [eq_comm, decide_eq_false_iff_not]; omega
  · have := h.ge; omega
  · have := h.lenD; simp; omega

theorem EncI.bytes {R : List Nat} {nb : Nat} {D : List Nat} {st : DSt} (h : EncI R nb D st) (d : Nat) : pre R ++ encAll (st0 R) (D ++ [d]) = (pre R ++ encAll (st0 R) D) ++ Puny.enc 36 st.bias d := by
  rw [Puny.encAll_snoc, ← h.eq, List.append_assoc]

theorem encAll_len : ∀ (l : List Nat) (st : DSt), Valid st l → (encAll st l).length ≤ 20 * l.length
  | [], st, _ => by simp [encAll]
  | d :: l, st, h => by
    obtain ⟨h1, _, _, h4⟩ := h
    have a := encAll_len l (decStep st d) h4
    have b := Puny.enc_len 36 st.bias d (by omega)
    simp only [encAll, List.length_append, List.length_cons]
    omega

theorem pre_len (R : List Nat) : (pre R).length ≤ R.length + 1 := by
  have : (basicB R).length ≤ R.length := by rw [basicB_length]; exact List.length_filter_le _ _
  unfold pre
  split <;> simp <;> omega

theorem EncI.len {R : List Nat} {nb : Nat} {D : List Nat} {st : DSt} (h : EncI R nb D st) (h1 : st.out.length ≤ 4096) (hR : R.length ≤ 4096) : (pre R ++ encAll (st0 R) D).length ≤ 90000 := by
  have a := encAll_len D (st0 R) h.valid
  have b := pre_len R
  have c := h.lenD
  rw [List.length_append]; omega

/-- what the search for the next rune holds behind k runes -/
def NextOf (R : List Nat) (n k : Nat) (z : Int) : Prop :=
  (z = -1 ∧ ∀ i, i < k → rn R i < n) ∨ ((∃ i, i < k ∧ z = (rn R i : Int)) ∧ (n : Int) ≤ z ∧ ∀ i, i < k → n ≤ rn R i → z ≤ (rn R i : Int))

theorem NextOf.lo {R : List Nat} {n k : Nat} {z : Int} (h : NextOf R n k z) (hr : rn R k < n) : NextOf R n (k + 1) z := by
  rcases h with ⟨h1, h2⟩ | ⟨⟨i, hi, e⟩, h2, h3⟩
  · refine .inl ⟨h1, fun i hi => ?_⟩
    by_cases e : i = k
    · subst e; exact hr
    · exact h2 i (by omega)
  · refine .inr ⟨⟨i, by omega, e⟩, h2, fun j hj hn => ?_⟩
    by_cases e2 : j = k
    · subst e2; omega
    · exact h3 j (by omega) hn

theorem NextOf.hit {R : List Nat} {n k : Nat} {z : Int} (h : NextOf R n k z) (hr : n ≤ rn R k) (hz : z < 0 ∨ (rn R k : Int) < z) : NextOf R n (k + 1) (rn R k : Int) := by
  refine .inr ⟨⟨k, by omega, rfl⟩, by omega, fun j hj hn => ?_⟩
  by_cases e2 : j = k
  · subst e2; omega
  · rcases h with ⟨h1, h2⟩ | ⟨⟨i, hi, e⟩, h2, h3⟩
    · have := h2 j (by omega); omega
    · have := h3 j (by omega) hn; omega

theorem NextOf.miss {R : List Nat} {n k : Nat} {z : Int} (h : NextOf R n k z) (hz : ¬ (z < 0 ∨ (rn R k : Int) < z)) : NextOf R n (k + 1) z := by
  rcases h with ⟨h1, h2⟩ | ⟨⟨i, hi, e⟩, h2, h3⟩
  · omega
  · refine .inr ⟨⟨i, by omega, e⟩, h2, fun j hj hn => ?_⟩
    by_cases e2 : j = k
    · subst e2; omega
    · exact h3 j (by omega) hn

theorem mem_rn {R : List Nat} {x : Nat} (h : x ∈ R) : ∃ i, i < R.length ∧ rn R i = x := by
  obtain ⟨i, hi, e⟩ := List.mem_iff_getElem.1 h
  exact ⟨i, hi, by unfold rn; simp [List.getD_eq_getElem?_getD, hi, e]⟩

theorem rn_mem {R : List Nat} {i : Nat} (h : i < R.length) : rn R i ∈ R := by
  unfold rn
  simp [List.getD_eq_getElem?_getD, h]

theorem NextOf.found {R : List Nat} {n : Nat} {z : Int} (h : NextOf R n R.length z) (hx : ∃ x ∈ R, n ≤ x) : ∃ m : Nat, z = (m : Int) ∧ m ∈ R ∧ n ≤ m ∧ ∀ x ∈ R, n ≤ x → m ≤ x := by
  obtain ⟨x, hx, hn⟩ := hx
  obtain ⟨i, hi, e⟩ := mem_rn hx
  rcases h with ⟨h1, h2⟩ | ⟨⟨j, hj, e2⟩, h2, h3⟩
  · have := h2 i hi; omega
  · refine ⟨rn R j, e2, rn_mem hj, by omega, fun y hy hny => ?_⟩
    obtain ⟨k, hk, e3⟩ := mem_rn hy
    have := h3 k hk (by omega)
    omega

/-- a pass handles at least one rune -/
theorem pass_more {R : List Nat} {st st' : DSt} {n m d d' : Nat} (h : Head R st n d) (h' : Head R st' (m + 1) d') (hm : m ∈ R) (hnm : n ≤ m) : st.out.length < st'.out.length := by
  rw [h.out, h'.out]
  have aux : ∀ l : List Nat, (l.filter (fun x => decide (x < n))).length ≤ (l.filter (fun x => decide (x < m + 1))).length ∧ (m ∈ l → (l.filter (fun x => decide (x < n))).length < (l.filter (fun x => decide (x < m + 1))).length) := by
    intro l
    induction l with
    | nil => simp
    | cons a t ih =>
      obtain ⟨i1, i2⟩ := ih
      simp only [List.filter_cons]
      by_cases ha : a < n
      · have hb : a < m + 1 := by omega
        simp only [ha, hb, decide_true, if_true, List.length_cons, List.mem_cons]
        refine ⟨by omega, fun hx => ?_⟩
        rcases hx with e | hx
        · omega
        · have := i2 hx; omega
      · by_cases hb : a < m + 1
        · simp only [ha, hb, decide_true, decide_false, if_true, List.length_cons]
          refine ⟨?_, fun _ => ?_⟩ <;> simp <;> omega
        · simp only [ha, hb, decide_false, List.mem_cons]
          refine ⟨by simpa using i1, fun hx => ?_⟩
          rcases hx with e | hx
          · omega
          · simpa using i2 hx
  exact (aux R).2 hm

end Go.Proofs.Qxb6605285a
