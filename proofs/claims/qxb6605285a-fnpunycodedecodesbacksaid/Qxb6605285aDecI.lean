import Derived.Test.Qxb6605285aEncI
namespace Go.Proofs.Qxb6605285a
open Go.Shelf
open Go.ChangeShapes Go.WideShapes Go.ChangeAt Go.RowKit
open Puny (DSt decStep encAll run Valid Head Mid)

/-- the byte at place i -/
def bt (S : List UInt8) (i : Nat) : Nat := (S.getD i 0).toNat

theorem idxL (S : List UInt8) (j : Nat) (h : j < S.length) (w : World) :
    (Instr.index 9 (.string ⟨S.toArray⟩) (.int .i64 j)).run Try.prog w = .ok (.int .u8 (bt S j : Nat)) w := by
  have hsz : (⟨S.toArray⟩ : ByteArray).size = S.length := sizeList S
  rw [run_index_string w 9 _ .i64 _ Try.underlying9, dif_pos ⟨by omega, by omega⟩]
  have : (⟨S.toArray⟩ : ByteArray)[(j : Int).toNat]'(by omega) = S.getD j 0 := by
    show (S.toArray)[(j : Int).toNat]'(by simp; omega) = _
    simp [List.getD_eq_getElem?_getD, h]
  rw [this]; rfl

theorem bt_append_left (A B : List UInt8) (i : Nat) (h : i < A.length) : bt (A ++ B) i = bt A i := by
  unfold bt
  rw [List.getD_eq_getElem?_getD, List.getD_eq_getElem?_getD, List.getElem?_append_left h]
theorem bt_append_right (A B : List UInt8) (i : Nat) : bt (A ++ B) (A.length + i) = bt B i := by
  unfold bt
  rw [List.getD_eq_getElem?_getD, List.getD_eq_getElem?_getD, List.getElem?_append_right (by omega)]
  simp
theorem bt_mem (A : List UInt8) (i : Nat) (h : i < A.length) : ∃ c ∈ A, bt A i = c.toNat := by
  refine ⟨A[i], List.getElem_mem h, ?_⟩
  unfold bt
  rw [List.getD_eq_getElem?_getD, List.getElem?_eq_getElem h]; rfl

/-- the last hyphen before place j -/
def Dash (S : List UInt8) (j : Nat) (z : Int) : Prop :=
  (z = -1 ∧ ∀ i, i < j → bt S i ≠ 45) ∨ (∃ k : Nat, k < j ∧ z = (k : Int) ∧ bt S k = 45 ∧ ∀ i, k < i → i < j → bt S i ≠ 45)

theorem Dash.yes {S : List UInt8} {j : Nat} (hb : bt S j = 45) : Dash S (j + 1) (j : Int) :=
  .inr ⟨j, by omega, rfl, hb, fun i h1 h2 => by omega⟩
theorem Dash.no {S : List UInt8} {j : Nat} {z : Int} (h : Dash S j z) (hb : bt S j ≠ 45) : Dash S (j + 1) z := by
  rcases h with ⟨h1, h2⟩ | ⟨k, hk, e, h2, h3⟩
  · refine .inl ⟨h1, fun i hi => ?_⟩
    by_cases e : i = j
    · subst e; exact hb
    · exact h2 i (by omega)
  · refine .inr ⟨k, by omega, e, h2, fun i h4 h5 => ?_⟩
    by_cases e : i = j
    · subst e; exact hb
    · exact h3 i h4 (by omega)

theorem dash_none {E : List UInt8} (hE : ∀ c ∈ E, c.toNat ≠ 45) {z : Int} (h : Dash E E.length z) : z = -1 := by
  rcases h with ⟨h1, _⟩ | ⟨k, hk, e, h2, h3⟩
  · exact h1
  · obtain ⟨c, hc, e2⟩ := bt_mem E k hk
    exact absurd (e2 ▸ h2) (hE c hc)

theorem dash_at {A E : List UInt8} (hE : ∀ c ∈ E, c.toNat ≠ 45) {z : Int} (h : Dash ((A ++ [45]) ++ E) ((A ++ [45]) ++ E).length z) : z = (A.length : Int) := by
  have hat : bt ((A ++ [45]) ++ E) A.length = 45 := by
    rw [bt_append_left _ _ _ (by simp)]
    simp [bt]
  have haft : ∀ i, A.length < i → i < ((A ++ [45]) ++ E).length → bt ((A ++ [45]) ++ E) i ≠ 45 := by
    intro i h1 h2
    simp only [List.length_append, List.length_cons, List.length_nil] at h2
    have h3 : i = (A ++ [45]).length + (i - (A.length + 1)) := by simp; omega
    rw [h3, bt_append_right]
    obtain ⟨c, hc, e2⟩ := bt_mem E (i - (A.length + 1)) (by omega)
    rw [e2]; exact hE c hc
  rcases h with ⟨_, h2⟩ | ⟨k, hk, e, h2, h3⟩
  · exact absurd hat (h2 A.length (by simp))
  · by_cases h4 : k < A.length
    · exact absurd hat (h3 A.length h4 (by simp))
    · by_cases h5 : A.length < k
      · exact absurd h2 (haft k h5 hk)
      · omega

theorem vli_lt (k bias q : Nat) : ∀ x ∈ Puny.vli k bias q, x < 36 := by
  intro x hx
  obtain ⟨i, hi, e⟩ := List.mem_iff_getElem.1 hx
  have := (Puny.good_at bias (Puny.vli k bias q) k i (Puny.good_vli q k bias q (Nat.le_refl _)) hi).1
  rw [List.getD_eq_getElem?_getD, List.getElem?_eq_getElem hi] at this
  rw [← e]; exact this

theorem chr_ne (d : Nat) (h : d < 36) : (Puny.chr d).toNat ≠ 45 := by
  rw [Puny.chr_toNat d h]; split <;> omega

theorem enc_ne (k bias q : Nat) : ∀ c ∈ Puny.enc k bias q, c.toNat ≠ 45 := by
  intro c hc
  unfold Puny.enc at hc
  obtain ⟨d, hd, rfl⟩ := List.mem_map.1 hc
  exact chr_ne d (vli_lt k bias q d hd)

theorem encAll_ne : ∀ (l : List Nat) (st : DSt), ∀ c ∈ encAll st l, c.toNat ≠ 45
  | [], st, c, hc => by simp [encAll] at hc
  | d :: l, st, c, hc => by
    simp only [encAll, List.mem_append] at hc
    rcases hc with hc | hc
    · exact enc_ne _ _ _ c hc
    · exact encAll_ne l (decStep st d) c hc

/-- the basic bytes are the basic runes -/
theorem basic_bt (R : List Nat) (j : Nat) (h : j < (basicB R).length) : bt (basicB R) j = rn (st0 R).out j ∧ rn (st0 R).out j < 128 := by
  have h' : j < (R.filter (fun x => decide (x < 128))).length := by rw [← basicB_length]; exact h
  have hlt : (R.filter (fun x => decide (x < 128)))[j] < 128 := by
    have := (List.mem_filter.1 (List.getElem_mem h')).2
    simpa using this
  have e2 : rn (st0 R).out j = (R.filter (fun x => decide (x < 128)))[j] := by
    unfold rn st0
    simp only []
    rw [List.getD_eq_getElem?_getD, List.getElem?_eq_getElem h']; rfl
  refine ⟨?_, by rw [e2]; exact hlt⟩
  rw [e2]
  unfold bt
  have e3 : (basicB R).getD j 0 = UInt8.ofNat ((R.filter (fun x => decide (x < 128)))[j]) := by
    unfold basicB
    rw [List.getD_eq_getElem?_getD, List.getElem?_map, List.getElem?_eq_getElem h']; rfl
  rw [e3, UInt8.toNat_ofNat']
  omega

/-! ### the row of runes that the decoder builds -/
def OR (B g cap : Nat) (xs : List Value) (w : World) : Prop := w.ownsRow B 21 1 (.slice (some ⟨g, 0, none⟩) xs.length cap) xs.length xs

theorem OR.cells {B g cap : Nat} {xs : List Value} {w : World} (h : OR B g cap xs w) (i : Nat) (u : Value) (hu : xs[i]? = some u) : w.cell? ⟨g, i, none⟩ = some u := by
  have := World.ownsRow.cells h (g := g) rfl i u hu
  rw [Addr.add_lit, Nat.zero_add] at this
  exact this

theorem OR.block {B g cap : Nat} {xs : List Value} {w : World} (h : OR B g cap xs w) : B ≤ g ∧ g < w.heap.size := World.ownsRow.lt h g rfl

theorem OR.free {B g cap : Nat} {xs : List Value} {w : World} (h : OR B g cap xs w) (i : Nat) : w.frozen? ⟨g, i, none⟩ = false := by
  rcases h.2 with ⟨e, _⟩ | ⟨g', cap', cur, e, _, hg, _⟩
  · injection e with e1; cases e1
  · injection e with e1
    injection e1 with e1
    injection e1 with e1
    subst e1
    exact Lib.frozen_of_heap hg i

theorem OR.set {B g cap : Nat} {xs : List Value} {w : World} (h : OR B g cap xs w) (j : Nat) (u : Value) : OR B g cap (xs.set j u) (w.setCell ⟨g, j, none⟩ u) := by
  unfold OR
  rw [List.length_set]
  obtain ⟨_, h2⟩ := h
  refine ⟨by simp, ?_⟩
  rcases h2 with ⟨e, _⟩ | ⟨g', cap', cur, e, hB, hg, h3, h4, h5, h6⟩
  · injection e with e1; cases e1
  · injection e with e1 e2 e3
    injection e1 with e1
    injection e1 with e1
    subst e1 e3
    refine .inr ⟨g, cap, cur.setIfInBounds j u, rfl, hB, ?_, h3, h4, by simpa using h5, ?_⟩
    · simp only [World.setCell, Array.getElem?_modify]
      rw [if_pos trivial, hg]; rfl
    · have e4 : (cur.setIfInBounds j u).toList = cur.toList.set j u := by simp
      rw [e4, List.take_set, h6]
end Go.Proofs.Qxb6605285a
