import Derived.Test.Qxb6003629aCur
namespace Go.Proofs.Qxb6003629a
open Go.ChangeShapes Go.WideShapes Go.ChangeAt Go.RowKit
open Cols (nxt scan)

def sK (Z : List Nat) (p c : Nat) : Nat := (scan (Z.drop p) c).1
def sC (Z : List Nat) (p c : Nat) : Nat := (scan (Z.drop p) c).2

theorem drop_zn (Z : List Nat) (k : Nat) (h : k < Z.length) : Z.drop k = zn Z k :: Z.drop (k + 1) := by
  rw [List.drop_eq_getElem_cons h]
  simp [zn, List.getD_eq_getElem?_getD, h]

theorem s_yes (Z : List Nat) (p c : Nat) (h : p < Z.length) (hx : zn Z p = 32 ∨ zn Z p = 9) : sK Z p c = sK Z (p + 1) (nxt c (zn Z p)) + 1 ∧ sC Z p c = sC Z (p + 1) (nxt c (zn Z p)) := by
  unfold sK sC
  rw [drop_zn Z p h, Cols.scan_yes _ _ _ hx]
  exact ⟨rfl, rfl⟩
theorem s_no (Z : List Nat) (p c : Nat) (h : p < Z.length) (hx : ¬ (zn Z p = 32 ∨ zn Z p = 9)) : sK Z p c = 0 ∧ sC Z p c = c := by
  unfold sK sC
  rw [drop_zn Z p h, Cols.scan_no _ _ _ hx]
  exact ⟨rfl, rfl⟩
theorem s_end (Z : List Nat) (p c : Nat) (h : ¬ p < Z.length) : sK Z p c = 0 ∧ sC Z p c = c := by
  unfold sK sC
  rw [List.drop_of_length_le (by omega)]
  exact ⟨rfl, rfl⟩

section
variable {c t : Nat} {a : Option Addr} {n cap : Nat} {Z : List Nat} {nb : Bool} {fns fnc ind : Int} {bl : Bool} {w : World}

set_option maxHeartbeats 1000000 in
theorem nonspace_calls (pos col : Nat) (h : Cur c t a n cap Z nb pos col fns fnc ind bl w) (hp : pos ≤ n) (hn : n ≤ 1048576) (hc : col ≤ 1073741824 + 4194304) :
    Calls Try.prog 26 #[.pointer (some ⟨c, 0, none⟩)] w fun e w' => e = .returned (.tuple #[]) ∧ Cur c t a n cap Z nb pos col (pos + sK Z pos col : Nat) (sC Z pos col : Nat) ((sC Z pos col : Int) - (col : Int)) ((atB Z nb (pos + sK Z pos col) : Int) == 0) w' ∧ OnlyAt c w w' := by
  have H : Hid (Cur c t a n cap Z nb pos col fns fnc ind bl w) := h
  have c2 := h.p
  have c3 := h.q
  have hlen := h.len
  clear h
  go_enter Try.func26, Try.ntmps26
  go_wp2_with fail
  go_quiet (fail)
  go_wp2_with fail
  go_loopg [2, 3, 4] (n - pos) (fun gh x2 x3 x4 wx => ∃ (p q m : Nat), wx = w.drewN m ∧ pos ≤ p ∧ p ≤ n ∧ gh = n - p ∧ x2 = .int .i64 p ∧ x3 = .int .i64 q ∧ x4 = .int .i64 (4 - (q : Int) % 4) ∧ q ≤ col + 4 * (p - pos) ∧ p + sK Z p q = pos + sK Z pos col ∧ sC Z p q = sC Z pos col)
  case atStart => exact ⟨pos, col, nq, rfl, by omega, hp, rfl, rfl, rfl, rfl, by omega, rfl, rfl⟩
  case round =>
    obtain ⟨p, q, m, rfl, hp1, hp2, hg, rfl, rfl, rfl, hq, e1, e2⟩ := hrel
    have HG : Hid (gk = n - p) := hg
    have E1 : Hid (p + sK Z p q = pos + sK Z pos col) := e1
    have E2 : Hid (sC Z p q = sC Z pos col) := e2
    clear hg e1 e2
    go_wp2_with fail
    refine (at_calls (H.out.drewN m) p).mono ?_
    rintro e w2 ⟨rfl, rfl⟩
    by_cases hb : p < n ∧ (zn Z p = 32 ∨ zn Z p = 9)
    · obtain ⟨hlt, hb⟩ := hb
      obtain ⟨y1, y2⟩ := s_yes Z p q (by omega) hb
      have EA : Hid (atB Z nb p = zn Z p) := if_pos (by omega)
      rcases hb with hb | hb
      · have F1 : Hid (p + 1 + sK Z (p + 1) (q + 1) = pos + sK Z pos col) := by
          have h1 := E1.out; have h2 : nxt q (zn Z p) = q + 1 := by rw [hb]; rfl
          rw [h2] at y1; unfold Hid; omega
        have F2 : Hid (sC Z (p + 1) (q + 1) = sC Z pos col) := by
          have h1 := E2.out; have h2 : nxt q (zn Z p) = q + 1 := by rw [hb]; rfl
          rw [h2] at y2; unfold Hid; omega
        rw [EA.out, hb]
        clear y1 y2 hb EA E1 E2
        by_cases h3 : q % 4 = 3
        · have h4 : ((4 : Int) - (q : Int) % 4 - 1 == 0) = true := beq_iff_eq.2 (by omega)
          have HQ : Hid (q % 4 = 3) := h3
          clear h3
          go_wp2_with fail
          go_roundg (n - (p + 1))
          case measure => rw [HG.out]; omega
          case rel => exact ⟨p + 1, q + 1, m, rfl, by omega, by omega, rfl, by go_num, by go_num, by have := HQ.out; congr 1; omega, by omega, F1.out, F2.out⟩
        · have h4 : ((4 : Int) - (q : Int) % 4 - 1 == 0) = false := beq_eq_false_iff_ne.2 (by omega)
          have HQ : Hid (¬ q % 4 = 3) := h3
          clear h3
          go_wp2_with fail
          go_roundg (n - (p + 1))
          case measure => rw [HG.out]; omega
          case rel => exact ⟨p + 1, q + 1, m, rfl, by omega, by omega, rfl, by go_num, by go_num, by have := HQ.out; congr 1; omega, by omega, F1.out, F2.out⟩
      · have h2 : nxt q (zn Z p) = q + (4 - q % 4) := by rw [hb]; exact Cols.nxt_tab q
        have F1 : Hid (p + 1 + sK Z (p + 1) (q + (4 - q % 4)) = pos + sK Z pos col) := by
          have h1 := E1.out; rw [h2] at y1; unfold Hid; omega
        have F2 : Hid (sC Z (p + 1) (q + (4 - q % 4)) = sC Z pos col) := by
          have h1 := E2.out; rw [h2] at y2; unfold Hid; omega
        rw [EA.out, hb]
        clear y1 y2 hb EA E1 E2 h2
        go_wp2_with fail
        go_roundg (n - (p + 1))
        case measure => rw [HG.out]; omega
        case rel => exact ⟨p + 1, q + (4 - q % 4), m, rfl, by omega, by omega, rfl, by go_num, by congr 1; omega, by congr 1; omega, by omega, F1.out, F2.out⟩
    · have hz : sK Z p q = 0 ∧ sC Z p q = q := by
        by_cases hlt : p < n
        · exact s_no Z p q (by omega) (fun h => hb ⟨hlt, h⟩)
        · exact s_end Z p q (by omega)
      have EP : Hid (pos + sK Z pos col = p) := by have := E1.out; unfold Hid; omega
      have EQ : Hid (sC Z pos col = q) := by have := E2.out; unfold Hid; omega
      have hne : atB Z nb p ≠ 32 ∧ atB Z nb p ≠ 9 := by
        by_cases hlt : p < n
        · have : atB Z nb p = zn Z p := if_pos (by omega)
          rw [this]; omega
        · have : atB Z nb p = if nb then 255 else 0 := if_neg (by omega)
          rw [this]; split <;> omega
      have n1 : ((atB Z nb p : Int) == 32) = false := beq_eq_false_iff_ne.2 (by omega)
      have n2 : ((atB Z nb p : Int) == 9) = false := beq_eq_false_iff_ne.2 (by omega)
      clear hb hz E1 E2 hne
      have c4 := H.out.f
      have c5 := H.out.g
      have c6 := H.out.i
      have c7 := H.out.b
      have f4 := H.out.fr 4
      have f5 := H.out.fr 5
      have f6 := H.out.fr 6
      have f7 := H.out.fr 7
      go_wp2_with fail
      go_region_with (go_at_call 27; refine (at_calls (H.out.drewN _) p).mono ?_; rintro e w' ⟨rfl, rfl⟩)
      all_goals
        go_end0
        rw [EP.out, EQ.out]
        refine ⟨rfl, ?_, ?_⟩
        · rw [show IntKind.i64.wrap ((q : Int) - (col : Int)) = (q : Int) - (col : Int) from by rw [IntKind.wrap_i64]; omega]
          exact ((((H.out.drewN _).setFns (p : Int)).setFnc (q : Int)).setInd ((q : Int) - (col : Int))).setBl ((atB Z nb p : Int) == 0)
        · exact (((((OnlyAt.refl c w).drewN _).setCell 4 _).setCell 5 _).setCell 6 _).setCell 7 _
end
end Go.Proofs.Qxb6003629a
