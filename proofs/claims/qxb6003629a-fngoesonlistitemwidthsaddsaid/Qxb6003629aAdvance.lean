import Derived.Test.Qxb6003629aNonspace
namespace Go.Proofs.Qxb6003629a
open Go.ChangeShapes Go.WideShapes Go.ChangeAt Go.RowKit
open Cols (nxt scan adv advB)

def aK (Z : List Nat) (p c n : Nat) : Nat := (adv (Z.drop p) c n).1
def aC (Z : List Nat) (p c n : Nat) : Nat := (adv (Z.drop p) c n).2
def bK (Z : List Nat) (p c n : Nat) : Nat := (advB (Z.drop p) c n).1
def bC (Z : List Nat) (p c n : Nat) : Nat := (advB (Z.drop p) c n).2

theorem a_zero (Z : List Nat) (p c : Nat) : aK Z p c 0 = 0 ∧ aC Z p c 0 = c := by
  unfold aK aC; rw [Cols.adv_zero]; exact ⟨rfl, rfl⟩
theorem a_end (Z : List Nat) (p c n : Nat) (h : ¬ p < Z.length) : aK Z p c n = 0 ∧ aC Z p c n = c := by
  unfold aK aC; rw [List.drop_of_length_le (by omega)]; exact ⟨rfl, rfl⟩
theorem a_one (Z : List Nat) (p c n : Nat) (h : p < Z.length) (hn : n ≠ 0) (hx : zn Z p ≠ 9) : aK Z p c n = aK Z (p + 1) (c + 1) (n - 1) + 1 ∧ aC Z p c n = aC Z (p + 1) (c + 1) (n - 1) := by
  unfold aK aC; rw [drop_zn Z p h, adv, if_neg hn, if_pos hx]; exact ⟨rfl, rfl⟩
theorem a_tab (Z : List Nat) (p c n : Nat) (h : p < Z.length) (hx : zn Z p = 9) (hm : 4 - c % 4 ≤ n) : aK Z p c n = aK Z (p + 1) (c + (4 - c % 4)) (n - (4 - c % 4)) + 1 ∧ aC Z p c n = aC Z (p + 1) (c + (4 - c % 4)) (n - (4 - c % 4)) := by
  unfold aK aC; rw [drop_zn Z p h, adv, if_neg (by omega), if_neg (by simpa using hx), if_pos hm]; exact ⟨rfl, rfl⟩
theorem a_part (Z : List Nat) (p c n : Nat) (h : p < Z.length) (hn : n ≠ 0) (hx : zn Z p = 9) (hm : ¬ 4 - c % 4 ≤ n) : aK Z p c n = 0 ∧ aC Z p c n = c + n := by
  unfold aK aC; rw [drop_zn Z p h, adv, if_neg hn, if_neg (by simpa using hx), if_neg hm]; exact ⟨rfl, rfl⟩
theorem b_zero (Z : List Nat) (p c : Nat) : bK Z p c 0 = 0 ∧ bC Z p c 0 = c := by
  unfold bK bC; cases Z.drop p <;> simp [advB]
theorem b_end (Z : List Nat) (p c n : Nat) (h : ¬ p < Z.length) : bK Z p c n = 0 ∧ bC Z p c n = c := by
  unfold bK bC; rw [List.drop_of_length_le (by omega)]; exact ⟨rfl, rfl⟩
theorem b_one (Z : List Nat) (p c n : Nat) (h : p < Z.length) (hn : n ≠ 0) : bK Z p c n = bK Z (p + 1) (nxt c (zn Z p)) (n - 1) + 1 ∧ bC Z p c n = bC Z (p + 1) (nxt c (zn Z p)) (n - 1) := by
  unfold bK bC; rw [drop_zn Z p h, advB, if_neg hn]; exact ⟨rfl, rfl⟩

section
variable {c t : Nat} {a : Option Addr} {n cap : Nat} {Z : List Nat} {nb : Bool} {fns fnc ind : Int} {bl : Bool} {w : World}

set_option maxRecDepth 100000 in
set_option maxHeartbeats 2000000 in
theorem advance_cols (pos col count : Nat) (h : Cur c t a n cap Z nb pos col fns fnc ind bl w) (hp : pos ≤ n) (hn : n ≤ 1048576) (hc : col ≤ 1073741824 + 4194304) (hm : count ≤ 262144) :
    Calls Try.prog 28 #[.pointer (some ⟨c, 0, none⟩), .int .i64 count, .bool true] w fun e w' => e = .returned (.tuple #[]) ∧ Cur c t a n cap Z nb (pos + aK Z pos col count : Nat) (aC Z pos col count : Nat) fns fnc ind bl w' ∧ OnlyAt c w w' := by
  have H : Hid (Cur c t a n cap Z nb pos col fns fnc ind bl w) := h
  have hlen := h.len
  clear h
  go_enter Try.func28, Try.ntmps28
  go_wp2_with fail
  go_loopg [1] (n - pos + count) (fun gh x1 wx => ∃ (p q m : Nat), pos ≤ p ∧ p ≤ n ∧ q + m ≤ col + count ∧ gh = n - p + m ∧ x1 = .int .i64 m ∧ p + aK Z p q m = pos + aK Z pos col count ∧ aC Z p q m = aC Z pos col count ∧ Cur c t a n cap Z nb p q fns fnc ind bl wx ∧ OnlyAt c w wx)
  case atStart => exact ⟨pos, col, count, by omega, hp, by omega, rfl, rfl, rfl, rfl, H.out, OnlyAt.refl _ _⟩
  case round =>
    obtain ⟨p, q, m, hp1, hp2, hqm, hg, rfl, e1, e2, hC, hO⟩ := hrel
    have HG : Hid (gk = n - p + m) := hg
    have E1 : Hid (p + aK Z p q m = pos + aK Z pos col count) := e1
    have E2 : Hid (aC Z p q m = aC Z pos col count) := e2
    have HC : Hid (Cur c t a n cap Z nb p q fns fnc ind bl wr) := hC
    have HO : Hid (OnlyAt c w wr) := hO
    have cl := hC.l
    have c2 := hC.p
    have c3 := hC.q
    have f2 := hC.fr 2
    have f3 := hC.fr 3
    clear hg e1 e2 hC hO H
    by_cases hm0 : m = 0
    · subst hm0
      have hd : decide ((0 : Int) < ((0 : Nat) : Int)) = false := by decide
      obtain ⟨z1, z2⟩ := a_zero Z p q
      have F1 : Hid (pos + aK Z pos col count = p) := by have := E1.out; unfold Hid; omega
      have F2 : Hid (aC Z pos col count = q) := by have := E2.out; unfold Hid; omega
      clear z1 z2 E1 E2
      go_wp2_with fail
      go_quiet (fail)
      go_wp2_with fail
      go_end0
      rw [F1.out, F2.out]
      exact ⟨rfl, HC.out.drewN _, HO.out.drewN _⟩
    · have hmi : 0 < m := by omega
      by_cases hpn : p < n
      · obtain ⟨y, rfl, hy, hcy⟩ := HC.out.row p hpn
        have hpi : (p : Int) < (n : Int) := by omega
        by_cases h9 : zn Z p = 9
        · have hne : ((9 : Int) != 9) = false := by decide
          rw [h9] at hcy
          by_cases ht : 4 - q % 4 ≤ m
          · obtain ⟨z1, z2⟩ := a_tab Z p q m (by omega) h9 ht
            have F1 : Hid (p + 1 + aK Z (p + 1) (q + (4 - q % 4)) (m - (4 - q % 4)) = pos + aK Z pos col count) := by have := E1.out; unfold Hid; omega
            have F2 : Hid (aC Z (p + 1) (q + (4 - q % 4)) (m - (4 - q % 4)) = aC Z pos col count) := by have := E2.out; unfold Hid; omega
            clear z1 z2 E1 E2 h9 hm0
            by_cases hlt : 4 - q % 4 < m
            · have hlt2 : (4 : Int) - (q : Int) % 4 < (m : Int) := by omega
              go_wp2_with fail
              go_quiet (fail)
              go_wp2_with fail
              go_quiet (fail)
              go_wp2_with fail
              go_roundg (n - (p + 1) + (m - (4 - q % 4)))
              case measure => rw [HG.out]; omega
              case rel =>
                refine ⟨p + 1, q + (4 - q % 4), m - (4 - q % 4), by omega, by omega, by omega, rfl, by congr 1; omega, F1.out, F2.out, ?_, ?_⟩
                · rw [show ((q + (4 - q % 4) : Nat) : Int) = (q : Int) + (4 - (q : Int) % 4) from by omega]
                  exact (((HC.out.setCol _).setPos _).drewN _)
                · exact (((HO.out.setCell 3 _).setCell 2 _).drewN _)
            · have hle2 : (m : Int) ≤ 4 - (q : Int) % 4 := by omega
              have heq : ((m : Int) == 4 - (q : Int) % 4) = true := beq_iff_eq.2 (by omega)
              go_wp2_with fail
              go_quiet (fail)
              go_wp2_with fail
              go_quiet (fail)
              go_wp2_with fail
              go_roundg (n - (p + 1) + (m - (4 - q % 4)))
              case measure => rw [HG.out]; omega
              case rel =>
                refine ⟨p + 1, q + (4 - q % 4), m - (4 - q % 4), by omega, by omega, by omega, rfl, by congr 1; omega, F1.out, F2.out, ?_, ?_⟩
                · rw [show ((q + (4 - q % 4) : Nat) : Int) = (q : Int) + (m : Int) from by omega]
                  exact (((HC.out.setCol _).setPos _).drewN _)
                · exact (((HO.out.setCell 3 _).setCell 2 _).drewN _)
          · obtain ⟨z1, z2⟩ := a_part Z p q m (by omega) hm0 h9 ht
            obtain ⟨z3, z4⟩ := a_zero Z p (q + m)
            have F1 : Hid (p + aK Z p (q + m) 0 = pos + aK Z pos col count) := by have := E1.out; unfold Hid; omega
            have F2 : Hid (aC Z p (q + m) 0 = aC Z pos col count) := by have := E2.out; unfold Hid; omega
            have hle2 : (m : Int) ≤ 4 - (q : Int) % 4 := by omega
            have heq : ((m : Int) == 4 - (q : Int) % 4) = false := beq_eq_false_iff_ne.2 (by omega)
            clear z1 z2 z3 z4 E1 E2 h9 hm0
            go_wp2_with fail
            go_quiet (fail)
            go_wp2_with fail
            go_quiet (fail)
            go_wp2_with fail
            go_roundg (n - p + 0)
            case measure => rw [HG.out]; omega
            case rel =>
              refine ⟨p, q + m, 0, by omega, by omega, by omega, rfl, by congr 1; try omega, F1.out, F2.out, ?_, ?_⟩
              · rw [show ((q + m : Nat) : Int) = (q : Int) + (m : Int) from by omega]
                exact ((HC.out.setCol _).drewN _)
              · exact ((HO.out.setCell 3 _).drewN _)
        · have hne : ((zn Z p : Int) != 9) = true := by rw [bne_iff_ne]; omega
          obtain ⟨z1, z2⟩ := a_one Z p q m (by omega) hm0 h9
          have F1 : Hid (p + 1 + aK Z (p + 1) (q + 1) (m - 1) = pos + aK Z pos col count) := by have := E1.out; unfold Hid; omega
          have F2 : Hid (aC Z (p + 1) (q + 1) (m - 1) = aC Z pos col count) := by have := E2.out; unfold Hid; omega
          clear h9 z1 z2 E1 E2 hm0
          go_wp2_with fail
          go_quiet (fail)
          go_wp2_with fail
          go_quiet (fail)
          go_wp2_with fail
          go_region
          go_wp2_with fail
          go_roundg (n - (p + 1) + (m - 1))
          case measure => rw [HG.out]; omega
          case rel =>
            refine ⟨p + 1, q + 1, m - 1, by omega, by omega, by omega, rfl, by congr 1; omega, F1.out, F2.out, ?_, ?_⟩
            · exact (((HC.out.setPos _).setCol _).drewN _)
            · exact (((HO.out.setCell 2 _).setCell 3 _).drewN _)
      · obtain ⟨z1, z2⟩ := a_end Z p q m (by omega)
        have F1 : Hid (pos + aK Z pos col count = p) := by have := E1.out; unfold Hid; omega
        have F2 : Hid (aC Z pos col count = q) := by have := E2.out; unfold Hid; omega
        have hpi : ¬ (p : Int) < (n : Int) := by omega
        clear z1 z2 E1 E2 hm0
        go_wp2_with fail
        go_quiet (fail)
        go_wp2_with fail
        go_end0
        rw [F1.out, F2.out]
        exact ⟨rfl, HC.out.drewN _, HO.out.drewN _⟩

set_option maxRecDepth 100000 in
set_option maxHeartbeats 2000000 in
theorem advance_bytes (pos col count : Nat) (h : Cur c t a n cap Z nb pos col fns fnc ind bl w) (hp : pos ≤ n) (hn : n ≤ 1048576) (hc : col ≤ 1073741824 + 4194304) (hm : count ≤ 1048576) :
    Calls Try.prog 28 #[.pointer (some ⟨c, 0, none⟩), .int .i64 count, .bool false] w fun e w' => e = .returned (.tuple #[]) ∧ Cur c t a n cap Z nb (pos + bK Z pos col count : Nat) (bC Z pos col count : Nat) fns fnc ind bl w' ∧ OnlyAt c w w' := by
  have H : Hid (Cur c t a n cap Z nb pos col fns fnc ind bl w) := h
  have hlen := h.len
  clear h
  go_enter Try.func28, Try.ntmps28
  go_wp2_with fail
  go_loopg [1] count (fun gh x1 wx => ∃ (p q m : Nat), pos ≤ p ∧ p ≤ n ∧ m ≤ count ∧ q + 4 * m ≤ col + 4 * count ∧ gh = m ∧ x1 = .int .i64 m ∧ p + bK Z p q m = pos + bK Z pos col count ∧ bC Z p q m = bC Z pos col count ∧ Cur c t a n cap Z nb p q fns fnc ind bl wx ∧ OnlyAt c w wx)
  case atStart => exact ⟨pos, col, count, by omega, hp, by omega, by omega, rfl, rfl, rfl, rfl, H.out, OnlyAt.refl _ _⟩
  case round =>
    obtain ⟨p, q, m, hp1, hp2, hmc, hqm, hg, rfl, e1, e2, hC, hO⟩ := hrel
    have HG : Hid (gk = m) := hg
    have E1 : Hid (p + bK Z p q m = pos + bK Z pos col count) := e1
    have E2 : Hid (bC Z p q m = bC Z pos col count) := e2
    have HC : Hid (Cur c t a n cap Z nb p q fns fnc ind bl wr) := hC
    have HO : Hid (OnlyAt c w wr) := hO
    have cl := hC.l
    have c2 := hC.p
    have c3 := hC.q
    have f2 := hC.fr 2
    have f3 := hC.fr 3
    clear hg e1 e2 hC hO H
    by_cases hm0 : m = 0
    · subst hm0
      have hd : decide ((0 : Int) < ((0 : Nat) : Int)) = false := by decide
      obtain ⟨z1, z2⟩ := b_zero Z p q
      have F1 : Hid (pos + bK Z pos col count = p) := by have := E1.out; unfold Hid; omega
      have F2 : Hid (bC Z pos col count = q) := by have := E2.out; unfold Hid; omega
      clear z1 z2 E1 E2
      go_wp2_with fail
      go_quiet (fail)
      go_wp2_with fail
      go_end0
      rw [F1.out, F2.out]
      exact ⟨rfl, HC.out.drewN _, HO.out.drewN _⟩
    · have hmi : 0 < m := by omega
      by_cases hpn : p < n
      · obtain ⟨y, rfl, hy, hcy⟩ := HC.out.row p hpn
        have hpi : (p : Int) < (n : Int) := by omega
        obtain ⟨z1, z2⟩ := b_one Z p q m (by omega) hm0
        by_cases h9 : zn Z p = 9
        · have hne : ((9 : Int) != 9) = false := by decide
          have h2 : nxt q (zn Z p) = q + (4 - q % 4) := by rw [h9]; exact Cols.nxt_tab q
          rw [h2] at z1 z2
          rw [h9] at hcy
          have F1 : Hid (p + 1 + bK Z (p + 1) (q + (4 - q % 4)) (m - 1) = pos + bK Z pos col count) := by have := E1.out; unfold Hid; omega
          have F2 : Hid (bC Z (p + 1) (q + (4 - q % 4)) (m - 1) = bC Z pos col count) := by have := E2.out; unfold Hid; omega
          clear z1 z2 E1 E2 h9 hm0 h2
          go_wp2_with fail
          go_quiet (fail)
          go_wp2_with fail
          go_quiet (fail)
          go_wp2_with fail
          go_region
          go_wp2_with fail
          go_roundg (m - 1)
          case measure => rw [HG.out]; omega
          case rel =>
            refine ⟨p + 1, q + (4 - q % 4), m - 1, by omega, by omega, by omega, by omega, rfl, by congr 1; omega, F1.out, F2.out, ?_, ?_⟩
            · rw [show ((q + (4 - q % 4) : Nat) : Int) = (q : Int) + (4 - (q : Int) % 4) from by omega]
              exact (((HC.out.setPos _).setCol _).drewN _)
            · exact (((HO.out.setCell 2 _).setCell 3 _).drewN _)
        · have hne : ((zn Z p : Int) != 9) = true := by rw [bne_iff_ne]; omega
          have h2 : nxt q (zn Z p) = q + 1 := if_neg h9
          rw [h2] at z1 z2
          have F1 : Hid (p + 1 + bK Z (p + 1) (q + 1) (m - 1) = pos + bK Z pos col count) := by have := E1.out; unfold Hid; omega
          have F2 : Hid (bC Z (p + 1) (q + 1) (m - 1) = bC Z pos col count) := by have := E2.out; unfold Hid; omega
          clear h9 z1 z2 E1 E2 hm0 h2
          go_wp2_with fail
          go_quiet (fail)
          go_wp2_with fail
          go_quiet (fail)
          go_wp2_with fail
          go_region
          go_wp2_with fail
          go_roundg (m - 1)
          case measure => rw [HG.out]; omega
          case rel =>
            refine ⟨p + 1, q + 1, m - 1, by omega, by omega, by omega, by omega, rfl, by congr 1; omega, F1.out, F2.out, ?_, ?_⟩
            · exact (((HC.out.setPos _).setCol _).drewN _)
            · exact (((HO.out.setCell 2 _).setCell 3 _).drewN _)
      · obtain ⟨z1, z2⟩ := b_end Z p q m (by omega)
        have F1 : Hid (pos + bK Z pos col count = p) := by have := E1.out; unfold Hid; omega
        have F2 : Hid (bC Z pos col count = q) := by have := E2.out; unfold Hid; omega
        have hpi : ¬ (p : Int) < (n : Int) := by omega
        clear z1 z2 E1 E2 hm0
        go_wp2_with fail
        go_quiet (fail)
        go_wp2_with fail
        go_end0
        rw [F1.out, F2.out]
        exact ⟨rfl, HC.out.drewN _, HO.out.drewN _⟩
end
end Go.Proofs.Qxb6003629a
