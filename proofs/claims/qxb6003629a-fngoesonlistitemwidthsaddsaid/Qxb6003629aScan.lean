import Derived.Test.Qxb6003629aZZ
import Derived.Deep.DeepCutAuto
namespace Go.Proofs.Qxb6003629a
open Go.ChangeShapes Go.WideShapes Go.ChangeAt Go.RowKit
open Cols (nxt scan adv advB posAt)

theorem ret_int {k : IntKind} {a b : Int} (h : a = b) : Ending.returned (.int k a) = .returned (.int k b) := by rw [h]

theorem blank_yes (x : Nat) (h : x = 32 ∨ x = 9) (w : World) : Calls Try.prog 20 #[.int .u8 x] w fun e w' => e = .returned (.bool true) ∧ w = w' := by
  rcases h with rfl | rfl
  all_goals
    go_enter Try.func20, Try.ntmps20
    go_wp2
    go_ret
    exact ⟨rfl, rfl⟩

theorem blank_no (x : Nat) (h : ¬ (x = 32 ∨ x = 9)) (w : World) : Calls Try.prog 20 #[.int .u8 x] w fun e w' => e = .returned (.bool false) ∧ w = w' := by
  have e1 : ((x : Int) == 32) = false := beq_eq_false_iff_ne.2 (by omega)
  have e2 : ((x : Int) == 9) = false := beq_eq_false_iff_ne.2 (by omega)
  clear h
  go_enter Try.func20, Try.ntmps20
  go_wp2
  go_ret
  exact ⟨rfl, rfl⟩

theorem next_calls (c x : Nat) (hc : c ≤ 4611686018427387904) (w : World) : Calls Try.prog 21 #[.int .i64 c, .int .u8 x] w fun e w' => e = .returned (.int .i64 (nxt c x : Nat)) ∧ w = w' := by
  by_cases h : x = 9
  · have E : Hid (nxt c x = (c / 4 + 1) * 4) := if_pos h
    subst h
    go_enter Try.func21, Try.ntmps21
    go_wp2
    go_ret
    exact ⟨ret_int (by rw [E.out]; omega), rfl⟩
  · have E : Hid (nxt c x = c + 1) := if_neg h
    have e2 : ((x : Int) == 9) = false := beq_eq_false_iff_ne.2 (by omega)
    clear h
    go_enter Try.func21, Try.ntmps21
    go_wp2
    go_ret
    exact ⟨ret_int (by rw [E.out]; omega), rfl⟩

set_option maxHeartbeats 1000000 in
theorem scan_calls {w : World} {a : Option Addr} {n : Nat} {Z : List Nat} (hL : Line a n Z w) (cap : Nat) (nb : Bool) (pos col : Nat) (hp : pos ≤ n) (hn : n ≤ 1048576) (hc : col ≤ 1073741824 + 4194304) :
    Calls Try.prog 9 #[.slice a n cap, .int .i64 pos, .int .i64 col, .bool nb] w fun e w' => e = .returned (.tuple #[.int .i64 (pos + sK Z pos col : Nat), .int .i64 (sC Z pos col : Nat), .bool (blk Z nb pos col)]) ∧ w' = w := by
  have HL : Hid (Line a n Z w) := hL
  have hlen := hL.1
  clear hL
  go_enter Try.func9, Try.ntmps9
  go_wp2_with fail
  go_loopg [11, 12] (n - pos) (fun gh x y wx => wx = w ∧ ∃ p q : Nat, pos ≤ p ∧ p ≤ n ∧ gh = n - p ∧ x = .int .i64 p ∧ y = .int .i64 q ∧ q ≤ col + 4 * (p - pos) ∧ p + sK Z p q = pos + sK Z pos col ∧ sC Z p q = sC Z pos col)
  case atStart => exact ⟨rfl, pos, col, by omega, hp, rfl, rfl, rfl, by omega, rfl, rfl⟩
  case round =>
    obtain ⟨rfl, p, q, hp1, hp2, hg, rfl, rfl, hq, e1, e2⟩ := hrel
    have HG : Hid (gk = n - p) := hg
    have E1 : Hid (p + sK Z p q = pos + sK Z pos col) := e1
    have E2 : Hid (sC Z p q = sC Z pos col) := e2
    clear hg e1 e2
    by_cases hlt : p < n
    · obtain ⟨y, rfl, hy, hcy⟩ := HL.out.2 p hlt
      have hpi : (p : Int) < (n : Int) := by omega
      by_cases hb : zn Z p = 32 ∨ zn Z p = 9
      · obtain ⟨y1, y2⟩ := s_yes Z p q (by omega) hb
        have F1 : Hid (p + 1 + sK Z (p + 1) (nxt q (zn Z p)) = pos + sK Z pos col) := by have := E1.out; unfold Hid; omega
        have F2 : Hid (sC Z (p + 1) (nxt q (zn Z p)) = sC Z pos col) := by have := E2.out; unfold Hid; omega
        have hnx := Cols.nxt_le q (zn Z p)
        clear y1 y2 E1 E2
        go_wp2_with fail
        refine (blank_yes (zn Z p) hb _).mono ?_
        rintro e w2 ⟨rfl, rfl⟩
        go_wp2_with fail
        refine (next_calls q (zn Z p) (by omega) _).mono ?_
        rintro e w2 ⟨rfl, rfl⟩
        go_wp2_with fail
        go_roundg (n - (p + 1))
        case measure => rw [HG.out]; omega
        case rel => exact ⟨rfl, p + 1, nxt q (zn Z p), by omega, by omega, rfl, by go_num, rfl, by omega, F1.out, F2.out⟩
      · obtain ⟨y1, y2⟩ := s_no Z p q (by omega) hb
        have EP : Hid (pos + sK Z pos col = p) := by have := E1.out; unfold Hid; omega
        have EQ : Hid (sC Z pos col = q) := by have := E2.out; unfold Hid; omega
        have EB : Hid (blk Z nb pos col = ((zn Z p : Int) == 0)) := by unfold Hid blk; rw [EP.out]; unfold atB; rw [if_pos (by omega)]
        clear y1 y2 E1 E2
        go_wp2_with fail
        refine (blank_no (zn Z p) hb _).mono ?_
        rintro e w2 ⟨rfl, rfl⟩
        go_wp2_with fail
        go_ret3
        rw [EP.out, EQ.out, EB.out]
        exact ⟨rfl, rfl⟩
    · obtain ⟨y1, y2⟩ := s_end Z p q (by omega)
      have EP : Hid (pos + sK Z pos col = p) := by have := E1.out; unfold Hid; omega
      have EQ : Hid (sC Z pos col = q) := by have := E2.out; unfold Hid; omega
      have EB : Hid (blk Z nb pos col = !nb) := by unfold Hid blk; rw [EP.out]; unfold atB; rw [if_neg (by omega)]; cases nb <;> rfl
      have hpi : ¬ (p : Int) < (n : Int) := by omega
      clear y1 y2 E1 E2
      go_wp2_with fail
      go_ret3
      rw [show (pos : Int) + (sK Z pos col : Int) = (p : Int) from by have := EP.out; omega, EQ.out, EB.out]
      exact ⟨rfl, rfl⟩

/-- how many bytes csPosAt passes -/
def pK (Z : List Nat) (p c T : Nat) : Nat := posAt (Z.drop p) c T
theorem p_yes (Z : List Nat) (p c T : Nat) (h : p < Z.length) (hx : zn Z p = 32 ∨ zn Z p = 9) (hT : nxt c (zn Z p) ≤ T) : pK Z p c T = pK Z (p + 1) (nxt c (zn Z p)) T + 1 := by
  unfold pK; rw [drop_zn Z p h, Cols.posAt_yes _ _ _ _ hx hT]
theorem p_no (Z : List Nat) (p c T : Nat) (h : p < Z.length) (hx : ¬ ((zn Z p = 32 ∨ zn Z p = 9) ∧ nxt c (zn Z p) ≤ T)) : pK Z p c T = 0 := by
  unfold pK; rw [drop_zn Z p h, Cols.posAt_no _ _ _ _ hx]
theorem p_end (Z : List Nat) (p c T : Nat) (h : ¬ p < Z.length) : pK Z p c T = 0 := by
  unfold pK; rw [List.drop_of_length_le (by omega)]; rfl

set_option maxHeartbeats 1000000 in
theorem posAt_calls {w : World} {a : Option Addr} {n : Nat} {Z : List Nat} (hL : Line a n Z w) (cap : Nat) (pos col T : Nat) (hp : pos ≤ n) (hn : n ≤ 1048576) (hc : col ≤ 1073741824 + 4194304) :
    Calls Try.prog 10 #[.slice a n cap, .int .i64 pos, .int .i64 col, .int .i64 T] w fun e w' => e = .returned (.int .i64 (pos + pK Z pos col T : Nat)) ∧ w' = w := by
  have HL : Hid (Line a n Z w) := hL
  have hlen := hL.1
  clear hL
  go_enter Try.func10, Try.ntmps10
  go_wp2_with fail
  go_loopg [9, 10] (n - pos) (fun gh x y wx => wx = w ∧ ∃ p q : Nat, pos ≤ p ∧ p ≤ n ∧ gh = n - p ∧ x = .int .i64 p ∧ y = .int .i64 q ∧ q ≤ col + 4 * (p - pos) ∧ p + pK Z p q T = pos + pK Z pos col T)
  case atStart => exact ⟨rfl, pos, col, by omega, hp, rfl, rfl, rfl, by omega, rfl⟩
  case round =>
    obtain ⟨rfl, p, q, hp1, hp2, hg, rfl, rfl, hq, e1⟩ := hrel
    have HG : Hid (gk = n - p) := hg
    have E1 : Hid (p + pK Z p q T = pos + pK Z pos col T) := e1
    clear hg e1
    by_cases hlt : p < n
    · obtain ⟨y, rfl, hy, hcy⟩ := HL.out.2 p hlt
      have hpi : (p : Int) < (n : Int) := by omega
      have hnx := Cols.nxt_le q (zn Z p)
      by_cases hb : zn Z p = 32 ∨ zn Z p = 9
      · by_cases hT : nxt q (zn Z p) ≤ T
        · have y1 := p_yes Z p q T (by omega) hb hT
          have F1 : Hid (p + 1 + pK Z (p + 1) (nxt q (zn Z p)) T = pos + pK Z pos col T) := by have := E1.out; unfold Hid; omega
          have hTi : decide (nxt q (zn Z p) ≤ T) = true := decide_eq_true hT
          clear y1 E1
          go_wp2_with fail
          refine (blank_yes (zn Z p) hb _).mono ?_
          rintro e w2 ⟨rfl, rfl⟩
          go_wp2_with fail
          refine (next_calls q (zn Z p) (by omega) _).mono ?_
          rintro e w2 ⟨rfl, rfl⟩
          go_wp2_with fail
          refine (next_calls q (zn Z p) (by omega) _).mono ?_
          rintro e w2 ⟨rfl, rfl⟩
          go_wp2_with fail
          go_roundg (n - (p + 1))
          case measure => rw [HG.out]; omega
          case rel => exact ⟨rfl, p + 1, nxt q (zn Z p), by omega, by omega, rfl, by go_num, rfl, by omega, F1.out⟩
        · have y1 := p_no Z p q T (by omega) (fun h => hT h.2)
          have EP : Hid (pos + pK Z pos col T = p) := by have := E1.out; unfold Hid; omega
          have hTi : decide (nxt q (zn Z p) ≤ T) = false := decide_eq_false hT
          clear y1 E1 hT
          go_wp2_with fail
          refine (blank_yes (zn Z p) hb _).mono ?_
          rintro e w2 ⟨rfl, rfl⟩
          go_wp2_with fail
          refine (next_calls q (zn Z p) (by omega) _).mono ?_
          rintro e w2 ⟨rfl, rfl⟩
          go_wp2_with fail
          go_ret
          rw [EP.out]
          exact ⟨rfl, rfl⟩
      · have y1 := p_no Z p q T (by omega) (fun h => hb h.1)
        have EP : Hid (pos + pK Z pos col T = p) := by have := E1.out; unfold Hid; omega
        clear y1 E1
        go_wp2_with fail
        refine (blank_no (zn Z p) hb _).mono ?_
        rintro e w2 ⟨rfl, rfl⟩
        go_wp2_with fail
        go_ret
        rw [EP.out]
        exact ⟨rfl, rfl⟩
    · have y1 := p_end Z p q T (by omega)
      have EP : Hid (pos + pK Z pos col T = p) := by have := E1.out; unfold Hid; omega
      have hpi : ¬ (p : Int) < (n : Int) := by omega
      clear y1 E1
      go_wp2_with fail
      go_ret
      exact ⟨ret_int (by have := EP.out; omega), rfl⟩
end Go.Proofs.Qxb6003629a
