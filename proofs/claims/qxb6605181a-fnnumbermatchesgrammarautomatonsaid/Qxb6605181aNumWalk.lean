import Derived.Test.Qxb6605181aNumPos
import Derived.Deep.CutBlock
namespace Go.Proofs.Qxb6605181a
open Go.ChangeShapes Go.WideShapes Go.ChangeAt Go.RowKit
open NumLaw (tailLen expLen)

theorem numStr_none (s : ByteArray) (i : Nat) (h : nEnd s i = none) : numStr s i = ⟨#[]⟩ := by unfold numStr; rw [h]
theorem numStr_some (s : ByteArray) (i e : Nat) (h : nEnd s i = some e) : numStr s i = s.extract i e := by unfold numStr; rw [h]

theorem fin_none {s : ByteArray} {b i : Nat} {d : Int} {w : World} (n : Nat) (S : Sc b s i d w) (N : nEnd s i = none) :
    (Ending.returned (.tuple #[.string ⟨#[]⟩, .bool false]) = .returned (.tuple #[.string (numStr s i), .bool (nEnd s i).isSome])) ∧ Sc b s ((nEnd s i).getD i : Nat) d (w.drewN n) ∧ Below b w (w.drewN n) := by
  rw [numStr_none s i N, N]
  exact ⟨rfl, S.drewN n, below_drewN (Below.refl _ _) n⟩

theorem fin_some {s : ByteArray} {b i e : Nat} {d : Int} {w : World} (n : Nat) (S : Sc b s i d w) (N : nEnd s i = some e) :
    (Ending.returned (.tuple #[.string (s.extract i e), .bool true]) = .returned (.tuple #[.string (numStr s i), .bool (nEnd s i).isSome])) ∧ Sc b s ((nEnd s i).getD i : Nat) d ((w.setCell ⟨b, 1, none⟩ (.int .i64 e)).drewN n) ∧ Below b w ((w.setCell ⟨b, 1, none⟩ (.int .i64 e)).drewN n) := by
  rw [numStr_some s i e N, N]
  exact ⟨rfl, (S.setI _).drewN n, below_drewN ((Below.refl b w).setCell (p := ⟨b, 1, none⟩) (Nat.le_refl b) _) n⟩

theorem digits_at (s : ByteArray) (hm : s.size ≤ 1048576) (k : Nat) (x : Int) (hx : x = (k : Int)) (w : World) :
    Calls Try.prog 21 #[.string s, .int .i64 x] w fun e w' => e = .returned (.int .i64 (dEnd s k : Nat)) ∧ w' = w := by
  subst hx; exact digits_calls s hm k w

theorem idx_at (s : ByteArray) (k : Nat) (x : Int) (hx : x = (k : Int)) (h : k < s.size) (w : World) :
    (Instr.index 9 (.string s) (.int .i64 x)).run Try.prog w = .ok (.int .u8 (byteAt s k : Nat)) w := by
  subst hx; exact idx s k h w

set_option maxRecDepth 100000 in
set_option maxHeartbeats 1000000 in
theorem number_calls (s : ByteArray) (hm : s.size ≤ 1048576) (b i : Nat) (d : Int) (w : World) (h : Sc b s i d w) :
    Calls Try.prog 16 #[.pointer (some ⟨b, 0, none⟩)] w fun e w' => e = .returned (.tuple #[.string (numStr s i), .bool (nEnd s i).isSome]) ∧ Sc b s ((nEnd s i).getD i : Nat) d w' ∧ Below b w w' := by
  have S : Hid (Sc b s i d w) := h
  obtain ⟨c0, c1, c2, f1⟩ := h
  go_enter Try.func16, Try.ntmps16
  go_wp2
  go_quiet (fail)
  go_upto_region 3 with fail
  go_cut [26] (fun x w' => ∃ t : Bool, x = .bool t ∧ Hid (t = true ↔ (i < s.size ∧ byteAt s i = 45)) ∧ ∃ n, w' = w.drewN n)
  case first =>
    by_cases hlt : i < s.size
    · have hix := idx s i hlt
      by_cases hb : byteAt s i = 45
      · have hb' : ((byteAt s i : Int) == 45) = true := beq_iff_eq.2 (by omega)
        have F : Hid (byteAt s i = 45) := hb
        clear hb
        go_wp2
        go_meet
        case rel => exact ⟨true, rfl, by unfold Hid; simp; exact ⟨hlt, F.out⟩, _, rfl⟩
      · have hb' : ((byteAt s i : Int) == 45) = false := beq_eq_false_iff_ne.2 (by omega)
        go_wp2
        go_meet
        case rel => exact ⟨false, rfl, by unfold Hid; simp; intro _; exact hb, _, rfl⟩
    · go_wp2
      go_meet
      case rel => exact ⟨false, rfl, by unfold Hid; simp; omega, _, rfl⟩
  case rest =>
    obtain ⟨t, rfl, T, n, rfl⟩ := hcut
    go_upto_if 26 with fail
    go_cut [6] (fun x w' => ∃ p : Nat, x = .int .i64 p ∧ i ≤ p ∧ (i ≤ s.size → p ≤ s.size) ∧ (¬ i ≤ s.size → p = i) ∧ Hid (nEnd s i = (T1 (rest s p)).map (p + ·)) ∧ ∃ n, w' = w.drewN n)
    case first =>
      cases t
      · have E : Hid (nEnd s i = (T1 (rest s i)).map (i + ·)) := nEnd1_no s i (fun h => by have := T.out.2 h; cases this)
        go_wp2
        go_meet
        case rel => exact ⟨i, rfl, by omega, by omega, by omega, E, _, rfl⟩
      · have hlt := (T.out.1 rfl).1
        have E : Hid (nEnd s i = (T1 (rest s (i + 1))).map (i + 1 + ·)) := nEnd1_yes s i hlt (T.out.1 rfl).2
        go_wp2
        go_meet
        case rel => exact ⟨i + 1, by go_num, by omega, by omega, by omega, E, _, rfl⟩
    case rest =>
      clear T
      obtain ⟨p, rfl, hip, hp1, hp2, E, n, rfl⟩ := hcut
      go_upto_block 0 with fail
      go_cut [6] (fun x w' => ∃ q : Nat, x = .int .i64 q ∧ i ≤ q ∧ q ≤ s.size ∧ Hid (nEnd s i = (tailLen (rest s q)).map (q + ·)) ∧ ∃ n, w' = w.drewN n)
      case first =>
        by_cases hlt : p < s.size
        · have hix := idx s p hlt
          by_cases h48 : byteAt s p = 48
          · have F : Hid (nEnd s i = (tailLen (rest s (p + 1))).map (p + 1 + ·)) := E.out.trans (T1_zero s p hlt h48)
            have hb' : ((byteAt s p : Int) == 48) = true := beq_iff_eq.2 (by omega)
            clear h48
            go_wp2
            go_meet
            case rel => exact ⟨p + 1, by go_num, by omega, by omega, F, _, rfl⟩
          · have hb' : ((byteAt s p : Int) == 48) = false := beq_eq_false_iff_ne.2 (by omega)
            by_cases h49 : 49 ≤ byteAt s p
            · by_cases h57 : byteAt s p ≤ 57
              · have F : Hid (nEnd s i = (tailLen (rest s (dEnd s p))).map (dEnd s p + ·)) := E.out.trans (T1_digits s p hlt h49 h57)
                have hd := dEnd_le s p (by omega)
                go_wp2_with fail
                refine (digits_calls s hm p _).mono ?_
                rintro e w2 ⟨rfl, rfl⟩
                go_wp2
                go_meet
                case rel => exact ⟨dEnd s p, rfl, by omega, by omega, F, _, rfl⟩
              · have N : Hid (nEnd s i = none) := E.out.trans (T1_none s p (by omega))
                go_wp2
                go_ret2
                exact fin_none _ S.out N.out
            · have N : Hid (nEnd s i = none) := E.out.trans (T1_none s p (by omega))
              go_wp2
              go_ret2
              exact fin_none _ S.out N.out
        · have N : Hid (nEnd s i = none) := E.out.trans (T1_none s p (by omega))
          go_wp2
          go_ret2
          exact fin_none _ S.out N.out
      case rest =>
        clear E hp1 hp2 hip
        obtain ⟨q, rfl, hiq, hqs, E, n, rfl⟩ := hcut
        go_upto_region 10 with fail
        go_cut [71] (fun x w' => ∃ t : Bool, x = .bool t ∧ Hid (t = true ↔ (q < s.size ∧ byteAt s q = 46)) ∧ ∃ n, w' = w.drewN n)
        case first =>
          by_cases hlt : q < s.size
          · have hix := idx s q hlt
            by_cases hb : byteAt s q = 46
            · have hb' : ((byteAt s q : Int) == 46) = true := beq_iff_eq.2 (by omega)
              have F : Hid (byteAt s q = 46) := hb
              clear hb
              go_wp2
              go_meet
              case rel => exact ⟨true, rfl, by unfold Hid; simp; exact ⟨hlt, F.out⟩, _, rfl⟩
            · have hb' : ((byteAt s q : Int) == 46) = false := beq_eq_false_iff_ne.2 (by omega)
              go_wp2
              go_meet
              case rel => exact ⟨false, rfl, by unfold Hid; simp; intro _; exact hb, _, rfl⟩
          · go_wp2
            go_meet
            case rel => exact ⟨false, rfl, by unfold Hid; simp; omega, _, rfl⟩
        case rest =>
          obtain ⟨t, rfl, T, n, rfl⟩ := hcut
          go_upto_if 71 with fail
          go_cut [6] (fun x w' => ∃ r : Nat, x = .int .i64 r ∧ i ≤ r ∧ r ≤ s.size ∧ Hid (nEnd s i = (expLen (rest s r)).map (r + ·)) ∧ ∃ n, w' = w.drewN n)
          case first =>
            cases t
            · have F : Hid (nEnd s i = (expLen (rest s q)).map (q + ·)) := E.out.trans (tail_no s q (fun h => by have := T.out.2 h; cases this))
              go_wp2
              go_meet
              case rel => exact ⟨q, rfl, by omega, by omega, F, _, rfl⟩
            · have hlt := (T.out.1 rfl).1
              have hd := dEnd_le s (q + 1) (by omega)
              by_cases hq : dEnd s (q + 1) = q + 1
              · have N : Hid (nEnd s i = none) := E.out.trans (tail_bad s q hlt (T.out.1 rfl).2 hq)
                have hix : ∀ w, (Instr.index 9 (.string s) (.int .i64 q)).run Try.prog w = .ok (.int .u8 46) w := by
                  intro w; have := idx s q hlt w; rw [(T.out.1 rfl).2] at this; exact this
                go_wp2_with fail
                refine (digits_at s hm (q + 1) _ (by omega) _).mono ?_
                rintro e w2 ⟨rfl, rfl⟩
                rw [hq]
                clear hq hd
                go_wp2
                go_ret2
                exact fin_none _ S.out N.out
              · have F : Hid (nEnd s i = (expLen (rest s (dEnd s (q + 1)))).map (dEnd s (q + 1) + ·)) := E.out.trans (tail_yes s q hlt (T.out.1 rfl).2 hq)
                have hne : ((byteAt s (dEnd s (q + 1) - 1) : Int) == 46) = false := beq_eq_false_iff_ne.2 (by have := before_dEnd s (s.size - (q + 1)) (q + 1) (by omega) hq; omega)
                go_wp2_with fail
                refine (digits_at s hm (q + 1) _ (by omega) _).mono ?_
                rintro e w2 ⟨rfl, rfl⟩
                generalize dEnd s (q + 1) = r at *
                have hix := idx_at s (r - 1) ((r : Int) - 1) (by omega) (by omega)
                clear hq
                go_wp2
                go_meet
                case rel => exact ⟨r, rfl, by omega, by omega, F, _, rfl⟩
          case rest =>
            clear T E hiq hqs
            obtain ⟨r, rfl, hir, hrs, E, n, rfl⟩ := hcut
            by_cases hlt : r < s.size
            · have hix := idx s r hlt
              by_cases he : byteAt s r = 101 ∨ byteAt s r = 69
              · by_cases hsg : r + 1 < s.size ∧ (byteAt s (r + 1) = 43 ∨ byteAt s (r + 1) = 45)
                · have F : Hid (nEnd s i = if dEnd s (r + 2) = r + 2 then none else some (dEnd s (r + 2))) := E.out.trans (exp_sign s r hlt he hsg.1 hsg.2)
                  obtain ⟨hl1, hs1⟩ := hsg
                  have hd := dEnd_le s (r + 2) (by omega)
                  have hix1 := idx_at s (r + 1) ((r : Int) + 1) (by omega) hl1
                  generalize byteAt s r = x at *
                  generalize byteAt s (r + 1) = y at *
                  clear E
                  by_cases hq : dEnd s (r + 2) = r + 2
                  · have N : Hid (nEnd s i = none) := F.out.trans (if_pos hq)
                    clear F
                    rcases he with rfl | rfl <;> rcases hs1 with rfl | rfl
                    all_goals
                      go_wp2_with fail
                      refine (digits_at s hm (r + 2) _ (by omega) _).mono ?_
                      rintro e w2 ⟨rfl, rfl⟩
                      generalize dEnd s (r + 2) = z at *
                      have hz : ((z : Int) == (r : Int) + 1 + 1) = true := beq_iff_eq.2 (by omega)
                      clear hq
                      go_wp2
                      go_ret2
                      exact fin_none _ S.out N.out
                  · have N : Hid (nEnd s i = some (dEnd s (r + 2))) := F.out.trans (if_neg hq)
                    clear F
                    rcases he with rfl | rfl <;> rcases hs1 with rfl | rfl
                    all_goals
                      go_wp2_with fail
                      refine (digits_at s hm (r + 2) _ (by omega) _).mono ?_
                      rintro e w2 ⟨rfl, rfl⟩
                      generalize dEnd s (r + 2) = z at *
                      have hz : ((z : Int) == (r : Int) + 1 + 1) = false := beq_eq_false_iff_ne.2 (by omega)
                      obtain ⟨hd1, hd2⟩ := hd
                      have hiz : i ≤ z := by omega
                      clear hq
                      go_wp2
                      go_ret2
                      exact fin_some _ S.out N.out
                · have F : Hid (nEnd s i = if dEnd s (r + 1) = r + 1 then none else some (dEnd s (r + 1))) := E.out.trans (exp_nosign s r hlt he hsg)
                  have hd := dEnd_le s (r + 1) (by omega)
                  have hix1 : r + 1 < s.size → ∀ w, (Instr.index 9 (.string s) (.int .i64 ((r : Int) + 1))).run Try.prog w = .ok (.int .u8 (byteAt s (r + 1) : Nat)) w := fun h => idx_at s (r + 1) ((r : Int) + 1) (by omega) h
                  generalize byteAt s r = x at *
                  generalize byteAt s (r + 1) = y at *
                  clear E
                  by_cases hl1 : r + 1 < s.size
                  · have hix1' := hix1 hl1
                    have y1 : ((y : Int) == 43) = false := beq_eq_false_iff_ne.2 (by omega)
                    have y2 : ((y : Int) == 45) = false := beq_eq_false_iff_ne.2 (by omega)
                    clear hix1 hsg
                    by_cases hq : dEnd s (r + 1) = r + 1
                    · have N : Hid (nEnd s i = none) := F.out.trans (if_pos hq)
                      clear F
                      rcases he with rfl | rfl
                      all_goals
                        go_wp2_with fail
                        refine (digits_at s hm (r + 1) _ (by omega) _).mono ?_
                        rintro e w2 ⟨rfl, rfl⟩
                        generalize dEnd s (r + 1) = z at *
                        have hz : ((z : Int) == (r : Int) + 1) = true := beq_iff_eq.2 (by omega)
                        clear hq
                        go_wp2
                        go_ret2
                        exact fin_none _ S.out N.out
                    · have N : Hid (nEnd s i = some (dEnd s (r + 1))) := F.out.trans (if_neg hq)
                      clear F
                      rcases he with rfl | rfl
                      all_goals
                        go_wp2_with fail
                        refine (digits_at s hm (r + 1) _ (by omega) _).mono ?_
                        rintro e w2 ⟨rfl, rfl⟩
                        generalize dEnd s (r + 1) = z at *
                        have hz : ((z : Int) == (r : Int) + 1) = false := beq_eq_false_iff_ne.2 (by omega)
                        obtain ⟨hd1, hd2⟩ := hd
                        have hiz : i ≤ z := by omega
                        clear hq
                        go_wp2
                        go_ret2
                        exact fin_some _ S.out N.out
                  · clear hix1 hsg
                    have hq : dEnd s (r + 1) = r + 1 := dEnd_out s (r + 1) hl1
                    have N : Hid (nEnd s i = none) := F.out.trans (if_pos hq)
                    clear F
                    rcases he with rfl | rfl
                    all_goals
                      go_wp2_with fail
                      refine (digits_at s hm (r + 1) _ (by omega) _).mono ?_
                      rintro e w2 ⟨rfl, rfl⟩
                      generalize dEnd s (r + 1) = z at *
                      have hz : ((z : Int) == (r : Int) + 1) = true := beq_iff_eq.2 (by omega)
                      clear hq
                      go_wp2
                      go_ret2
                      exact fin_none _ S.out N.out
              · have N : Hid (nEnd s i = some r) := E.out.trans (exp_no s r (fun h => he h.2))
                have x1 : ((byteAt s r : Int) == 101) = false := beq_eq_false_iff_ne.2 (by omega)
                have x2 : ((byteAt s r : Int) == 69) = false := beq_eq_false_iff_ne.2 (by omega)
                clear he E
                go_wp2
                go_ret2
                exact fin_some _ S.out N.out
            · have N : Hid (nEnd s i = some r) := E.out.trans (exp_no s r (fun h => hlt h.1))
              clear E
              go_wp2
              go_ret2
              exact fin_some _ S.out N.out
end Go.Proofs.Qxb6605181a
