import Derived.Test.Qxb6605181aPeek
import Derived.Test.Qxb6605181aNumLaw
import Derived.Deep.DeepCutAuto
namespace Go.Proofs.Qxb6605181a
open Go.ChangeShapes Go.WideShapes Go.ChangeAt Go.RowKit

/-- one step of the automaton over a number c: -1 is 'no move' -/
def stepN (st c : Nat) : Int :=
  match st with
  | 0 => if c = 45 then 1 else if c = 48 then 2 else if 48 ≤ c ∧ c ≤ 57 then 3 else -1
  | 1 => if c = 48 then 2 else if 48 ≤ c ∧ c ≤ 57 then 3 else -1
  | 2 => if c = 46 then 4 else if c = 101 ∨ c = 69 then 6 else -1
  | 3 => if 48 ≤ c ∧ c ≤ 57 then 3 else if c = 46 then 4 else if c = 101 ∨ c = 69 then 6 else -1
  | 4 => if 48 ≤ c ∧ c ≤ 57 then 5 else -1
  | 5 => if 48 ≤ c ∧ c ≤ 57 then 5 else if c = 101 ∨ c = 69 then 6 else -1
  | 6 => if c = 43 ∨ c = 45 then 7 else if 48 ≤ c ∧ c ≤ 57 then 8 else -1
  | 7 => if 48 ≤ c ∧ c ≤ 57 then 8 else -1
  | 8 => if 48 ≤ c ∧ c ≤ 57 then 8 else -1
  | _ => -1

theorem ret_int {k : IntKind} {a b : Int} (h : a = b) : Ending.returned (.int k a) = .returned (.int k b) := by rw [h]

set_option maxHeartbeats 1000000 in
theorem step_calls (st c : Nat) (h : st ≤ 8) (hc : c ≤ 255) (w : World) :
    Calls Try.prog 17 #[.int .i64 st, .int .u8 c] w fun e w' => e = .returned (.int .i64 (stepN st c)) ∧ w' = w := by
  have hst : st = 0 ∨ st = 1 ∨ st = 2 ∨ st = 3 ∨ st = 4 ∨ st = 5 ∨ st = 6 ∨ st = 7 ∨ st = 8 := by omega
  rcases hst with rfl | rfl | rfl | rfl | rfl | rfl | rfl | rfl | rfl
  all_goals
    go_enter Try.func17, Try.ntmps17
    go_wp2
    all_goals
      go_ret
      refine ⟨ret_int ?_, rfl⟩
      try simp only [beq_iff_eq, beq_eq_false_iff_ne, ne_eq] at *
      unfold stepN
      simp only []
      (repeat' split) <;> first | rfl | (exfalso; omega)

theorem acc_calls (st : Nat) (h : st ≤ 8) (w : World) :
    Calls Try.prog 18 #[.int .i64 st] w fun e w' => e = .returned (.bool (NumLaw.acc st)) ∧ w' = w := by
  have hst : st = 0 ∨ st = 1 ∨ st = 2 ∨ st = 3 ∨ st = 4 ∨ st = 5 ∨ st = 6 ∨ st = 7 ∨ st = 8 := by omega
  rcases hst with rfl | rfl | rfl | rfl | rfl | rfl | rfl | rfl | rfl
  all_goals
    go_enter Try.func18, Try.ntmps18
    go_wp2
    go_ret
    exact ⟨rfl, rfl⟩

theorem dig_iff (c : UInt8) : NumLaw.dig c = true ↔ 48 ≤ c.toNat ∧ c.toNat ≤ 57 := by
  unfold NumLaw.dig
  simp [UInt8.le_iff_toNat_le]

theorem eq_iff (c d : UInt8) : c = d ↔ c.toNat = d.toNat := UInt8.toNat_inj.symm

def toI : Option Nat → Int
  | none => -1
  | some x => x

theorem step_some (st : Nat) (c : UInt8) : stepN st c.toNat = toI (NumLaw.step st c) := by
  have e1 : c = 45 ↔ c.toNat = 45 := eq_iff c 45
  have e2 : c = 48 ↔ c.toNat = 48 := eq_iff c 48
  have e3 : c = 46 ↔ c.toNat = 46 := eq_iff c 46
  have e4 : c = 101 ↔ c.toNat = 101 := eq_iff c 101
  have e5 : c = 69 ↔ c.toNat = 69 := eq_iff c 69
  have e6 : c = 43 ↔ c.toNat = 43 := eq_iff c 43
  have e7 := dig_iff c
  rcases st with _ | _ | _ | _ | _ | _ | _ | _ | _ | n
  all_goals
    simp only [stepN, NumLaw.step, e1, e2, e3, e4, e5, e6, e7, apply_ite toI]
    rfl

theorem step_le (st x : Nat) (c : UInt8) (h : NumLaw.step st c = some x) : x ≤ 8 := by
  unfold NumLaw.step at h
  split at h <;> (repeat' split at h) <;> simp at h <;> omega

theorem byteAt_eq (s : ByteArray) (k : Nat) : byteAt s k = (s.data.toList.getD k 0).toNat := rfl
theorem byteAt_le (s : ByteArray) (k : Nat) : byteAt s k ≤ 255 := by
  unfold byteAt
  have := (s.data.toList.getD k 0).toNat_lt
  omega

def rest (s : ByteArray) (k : Nat) : List UInt8 := s.data.toList.drop k
theorem rest_at (s : ByteArray) (k : Nat) (h : k < s.size) : rest s k = s.data.toList.getD k 0 :: rest s (k + 1) := drop_at s k h
theorem rest_end (s : ByteArray) (k : Nat) (h : ¬ k < s.size) : rest s k = [] := by
  have h' : s.data.toList.length ≤ k := by simp; have : s.data.size = s.size := rfl; omega
  exact List.drop_of_length_le h'

def RunFrom (s : ByteArray) (i st k : Nat) : Prop := NumLaw.run 0 (rest s i) = ((NumLaw.run st (rest s k)).1 + (k - i), (NumLaw.run st (rest s k)).2)

theorem runFrom_next {s : ByteArray} {i st k x : Nat} (hk : k < s.size) (hi : i ≤ k) (h : RunFrom s i st k) (hx : stepN st (byteAt s k) = (x : Int)) : RunFrom s i x (k + 1) ∧ x ≤ 8 := by
  rw [byteAt_eq, step_some] at hx
  cases e : NumLaw.step st (s.data.toList.getD k 0) with
  | none => rw [e] at hx; simp only [toI] at hx; omega
  | some y =>
    rw [e] at hx
    obtain rfl : y = x := by simp only [toI] at hx; omega
    refine ⟨?_, step_le _ _ _ e⟩
    unfold RunFrom at *
    rw [h, rest_at s k hk, NumLaw.run, e]
    simp; omega

theorem runFrom_stop {s : ByteArray} {i st k : Nat} (hk : k < s.size) (h : RunFrom s i st k) (hx : stepN st (byteAt s k) < 0) : NumLaw.run 0 (rest s i) = (k - i, st) := by
  rw [byteAt_eq, step_some] at hx
  cases e : NumLaw.step st (s.data.toList.getD k 0) with
  | none =>
    unfold RunFrom at h
    rw [h, rest_at s k hk, NumLaw.run, e]
    simp
  | some y => rw [e] at hx; simp only [toI] at hx; omega

theorem runFrom_end {s : ByteArray} {i st k : Nat} (hk : ¬ k < s.size) (h : RunFrom s i st k) : NumLaw.run 0 (rest s i) = (k - i, st) := by
  unfold RunFrom at h
  rw [h, rest_end s k hk, NumLaw.run]
  simp

set_option maxHeartbeats 400000 in
theorem auto_calls (s : ByteArray) (hm : s.size ≤ 1048576) (i : Nat) (w : World) :
    Calls Try.prog 9 #[.string s, .int .i64 i] w fun e w' => e = .returned (.tuple #[.int .i64 ((i + (NumLaw.run 0 (rest s i)).1 : Nat) : Int), .bool (NumLaw.acc (NumLaw.run 0 (rest s i)).2)]) ∧ w' = w := by
  go_enter Try.func9, Try.ntmps9
  go_wp2_with fail
  go_loop [6, 7] (fun x y => ∃ st k : Nat, st ≤ 8 ∧ i ≤ k ∧ x = .int .i64 st ∧ y = .int .i64 k ∧ Hid (RunFrom s i st k)) (fun _ y => s.size - (intOf y).toNat)
  case atStart => exact ⟨0, i, by omega, by omega, rfl, rfl, by unfold Hid RunFrom; simp⟩
  case round =>
    obtain ⟨st, k, hst, hik, rfl, rfl, R⟩ := hrel
    by_cases hlt : k < s.size
    · have hix := idx s k hlt
      have hb := byteAt_le s k
      go_wp2_with fail
      refine (step_calls st (byteAt s k) hst hb _).mono ?_
      rintro e w2 ⟨rfl, rfl⟩
      by_cases hneg : stepN st (byteAt s k) < 0
      · have E : Hid (NumLaw.run 0 (rest s i) = (k - i, st)) := runFrom_stop hlt R.out hneg
        clear R
        generalize stepN st (byteAt s k) = x at *
        go_wp2_with fail
        refine (acc_calls st hst _).mono ?_
        rintro e w2 ⟨rfl, rfl⟩
        go_wp2
        go_ret2
        have hki : i + (k - i) = k := by omega
        simp [E.out, hki]
      · obtain ⟨x, hx⟩ := Int.eq_ofNat_of_zero_le (show 0 ≤ stepN st (byteAt s k) by omega)
        have E : Hid (RunFrom s i x (k + 1) ∧ x ≤ 8) := runFrom_next hlt hik R.out hx
        clear R hneg
        rw [hx]
        clear hx
        go_wp2
        go_round
        case rel => exact ⟨x, k + 1, E.out.2, by omega, rfl, by go_num, E.out.1⟩
        case measure => simp [intOf]; omega
    · have E : Hid (NumLaw.run 0 (rest s i) = (k - i, st)) := runFrom_end hlt R.out
      clear R
      go_wp2_with fail
      refine (acc_calls st hst _).mono ?_
      rintro e w2 ⟨rfl, rfl⟩
      go_wp2
      go_ret2
      have hki : i + (k - i) = k := by omega
      simp [E.out, hki]

def dEnd (s : ByteArray) (i : Nat) : Nat := i + NumLaw.nd (rest s i)

theorem dEnd_yes (s : ByteArray) (k : Nat) (h : k < s.size) (h1 : 48 ≤ byteAt s k) (h2 : byteAt s k ≤ 57) : dEnd s (k + 1) = dEnd s k := by
  unfold dEnd
  rw [rest_at s k h, NumLaw.nd, if_pos ((dig_iff _).2 ⟨h1, h2⟩)]; omega
theorem dEnd_no (s : ByteArray) (k : Nat) (h : k < s.size) (h1 : ¬ (48 ≤ byteAt s k ∧ byteAt s k ≤ 57)) : dEnd s k = k := by
  unfold dEnd
  rw [rest_at s k h, NumLaw.nd, if_neg (fun e => h1 ((dig_iff _).1 e))]; omega
theorem dEnd_out (s : ByteArray) (k : Nat) (h : ¬ k < s.size) : dEnd s k = k := by
  unfold dEnd
  rw [rest_end s k h, NumLaw.nd]; omega

set_option maxHeartbeats 400000 in
theorem digits_calls (s : ByteArray) (hm : s.size ≤ 1048576) (i : Nat) (w : World) :
    Calls Try.prog 21 #[.string s, .int .i64 i] w fun e w' => e = .returned (.int .i64 (dEnd s i : Nat)) ∧ w' = w := by
  go_enter Try.func21, Try.ntmps21
  go_wp2_with fail
  go_loop [1] (fun x => ∃ k : Nat, x = .int .i64 k ∧ Hid (dEnd s k = dEnd s i)) (fun y => s.size - (intOf y).toNat)
  case atStart => exact ⟨i, rfl, rfl⟩
  case round =>
    obtain ⟨k, rfl, R⟩ := hrel
    by_cases hlt : k < s.size
    · have hix := idx s k hlt
      by_cases hd : 48 ≤ byteAt s k ∧ byteAt s k ≤ 57
      · have E : Hid (dEnd s (k + 1) = dEnd s i) := (dEnd_yes s k hlt hd.1 hd.2).trans R.out
        obtain ⟨hd1, hd2⟩ := hd
        clear R
        go_wp2
        go_round
        case rel => exact ⟨k + 1, by go_num, E.out⟩
        case measure => simp [intOf]; omega
      · have E : Hid (dEnd s i = k) := R.out.symm.trans (dEnd_no s k hlt hd)
        clear R
        by_cases h48 : 48 ≤ byteAt s k
        · have h57 : ¬ byteAt s k ≤ 57 := fun h => hd ⟨h48, h⟩
          clear hd
          go_wp2
          go_ret
          rw [E.out]
          exact ⟨rfl, rfl⟩
        · clear hd
          go_wp2
          go_ret
          rw [E.out]
          exact ⟨rfl, rfl⟩
    · have E : Hid (dEnd s i = k) := R.out.symm.trans (dEnd_out s k hlt)
      clear R
      go_wp2
      go_ret
      rw [E.out]
      exact ⟨rfl, rfl⟩
end Go.Proofs.Qxb6605181a
