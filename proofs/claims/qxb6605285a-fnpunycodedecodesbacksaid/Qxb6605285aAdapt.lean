import Derived.Test.Qxb6605285aRows
import Derived.WalkKit
import Derived.ProofKit
import Derived.OpenShut
import Derived.Below
import Derived.WalkLawsBesides
import Derived.Deep.QuietTactic
import Derived.BigQuiet
import Derived.Deep.LoopGhost
import Derived.Test.Qxb6605285aBias
namespace Go.Proofs.Qxb6605285a
open Go.ChangeShapes Go.WideShapes Go.ChangeAt Go.RowKit

theorem ret_int {k : IntKind} {a b : Int} (h : a = b) : Ending.returned (.int k a) = .returned (.int k b) := by rw [h]

theorem quo_bounds (a p : Nat) : 0 ≤ (a : Int) / (p : Int) ∧ (a : Int) / (p : Int) ≤ a ∧ (a : Int) / (p : Int) = ((a / p : Nat) : Int) := by
  have h : (a : Int) / (p : Int) = ((a / p : Nat) : Int) := (Int.natCast_ediv a p).symm
  have := Nat.div_le_self a p
  rw [h]; exact ⟨Int.natCast_nonneg _, Int.ofNat_le.2 this, rfl⟩

theorem damp_false (delta points : Nat) : (delta : Int) / 2 + (delta : Int) / 2 / points = (Puny.damp delta points false : Nat) := by
  unfold Puny.damp; simp

theorem damp_true (delta points : Nat) : (delta : Int) / 700 + (delta : Int) / 700 / points = (Puny.damp delta points true : Nat) := by
  unfold Puny.damp; simp

theorem damp_le (delta points : Nat) (f : Bool) : Puny.damp delta points f ≤ delta := by
  unfold Puny.damp
  cases f
  · have := Nat.div_le_self (delta / 2) points
    simp; omega
  · have := Nat.div_le_self (delta / 700) points
    simp; omega

theorem nat_q2 (d : Nat) : (36 * (d : Int)) / ((d : Int) + 38) = ((36 * d / (d + 38) : Nat) : Int) := by
  simp

set_option maxHeartbeats 400000 in
theorem adapt_calls (delta points : Nat) (first : Bool) (w : World) (hd : delta ≤ 9223372036854775807) (hp : 1 ≤ points) (hp2 : points ≤ 9223372036854775807) :
    Calls Try.prog 17 #[.int .i64 delta, .int .i64 points, .bool first] w fun e w' => e = .returned (.int .i64 (Puny.adapt delta points first : Nat)) ∧ w' = w := by
  cases first
  · obtain ⟨q1, q2, _⟩ := quo_bounds (delta / 2) points
    have e2 : ((delta / 2 : Nat) : Int) = (delta : Int) / 2 := by omega
    rw [e2] at q1 q2
    clear e2
    have D : Hid ((delta : Int) / 2 + (delta : Int) / 2 / points = (Puny.damp delta points false : Nat)) := damp_false delta points
    have hl := damp_le delta points false
    have hb := Puny.biasOf_le (Puny.damp delta points false)
    have A : Hid (Puny.adapt delta points false = Puny.biasOf (Puny.damp delta points false)) := rfl
    generalize Puny.damp delta points false = d0 at *
    go_enter Try.func17, Try.ntmps17
    go_wp2
    rw [D.out]
    clear q1 q2
    go_loop [0, 7] (fun x y => ∃ d k : Nat, d ≤ d0 ∧ x = .int .i64 d ∧ y = .int .i64 k ∧ k ≤ Puny.biasOf d0 ∧ Hid (k + Puny.biasOf d = Puny.biasOf d0)) (fun x _ => (intOf x).toNat)
    case atStart => exact ⟨d0, 0, by omega, rfl, rfl, by omega, by unfold Hid; omega⟩
    case round =>
      obtain ⟨d, k, hdd, rfl, rfl, hk, R⟩ := hrel
      by_cases hlt : 455 < d
      · have E : Hid (k + 36 + Puny.biasOf (d / 35) = Puny.biasOf d0) := by unfold Hid; have := R.out; rw [Puny.biasOf_big d hlt] at this; omega
        clear R
        go_wp2
        go_round
        case rel => exact ⟨d / 35, k + 36, by omega, by go_num, by go_num, by have := E.out; omega, E.out⟩
        case measure => simp [intOf]; omega
      · have E : Hid (k + 36 * d / (d + 38) = Puny.biasOf d0) := by unfold Hid; have := R.out; rw [Puny.biasOf_small d hlt] at this; exact this
        have Q : Hid ((36 * (d : Int)) / ((d : Int) + 38) = ((36 * d / (d + 38) : Nat) : Int)) := nat_q2 d
        have hs : 0 ≤ (36 * (d : Int)) / ((d : Int) + 38) ∧ (36 * (d : Int)) / ((d : Int) + 38) ≤ 35 := by
          rw [Q.out]; have := Puny.small_le d; exact ⟨Int.natCast_nonneg _, Int.ofNat_le.2 this⟩
        obtain ⟨hs0, hs1⟩ := hs
        clear R
        go_wp2
        go_ret
        exact ⟨ret_int (by rw [A.out, ← E.out, Int.natCast_add, ← Q.out]), rfl⟩
  · obtain ⟨q1, q2, _⟩ := quo_bounds (delta / 700) points
    have e2 : ((delta / 700 : Nat) : Int) = (delta : Int) / 700 := by omega
    rw [e2] at q1 q2
    clear e2
    have D : Hid ((delta : Int) / 700 + (delta : Int) / 700 / points = (Puny.damp delta points true : Nat)) := damp_true delta points
    have hl := damp_le delta points true
    have hb := Puny.biasOf_le (Puny.damp delta points true)
    have A : Hid (Puny.adapt delta points true = Puny.biasOf (Puny.damp delta points true)) := rfl
    generalize Puny.damp delta points true = d0 at *
    go_enter Try.func17, Try.ntmps17
    go_wp2
    rw [D.out]
    clear q1 q2
    go_loop [0, 7] (fun x y => ∃ d k : Nat, d ≤ d0 ∧ x = .int .i64 d ∧ y = .int .i64 k ∧ k ≤ Puny.biasOf d0 ∧ Hid (k + Puny.biasOf d = Puny.biasOf d0)) (fun x _ => (intOf x).toNat)
    case atStart => exact ⟨d0, 0, by omega, rfl, rfl, by omega, by unfold Hid; omega⟩
    case round =>
      obtain ⟨d, k, hdd, rfl, rfl, hk, R⟩ := hrel
      by_cases hlt : 455 < d
      · have E : Hid (k + 36 + Puny.biasOf (d / 35) = Puny.biasOf d0) := by unfold Hid; have := R.out; rw [Puny.biasOf_big d hlt] at this; omega
        clear R
        go_wp2
        go_round
        case rel => exact ⟨d / 35, k + 36, by omega, by go_num, by go_num, by have := E.out; omega, E.out⟩
        case measure => simp [intOf]; omega
      · have E : Hid (k + 36 * d / (d + 38) = Puny.biasOf d0) := by unfold Hid; have := R.out; rw [Puny.biasOf_small d hlt] at this; exact this
        have Q : Hid ((36 * (d : Int)) / ((d : Int) + 38) = ((36 * d / (d + 38) : Nat) : Int)) := nat_q2 d
        have hs : 0 ≤ (36 * (d : Int)) / ((d : Int) + 38) ∧ (36 * (d : Int)) / ((d : Int) + 38) ≤ 35 := by
          rw [Q.out]; have := Puny.small_le d; exact ⟨Int.natCast_nonneg _, Int.ofNat_le.2 this⟩
        obtain ⟨hs0, hs1⟩ := hs
        clear R
        go_wp2
        go_ret
        exact ⟨ret_int (by rw [A.out, ← E.out, Int.natCast_add, ← Q.out]), rfl⟩

set_option maxHeartbeats 400000 in
theorem zzadapt_calls (delta points : Nat) (first : Bool) (w : World) (hd : delta ≤ 9223372036854775807) (hp : 1 ≤ points) (hp2 : points ≤ 9223372036854775807) :
    Calls Try.prog 13 #[.int .i64 delta, .int .i64 points, .bool first] w fun e w' => e = .returned (.int .i64 (Puny.adapt delta points first : Nat)) ∧ w' = w := by
  cases first
  · obtain ⟨q1, q2, _⟩ := quo_bounds (delta / 2) points
    have e2 : ((delta / 2 : Nat) : Int) = (delta : Int) / 2 := by omega
    rw [e2] at q1 q2
    clear e2
    have D : Hid ((delta : Int) / 2 + (delta : Int) / 2 / points = (Puny.damp delta points false : Nat)) := damp_false delta points
    have hl := damp_le delta points false
    have hb := Puny.biasOf_le (Puny.damp delta points false)
    have A : Hid (Puny.adapt delta points false = Puny.biasOf (Puny.damp delta points false)) := rfl
    generalize Puny.damp delta points false = d0 at *
    go_enter Try.func13, Try.ntmps13
    go_wp2
    rw [D.out]
    clear q1 q2
    go_loop [8, 9] (fun x y => ∃ p j : Nat, 1 ≤ p ∧ p ≤ 1000000000000000000 ∧ x = .int .i64 p ∧ y = .int .i64 j ∧ 36 * j ≤ Puny.biasOf d0 ∧ Hid (36 * j + Puny.biasOf (d0 / p) = Puny.biasOf d0)) (fun x _ => d0 - (intOf x).toNat)
    case atStart => exact ⟨1, 0, by omega, by omega, rfl, rfl, by omega, by unfold Hid; simp⟩
    case round =>
      obtain ⟨p, j, hp1, hpb, rfl, rfl, hj, R⟩ := hrel
      by_cases hlt : p ≤ d0 / 456
      · have E : Hid (36 * (j + 1) + Puny.biasOf (d0 / (p * 35)) = Puny.biasOf d0) := by unfold Hid; have := R.out; rw [Puny.biasOf_round d0 p hp1 hlt] at this; omega
        clear R
        go_wp2
        go_round
        case rel => exact ⟨p * 35, j + 1, by omega, by omega, by go_num, by go_num, by have := E.out; omega, E.out⟩
        case measure => simp [intOf]; omega
      · have E : Hid (36 * j + 36 * (d0 / p) / (d0 / p + 38) = Puny.biasOf d0) := by unfold Hid; have := R.out; rw [Puny.biasOf_last d0 p hp1 hlt] at this; exact this
        have Q1 : Hid ((d0 : Int) / (p : Int) = ((d0 / p : Nat) : Int)) := (quo_bounds d0 p).2.2
        have hs2 : 0 ≤ (d0 : Int) / (p : Int) := (quo_bounds d0 p).1
        have hs3 : (d0 : Int) / (p : Int) ≤ 455 := by
          rw [Q1.out]; exact Int.ofNat_le.2 (Puny.last_lt d0 p hp1 hlt)
        have Q : Hid (36 * ((d0 : Int) / (p : Int)) / ((d0 : Int) / (p : Int) + 38) = ((36 * (d0 / p) / (d0 / p + 38) : Nat) : Int)) := by
          unfold Hid; rw [Q1.out]; exact nat_q2 (d0 / p)
        have hs : 0 ≤ 36 * ((d0 : Int) / (p : Int)) / ((d0 : Int) / (p : Int) + 38) ∧ 36 * ((d0 : Int) / (p : Int)) / ((d0 : Int) / (p : Int) + 38) ≤ 35 := by
          rw [Q.out]; have := Puny.small_le (d0 / p); exact ⟨Int.natCast_nonneg _, Int.ofNat_le.2 this⟩
        obtain ⟨hs0, hs1⟩ := hs
        clear R
        go_wp2
        go_ret
        exact ⟨ret_int (by rw [A.out, ← E.out, Int.natCast_add, ← Q.out]; rfl), rfl⟩
  · obtain ⟨q1, q2, _⟩ := quo_bounds (delta / 700) points
    have e2 : ((delta / 700 : Nat) : Int) = (delta : Int) / 700 := by omega
    rw [e2] at q1 q2
    clear e2
    have D : Hid ((delta : Int) / 700 + (delta : Int) / 700 / points = (Puny.damp delta points true : Nat)) := damp_true delta points
    have hl := damp_le delta points true
    have hb := Puny.biasOf_le (Puny.damp delta points true)
    have A : Hid (Puny.adapt delta points true = Puny.biasOf (Puny.damp delta points true)) := rfl
    generalize Puny.damp delta points true = d0 at *
    go_enter Try.func13, Try.ntmps13
    go_wp2
    rw [D.out]
    clear q1 q2
    go_loop [8, 9] (fun x y => ∃ p j : Nat, 1 ≤ p ∧ p ≤ 1000000000000000000 ∧ x = .int .i64 p ∧ y = .int .i64 j ∧ 36 * j ≤ Puny.biasOf d0 ∧ Hid (36 * j + Puny.biasOf (d0 / p) = Puny.biasOf d0)) (fun x _ => d0 - (intOf x).toNat)
    case atStart => exact ⟨1, 0, by omega, by omega, rfl, rfl, by omega, by unfold Hid; simp⟩
    case round =>
      obtain ⟨p, j, hp1, hpb, rfl, rfl, hj, R⟩ := hrel
      by_cases hlt : p ≤ d0 / 456
      · have E : Hid (36 * (j + 1) + Puny.biasOf (d0 / (p * 35)) = Puny.biasOf d0) := by unfold Hid; have := R.out; rw [Puny.biasOf_round d0 p hp1 hlt] at this; omega
        clear R
        go_wp2
        go_round
        case rel => exact ⟨p * 35, j + 1, by omega, by omega, by go_num, by go_num, by have := E.out; omega, E.out⟩
        case measure => simp [intOf]; omega
      · have E : Hid (36 * j + 36 * (d0 / p) / (d0 / p + 38) = Puny.biasOf d0) := by unfold Hid; have := R.out; rw [Puny.biasOf_last d0 p hp1 hlt] at this; exact this
        have Q1 : Hid ((d0 : Int) / (p : Int) = ((d0 / p : Nat) : Int)) := (quo_bounds d0 p).2.2
        have hs2 : 0 ≤ (d0 : Int) / (p : Int) := (quo_bounds d0 p).1
        have hs3 : (d0 : Int) / (p : Int) ≤ 455 := by
          rw [Q1.out]; exact Int.ofNat_le.2 (Puny.last_lt d0 p hp1 hlt)
        have Q : Hid (36 * ((d0 : Int) / (p : Int)) / ((d0 : Int) / (p : Int) + 38) = ((36 * (d0 / p) / (d0 / p + 38) : Nat) : Int)) := by
          unfold Hid; rw [Q1.out]; exact nat_q2 (d0 / p)
        have hs : 0 ≤ 36 * ((d0 : Int) / (p : Int)) / ((d0 : Int) / (p : Int) + 38) ∧ 36 * ((d0 : Int) / (p : Int)) / ((d0 : Int) / (p : Int) + 38) ≤ 35 := by
          rw [Q.out]; have := Puny.small_le (d0 / p); exact ⟨Int.natCast_nonneg _, Int.ofNat_le.2 this⟩
        obtain ⟨hs0, hs1⟩ := hs
        clear R
        go_wp2
        go_ret
        exact ⟨ret_int (by rw [A.out, ← E.out, Int.natCast_add, ← Q.out]; rfl), rfl⟩

set_option maxHeartbeats 400000 in
theorem zzadaptBias_calls (delta points : Nat) (first : Bool) (w : World) (hd : delta ≤ 9223372036854775807) (hp : 1 ≤ points) (hp2 : points ≤ 9223372036854775807) :
    Calls Try.prog 12 #[.int .i64 delta, .int .i64 points, .bool first] w fun e w' => e = .returned (.int .i64 (Puny.adapt delta points first : Nat)) ∧ w' = w := by
  go_enter Try.func12, Try.ntmps12
  go_wp2_with fail
  refine (adapt_calls delta points first _ hd hp hp2).mono ?_
  rintro e w' ⟨rfl, rfl⟩
  go_wp2
  go_ret
  exact ⟨rfl, rfl⟩

theorem zzadaptBias_at (delta points : Nat) (x : Int) (first : Bool) (w : World) (hx : x = (delta : Int)) (hd : delta ≤ 9223372036854775807) (hp : 1 ≤ points) (hp2 : points ≤ 9223372036854775807) :
    Calls Try.prog 12 #[.int .i64 x, .int .i64 points, .bool first] w fun e w' => e = .returned (.int .i64 (Puny.adapt delta points first : Nat)) ∧ w' = w := by
  subst hx; exact zzadaptBias_calls delta points first w hd hp hp2

end Go.Proofs.Qxb6605285a
