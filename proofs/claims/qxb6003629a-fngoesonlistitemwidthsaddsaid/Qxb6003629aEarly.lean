import Derived.Test.Qxb6003629aLaw
namespace Go.Proofs.Qxb6003629a
open Go.ChangeShapes Go.WideShapes Go.ChangeAt Go.RowKit

set_option maxRecDepth 100000 in
set_option maxHeartbeats 1000000 in
theorem early0 (a0 : Option Addr) (n cap : Nat) (a1 a2 : Int) (a3 : Bool) (a4 a5 : Int) (a6 : Bool) (w : World) (hn : ¬ n ≤ 1048576) :
    Calls Try.prog 3 #[.slice a0 n cap, .int .i64 a1, .int .i64 a2, .bool a3, .int .i64 a4, .int .i64 a5, .bool a6] w fun e w' => e = .returned (.bool true) ∧ w = w' := by
  go_enter Try.func3, Try.ntmps3
  go_wp2_with fail
  refine (zzbytes_no a0 n cap _ _ _ _ _ _ _ (by omega)).mono ?_
  rintro e w2 ⟨rfl, rfl⟩
  go_wp2_with fail
  go_ret
  exact ⟨rfl, rfl⟩

set_option maxRecDepth 100000 in
set_option maxHeartbeats 1000000 in
theorem early1 (a0 : Option Addr) (n cap : Nat) (a1 a2 : Int) (a3 : Bool) (a4 a5 : Int) (a6 : Bool) (w : World) (hn : n ≤ 1048576) (h : ¬ (0 ≤ a1 ∧ a1 ≤ n)) :
    Calls Try.prog 3 #[.slice a0 n cap, .int .i64 a1, .int .i64 a2, .bool a3, .int .i64 a4, .int .i64 a5, .bool a6] w fun e w' => e = .returned (.bool true) ∧ w = w' := by
  rcases (by omega : a1 < 0 ∨ (0 ≤ a1 ∧ (n : Int) < a1)) with h1 | ⟨h1, h2⟩
  all_goals
    clear h
    go_enter Try.func3, Try.ntmps3
    go_wp2_with fail
    refine (zzbytes_calls a0 n cap _ _ _ _ _ _ _ (by omega)).mono ?_
    rintro e w2 ⟨rfl, rfl⟩
    go_wp2_with fail
    go_ret
    exact ⟨rfl, rfl⟩

set_option maxRecDepth 100000 in
set_option maxHeartbeats 1000000 in
theorem early2 (a0 : Option Addr) (n cap : Nat) (a1 : Nat) (a2 : Int) (a3 : Bool) (a4 a5 : Int) (a6 : Bool) (w : World) (hn : n ≤ 1048576) (h1 : a1 ≤ n) (h : ¬ (0 ≤ a2 ∧ a2 ≤ 1073741824)) :
    Calls Try.prog 3 #[.slice a0 n cap, .int .i64 a1, .int .i64 a2, .bool a3, .int .i64 a4, .int .i64 a5, .bool a6] w fun e w' => e = .returned (.bool true) ∧ w = w' := by
  rcases (by omega : a2 < 0 ∨ (0 ≤ a2 ∧ 1073741824 < a2)) with h2 | ⟨h2, h3⟩
  all_goals
    clear h
    go_enter Try.func3, Try.ntmps3
    go_wp2_with fail
    refine (zzbytes_calls a0 n cap _ _ _ _ _ _ _ (by omega)).mono ?_
    rintro e w2 ⟨rfl, rfl⟩
    go_wp2_with fail
    go_ret
    exact ⟨rfl, rfl⟩

set_option maxRecDepth 100000 in
set_option maxHeartbeats 1000000 in
theorem early3 (a0 : Option Addr) (n cap : Nat) (a1 a2 : Nat) (a3 : Bool) (a4 a5 : Int) (a6 : Bool) (w : World) (hn : n ≤ 1048576) (h1 : a1 ≤ n) (h2 : a2 ≤ 1073741824) (h : ¬ (0 ≤ a4 ∧ a4 ≤ 65536 ∧ 0 ≤ a5 ∧ a5 ≤ 65536)) :
    Calls Try.prog 3 #[.slice a0 n cap, .int .i64 a1, .int .i64 a2, .bool a3, .int .i64 a4, .int .i64 a5, .bool a6] w fun e w' => e = .returned (.bool true) ∧ w = w' := by
  rcases (by omega : a4 < 0 ∨ (0 ≤ a4 ∧ 65536 < a4) ∨ (0 ≤ a4 ∧ a4 ≤ 65536 ∧ a5 < 0) ∨ (0 ≤ a4 ∧ a4 ≤ 65536 ∧ 0 ≤ a5 ∧ 65536 < a5)) with h3 | ⟨h3, h4⟩ | ⟨h3, h4, h5⟩ | ⟨h3, h4, h5, h6⟩
  all_goals
    clear h
    go_enter Try.func3, Try.ntmps3
    go_wp2_with fail
    refine (zzbytes_calls a0 n cap _ _ _ _ _ _ _ (by omega)).mono ?_
    rintro e w2 ⟨rfl, rfl⟩
    go_wp2_with fail
    go_ret
    exact ⟨rfl, rfl⟩
end Go.Proofs.Qxb6003629a
