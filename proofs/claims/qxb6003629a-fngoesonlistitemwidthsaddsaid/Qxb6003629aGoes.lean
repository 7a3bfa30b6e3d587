import Derived.Test.Qxb6003629aAdvance
namespace Go.Proofs.Qxb6003629a
open Go.ChangeShapes Go.WideShapes Go.ChangeAt Go.RowKit
open Cols (nxt scan adv advB)

theorem b_scan (Z : List Nat) (p c : Nat) : bK Z p c (sK Z p c) = sK Z p c ∧ bC Z p c (sK Z p c) = sC Z p c := by
  unfold bK bC sK sC; rw [Cols.advB_scan]; exact ⟨rfl, rfl⟩
theorem s_bound (Z : List Nat) (p c : Nat) (h : p ≤ Z.length) : p + sK Z p c ≤ Z.length ∧ c ≤ sC Z p c ∧ sC Z p c ≤ c + 4 * (Z.length - p) := by
  have h1 := Cols.scan_len (Z.drop p) c
  have h2 := Cols.scan_ge (Z.drop p) c
  have h3 := Cols.scan_le (Z.drop p) c
  rw [List.length_drop] at h1 h3
  unfold sK sC; omega

section
variable {c t bk : Nat} {a : Option Addr} {n cap : Nat} {Z : List Nat} {nb : Bool} {fns fnc ind : Int} {bl empty : Bool} {w : World}

theorem advance_bytes_at (pos col count : Nat) (x : Int) (hx : x = (count : Int)) (h : Cur c t a n cap Z nb pos col fns fnc ind bl w) (hp : pos ≤ n) (hn : n ≤ 1048576) (hc : col ≤ 1073741824 + 4194304) (hm : count ≤ 1048576) :
    Calls Try.prog 28 #[.pointer (some ⟨c, 0, none⟩), .int .i64 x, .bool false] w fun e w' => e = .returned (.tuple #[]) ∧ Cur c t a n cap Z nb (pos + bK Z pos col count : Nat) (bC Z pos col count : Nat) fns fnc ind bl w' ∧ OnlyAt c w w' := by
  subst hx; exact advance_bytes pos col count h hp hn hc hm

set_option maxRecDepth 100000 in
set_option maxHeartbeats 2000000 in
theorem goesOn_yes (pos col width : Nat) (h : Cur c t a n cap Z nb pos col fns fnc ind bl w) (hp : pos ≤ n) (hn : n ≤ 1048576) (hc : col ≤ 1073741824 + 4194304) (hw : width ≤ 262144)
    (hbk : bk ≠ c) (k0 : w.cell? ⟨bk, 0, none⟩ = some (.int .u8 2)) (k1 : w.cell? ⟨bk, 1, none⟩ = some (.int .i64 width))
    (hy : width ≤ sC Z pos col - col) :
    Calls Try.prog 22 #[.pointer (some ⟨c, 0, none⟩), .pointer (some ⟨bk, 0, none⟩)] w fun e w' => e = .returned (.bool true) ∧ Cur c t a n cap Z nb (pos + aK Z pos col width : Nat) (aC Z pos col width : Nat) (pos + sK Z pos col : Nat) (sC Z pos col : Nat) ((sC Z pos col : Int) - (col : Int)) ((atB Z nb (pos + sK Z pos col) : Int) == 0) w' ∧ OnlyAt c w w' := by
  obtain ⟨b1, b2, b3⟩ := s_bound Z pos col (by have := h.len; omega)
  go_enter Try.func22, Try.ntmps22
  go_wp2_with fail
  refine (nonspace_calls pos col h hp hn (by omega)).mono ?_
  rintro e w1 ⟨rfl, hC, hO⟩
  have q0 : w1.cell? ⟨bk, 0, none⟩ = some (.int .u8 2) := (hO.cell _ _ hbk).trans k0
  have q1 : w1.cell? ⟨bk, 1, none⟩ = some (.int .i64 width) := (hO.cell _ _ hbk).trans k1
  have c6 := hC.i
  have HC : Hid (Cur c t a n cap Z nb pos col (pos + sK Z pos col : Nat) (sC Z pos col : Nat) ((sC Z pos col : Int) - (col : Int)) ((atB Z nb (pos + sK Z pos col) : Int) == 0) w1) := hC
  have HO : Hid (OnlyAt c w w1) := hO
  have hge : (width : Int) ≤ (sC Z pos col : Int) - (col : Int) := by omega
  clear hC hO h k0 k1
  go_wp2_with fail
  go_quiet (fail)
  go_wp2_with fail
  refine (advance_cols pos col width (HC.out.drewN _) hp hn (by omega) hw).mono ?_
  rintro e w2 ⟨rfl, hC2, hO2⟩
  go_wp2_with fail
  go_ret
  exact ⟨rfl, hC2, (HO.out.drewN _).trans hO2⟩

set_option maxRecDepth 100000 in
set_option maxHeartbeats 2000000 in
theorem goesOn_blank (pos col width : Nat) (h : Cur c t a n cap Z nb pos col fns fnc ind bl w) (hp : pos ≤ n) (hn : n ≤ 1048576) (hc : col ≤ 1073741824 + 4194304)
    (hbk : bk ≠ c) (k0 : w.cell? ⟨bk, 0, none⟩ = some (.int .u8 2)) (k1 : w.cell? ⟨bk, 1, none⟩ = some (.int .i64 width)) (k2 : w.cell? ⟨bk, 2, none⟩ = some (.bool false))
    (hy : ¬ width ≤ sC Z pos col - col) (hbl : ((atB Z nb (pos + sK Z pos col) : Int) == 0) = true) :
    Calls Try.prog 22 #[.pointer (some ⟨c, 0, none⟩), .pointer (some ⟨bk, 0, none⟩)] w fun e w' => e = .returned (.bool true) ∧ Cur c t a n cap Z nb (pos + sK Z pos col : Nat) (sC Z pos col : Nat) (pos + sK Z pos col : Nat) (sC Z pos col : Nat) ((sC Z pos col : Int) - (col : Int)) true w' ∧ OnlyAt c w w' := by
  have hlen := h.len
  obtain ⟨b1, b2, b3⟩ := s_bound Z pos col (by omega)
  obtain ⟨y1, y2⟩ := b_scan Z pos col
  have Y1 : Hid (bK Z pos col (sK Z pos col) = sK Z pos col) := y1
  have Y2 : Hid (bC Z pos col (sK Z pos col) = sC Z pos col) := y2
  clear y1 y2
  go_enter Try.func22, Try.ntmps22
  go_wp2_with fail
  refine (nonspace_calls pos col h hp hn (by omega)).mono ?_
  rintro e w1 ⟨rfl, hC, hO⟩
  rw [hbl] at hC
  have q0 : w1.cell? ⟨bk, 0, none⟩ = some (.int .u8 2) := (hO.cell _ _ hbk).trans k0
  have q1 : w1.cell? ⟨bk, 1, none⟩ = some (.int .i64 width) := (hO.cell _ _ hbk).trans k1
  have q2 : w1.cell? ⟨bk, 2, none⟩ = some (.bool false) := (hO.cell _ _ hbk).trans k2
  have c6 := hC.i
  have c7 := hC.b
  have c4 := hC.f
  have c2 := hC.p
  have HC : Hid (Cur c t a n cap Z nb pos col (pos + sK Z pos col : Nat) (sC Z pos col : Nat) ((sC Z pos col : Int) - (col : Int)) true w1) := hC
  have HO : Hid (OnlyAt c w w1) := hO
  have hge : ¬ (width : Int) ≤ (sC Z pos col : Int) - (col : Int) := by omega
  have hbK : sK Z pos col ≤ 1048576 := by omega
  clear hC hO h k0 k1 k2 hbl hlen
  go_wp2_with fail
  go_quiet (fail)
  go_wp2_with fail
  go_region_with (go_at_call 28; refine (advance_bytes_at pos col (sK Z pos col) _ (by rw [IntKind.wrap_i64]; omega) (HC.out.drewN _) hp hn (by omega) hbK).mono ?_; rintro e w2 ⟨rfl, hC2, hO2⟩)
  all_goals
    go_wp2_with fail
    go_ret
    rw [Y1.out, Y2.out] at hC2
    exact ⟨rfl, hC2, (HO.out.drewN _).trans hO2⟩

set_option maxRecDepth 100000 in
set_option maxHeartbeats 2000000 in
theorem goesOn_no (pos col width : Nat) (h : Cur c t a n cap Z nb pos col fns fnc ind bl w) (hp : pos ≤ n) (hn : n ≤ 1048576) (hc : col ≤ 1073741824 + 4194304)
    (hbk : bk ≠ c) (k0 : w.cell? ⟨bk, 0, none⟩ = some (.int .u8 2)) (k1 : w.cell? ⟨bk, 1, none⟩ = some (.int .i64 width)) (k2 : w.cell? ⟨bk, 2, none⟩ = some (.bool empty))
    (hy : ¬ width ≤ sC Z pos col - col) (hbl : (((atB Z nb (pos + sK Z pos col) : Int) == 0) && !empty) = false) :
    Calls Try.prog 22 #[.pointer (some ⟨c, 0, none⟩), .pointer (some ⟨bk, 0, none⟩)] w fun e w' => e = .returned (.bool false) ∧ Cur c t a n cap Z nb pos col (pos + sK Z pos col : Nat) (sC Z pos col : Nat) ((sC Z pos col : Int) - (col : Int)) ((atB Z nb (pos + sK Z pos col) : Int) == 0) w' ∧ OnlyAt c w w' := by
  have hlen := h.len
  obtain ⟨b1, b2, b3⟩ := s_bound Z pos col (by omega)
  go_enter Try.func22, Try.ntmps22
  go_wp2_with fail
  refine (nonspace_calls pos col h hp hn (by omega)).mono ?_
  rintro e w1 ⟨rfl, hC, hO⟩
  have q0 : w1.cell? ⟨bk, 0, none⟩ = some (.int .u8 2) := (hO.cell _ _ hbk).trans k0
  have q1 : w1.cell? ⟨bk, 1, none⟩ = some (.int .i64 width) := (hO.cell _ _ hbk).trans k1
  have q2 : w1.cell? ⟨bk, 2, none⟩ = some (.bool empty) := (hO.cell _ _ hbk).trans k2
  have c6 := hC.i
  have c7 := hC.b
  have HC : Hid (Cur c t a n cap Z nb pos col (pos + sK Z pos col : Nat) (sC Z pos col : Nat) ((sC Z pos col : Int) - (col : Int)) ((atB Z nb (pos + sK Z pos col) : Int) == 0) w1) := hC
  have HO : Hid (OnlyAt c w w1) := hO
  have hge : ¬ (width : Int) ≤ (sC Z pos col : Int) - (col : Int) := by omega
  clear hC hO h k0 k1 k2 hlen
  cases hb : ((atB Z nb (pos + sK Z pos col) : Int) == 0)
  · rw [hb] at c7 hbl
    clear hb
    go_wp2_with fail
    go_quiet (fail)
    go_wp2_with fail
    go_ret
    exact ⟨rfl, HC.out.drewN _, HO.out.drewN _⟩
  · rw [hb] at c7 hbl
    clear hb
    have he : empty = true := by simpa using hbl
    rw [he] at q2
    clear he hbl
    go_wp2_with fail
    go_quiet (fail)
    go_wp2_with fail
    go_ret
    exact ⟨rfl, HC.out.drewN _, HO.out.drewN _⟩
end
end Go.Proofs.Qxb6003629a
