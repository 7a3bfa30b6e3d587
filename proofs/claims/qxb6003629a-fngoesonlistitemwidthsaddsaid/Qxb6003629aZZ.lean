import Derived.Test.Qxb6003629aGoes
namespace Go.Proofs.Qxb6003629a
open Go.ChangeShapes Go.WideShapes Go.ChangeAt Go.RowKit
open Cols (nxt scan adv advB posAt)

def blk (Z : List Nat) (nb : Bool) (pos col : Nat) : Bool := (atB Z nb (pos + sK Z pos col) : Int) == 0
def goOk (Z : List Nat) (nb : Bool) (pos col width : Nat) (empty : Bool) : Bool := if width ≤ sC Z pos col - col then true else (blk Z nb pos col && !empty)
def goPos (Z : List Nat) (nb : Bool) (pos col width : Nat) (empty : Bool) : Nat := if width ≤ sC Z pos col - col then pos + aK Z pos col width else if (blk Z nb pos col && !empty) = true then pos + sK Z pos col else pos
def goCol (Z : List Nat) (nb : Bool) (pos col width : Nat) (empty : Bool) : Nat := if width ≤ sC Z pos col - col then aC Z pos col width else if (blk Z nb pos col && !empty) = true then sC Z pos col else col

/-- the line's bytes lie in memory -/
def Line (a : Option Addr) (n : Nat) (Z : List Nat) (w : World) : Prop :=
  Z.length = n ∧ ∀ j, j < n → ∃ y, a = some ⟨y, 0, none⟩ ∧ y < w.heap.size ∧ w.cell? ⟨y, j, none⟩ = some (.int .u8 (zn Z j : Nat))

theorem Line.below {a : Option Addr} {n : Nat} {Z : List Nat} {w w' : World} (h : Line a n Z w) (hb : Below w.heap.size w w') : Line a n Z w' :=
  ⟨h.1, fun j hj => by
    obtain ⟨y, e, hy, hc⟩ := h.2 j hj
    exact ⟨y, e, by have := hb.size; omega, (hb.cell (p := ⟨y, j, none⟩) hy).trans hc⟩⟩

def tailB (nb : Bool) : Obj := .cells #[.int .i64 0, .int .u8 0, .int .i64 0, .bool false, .bool false, .bool false, .bool nb, .bool false, .int .u8 0, .int .i64 0, .int .u8 0, .int .u8 0, .int .u8 0, .int .u8 0, .int .u8 0, .int .u8 0, .int .u8 0, .int .u8 0, .int .u8 0, .int .u8 0, .int .u8 0, .int .i64 0] 43
def curB (a : Option Addr) (n cap t : Nat) (pos col : Int) : Obj := .cells #[.slice a n cap, .pointer (some ⟨t, 0, none⟩), .int .i64 pos, .int .i64 col, .int .i64 0, .int .i64 0, .int .i64 0, .bool false] 45
def blkB (width : Int) (empty : Bool) : Obj := .cells #[.int .u8 2, .int .i64 width, .bool empty, .int .u8 0, .int .i64 0, .int .i64 0, .string ⟨#[]⟩] 49

def W3 (w : World) (a : Option Addr) (n cap : Nat) (nb : Bool) (pos col width : Int) (empty : Bool) : World :=
  ((w.alloc (tailB nb)).alloc (curB a n cap w.heap.size pos col)).alloc (blkB width empty)

theorem W3_cur (w : World) (a : Option Addr) (n cap : Nat) (nb : Bool) (pos col width : Int) (empty : Bool) (j : Nat) :
    (W3 w a n cap nb pos col width empty).cell? ⟨w.heap.size + 1, j, none⟩ = (#[Value.slice a n cap, .pointer (some ⟨w.heap.size, 0, none⟩), .int .i64 pos, .int .i64 col, .int .i64 0, .int .i64 0, .int .i64 0, .bool false] : Array Value)[j]? := by
  unfold W3
  rw [World.cell?_alloc_past _ _ _ (by simp)]
  unfold curB
  rw [World.cell?_alloc_at _ _ _ _ (by simp)]

theorem W3_tail (w : World) (a : Option Addr) (n cap : Nat) (nb : Bool) (pos col width : Int) (empty : Bool) :
    (W3 w a n cap nb pos col width empty).cell? ⟨w.heap.size, 6, none⟩ = some (.bool nb) := by
  unfold W3
  rw [World.cell?_alloc_past _ _ _ (by simp; omega), World.cell?_alloc_past _ _ _ (by simp)]
  unfold tailB
  rw [World.cell?_alloc_at _ _ _ _ rfl]
  rfl

theorem W3_blk (w : World) (a : Option Addr) (n cap : Nat) (nb : Bool) (pos col width : Int) (empty : Bool) (j : Nat) :
    (W3 w a n cap nb pos col width empty).cell? ⟨w.heap.size + 1 + 1, j, none⟩ = (#[Value.int .u8 2, .int .i64 width, .bool empty, .int .u8 0, .int .i64 0, .int .i64 0, .string ⟨#[]⟩] : Array Value)[j]? := by
  unfold W3 blkB
  rw [World.cell?_alloc_at _ _ _ _ (by simp)]

theorem W3_below (w : World) (a : Option Addr) (n cap : Nat) (nb : Bool) (pos col width : Int) (empty : Bool) : Below w.heap.size w (W3 w a n cap nb pos col width empty) :=
  (((Below.refl _ _).alloc (Nat.le_refl _) _).alloc (by simp) _).alloc (by simp; omega) _

theorem W3_Cur {w : World} {a : Option Addr} {n : Nat} {Z : List Nat} (hL : Line a n Z w) (cap : Nat) (nb : Bool) (pos col width : Int) (empty : Bool) :
    Cur (w.heap.size + 1) w.heap.size a n cap Z nb pos col 0 0 0 false (W3 w a n cap nb pos col width empty) := by
  have hb := W3_below w a n cap nb pos col width empty
  refine ⟨(W3_cur ..).trans rfl, (W3_cur ..).trans rfl, (W3_cur ..).trans rfl, (W3_cur ..).trans rfl, (W3_cur ..).trans rfl, (W3_cur ..).trans rfl, (W3_cur ..).trans rfl, (W3_cur ..).trans rfl, ?_, W3_tail .., by omega, hL.1, ?_⟩
  · intro j
    unfold W3 tailB curB blkB
    rw [frozen?_alloc_cells, frozen?_alloc_cells, frozen?_alloc_cells]
    simp [World.frozen?]
  · intro j hj
    obtain ⟨y, e, hy, hc⟩ := hL.2 j hj
    exact ⟨y, e, by omega, (hb.cell (p := ⟨y, j, none⟩) hy).trans hc⟩

set_option maxRecDepth 100000 in
set_option maxHeartbeats 1000000 in
theorem zzgoes_calls {w : World} {a : Option Addr} {n : Nat} {Z : List Nat} (hL : Line a n Z w) (cap : Nat) (nb : Bool) (pos col width : Nat) (empty : Bool) (hp : pos ≤ n) (hn : n ≤ 1048576) (hc : col ≤ 1073741824 + 4194304) (hw : width ≤ 262144) :
    Calls Try.prog 11 #[.slice a n cap, .int .i64 pos, .int .i64 col, .bool nb, .int .u8 2, .int .i64 width, .bool empty, .int .i64 0] w fun e w' =>
      e = .returned (.tuple #[.bool (goOk Z nb pos col width empty), .int .i64 (goPos Z nb pos col width empty : Nat), .int .i64 (goCol Z nb pos col width empty : Nat), .int .i64 (pos + sK Z pos col : Nat), .int .i64 (sC Z pos col : Nat), .int .i64 ((sC Z pos col : Int) - (col : Int)), .bool (blk Z nb pos col)]) ∧ Below w.heap.size w w' := by
  have hcur := W3_Cur hL cap nb pos col width empty
  have hbel := W3_below w a n cap nb pos col width empty
  have hk0 := W3_blk w a n cap nb pos col width empty 0
  have hk1 := W3_blk w a n cap nb pos col width empty 1
  have hk2 := W3_blk w a n cap nb pos col width empty 2
  have C : Hid (Cur (w.heap.size + 1) w.heap.size a n cap Z nb pos col 0 0 0 false (W3 w a n cap nb pos col width empty)) := hcur
  have B : Hid (Below w.heap.size w (W3 w a n cap nb pos col width empty)) := hbel
  have K0 : Hid ((W3 w a n cap nb pos col width empty).cell? ⟨w.heap.size + 1 + 1, 0, none⟩ = some (.int .u8 2)) := hk0
  have K1 : Hid ((W3 w a n cap nb pos col width empty).cell? ⟨w.heap.size + 1 + 1, 1, none⟩ = some (.int .i64 width)) := hk1
  have K2 : Hid ((W3 w a n cap nb pos col width empty).cell? ⟨w.heap.size + 1 + 1, 2, none⟩ = some (.bool empty)) := hk2
  clear hcur hbel hk0 hk1 hk2
  by_cases hy : width ≤ sC Z pos col - col
  · have O : Hid (goOk Z nb pos col width empty = true ∧ goPos Z nb pos col width empty = pos + aK Z pos col width ∧ goCol Z nb pos col width empty = aC Z pos col width) := ⟨if_pos hy, if_pos hy, if_pos hy⟩
    go_enter Try.func11, Try.ntmps11
    go_wp2_with fail
    refine (goesOn_yes (w := W3 w a n cap nb pos col width empty) pos col width C.out hp hn hc hw (by omega) K0.out K1.out hy).mono ?_
    rintro e w1 ⟨rfl, hC, hO⟩
    have c2 := hC.p
    have c3 := hC.q
    have c4 := hC.f
    have c5 := hC.g
    have c6 := hC.i
    have c7 := hC.b
    have HO : Hid (OnlyAt (w.heap.size + 1) (W3 w a n cap nb pos col width empty) w1) := hO
    clear hC hO
    go_wp2_with fail
    go_quiet (fail)
    go_wp2_with fail
    refine bodyPost_ret (v := .tuple #[.bool true, .int .i64 (pos + aK Z pos col width : Nat), .int .i64 (aC Z pos col width : Nat), .int .i64 (pos + sK Z pos col : Nat), .int .i64 (sC Z pos col : Nat), .int .i64 ((sC Z pos col : Int) - (col : Int)), .bool ((atB Z nb (pos + sK Z pos col) : Int) == 0)]) (by simp [results, Try.results11, go_sem]) rfl ?_
    obtain ⟨o1, o2, o3⟩ := O.out
    rw [o1, o2, o3]
    exact ⟨rfl, B.out.trans (below_drewN (HO.out.below (by omega)) _)⟩
  · cases hbe : (blk Z nb pos col && !empty)
    · have O : Hid (goOk Z nb pos col width empty = false ∧ goPos Z nb pos col width empty = pos ∧ goCol Z nb pos col width empty = col) :=
        ⟨(if_neg hy).trans hbe, (if_neg hy).trans (if_neg (by rw [hbe]; simp)), (if_neg hy).trans (if_neg (by rw [hbe]; simp))⟩
      have HB : Hid (((((atB Z nb (pos + sK Z pos col) : Int) == 0)) && !empty) = false) := hbe
      clear hbe
      go_enter Try.func11, Try.ntmps11
      go_wp2_with fail
      refine (goesOn_no (w := W3 w a n cap nb pos col width empty) (empty := empty) pos col width C.out hp hn hc (by omega) K0.out K1.out K2.out hy HB.out).mono ?_
      rintro e w1 ⟨rfl, hC, hO⟩
      have c2 := hC.p
      have c3 := hC.q
      have c4 := hC.f
      have c5 := hC.g
      have c6 := hC.i
      have c7 := hC.b
      have HO : Hid (OnlyAt (w.heap.size + 1) (W3 w a n cap nb pos col width empty) w1) := hO
      clear hC hO
      go_wp2_with fail
      go_quiet (fail)
      go_wp2_with fail
      refine bodyPost_ret (v := .tuple #[.bool false, .int .i64 (pos : Nat), .int .i64 (col : Nat), .int .i64 (pos + sK Z pos col : Nat), .int .i64 (sC Z pos col : Nat), .int .i64 ((sC Z pos col : Int) - (col : Int)), .bool ((atB Z nb (pos + sK Z pos col) : Int) == 0)]) (by simp [results, Try.results11, go_sem]) rfl ?_
      obtain ⟨o1, o2, o3⟩ := O.out
      rw [o1, o2, o3]
      exact ⟨rfl, B.out.trans (below_drewN (HO.out.below (by omega)) _)⟩
    · have O : Hid (goOk Z nb pos col width empty = true ∧ goPos Z nb pos col width empty = pos + sK Z pos col ∧ goCol Z nb pos col width empty = sC Z pos col) :=
        ⟨(if_neg hy).trans hbe, (if_neg hy).trans (if_pos hbe), (if_neg hy).trans (if_pos hbe)⟩
      have BL : Hid (blk Z nb pos col = true) := by revert hbe; unfold Hid; cases blk Z nb pos col <;> simp
      have he : empty = false := by revert hbe; cases empty <;> simp
      clear hbe
      subst he
      go_enter Try.func11, Try.ntmps11
      go_wp2_with fail
      refine (goesOn_blank (w := W3 w a n cap nb pos col width false) pos col width C.out hp hn hc (by omega) K0.out K1.out K2.out hy BL.out).mono ?_
      rintro e w1 ⟨rfl, hC, hO⟩
      have c2 := hC.p
      have c3 := hC.q
      have c4 := hC.f
      have c5 := hC.g
      have c6 := hC.i
      have c7 := hC.b
      have HO : Hid (OnlyAt (w.heap.size + 1) (W3 w a n cap nb pos col width false) w1) := hO
      clear hC hO
      go_wp2_with fail
      go_quiet (fail)
      go_wp2_with fail
      refine bodyPost_ret (v := .tuple #[.bool true, .int .i64 (pos + sK Z pos col : Nat), .int .i64 (sC Z pos col : Nat), .int .i64 (pos + sK Z pos col : Nat), .int .i64 (sC Z pos col : Nat), .int .i64 ((sC Z pos col : Int) - (col : Int)), .bool (true)]) (by simp [results, Try.results11, go_sem]) rfl ?_
      obtain ⟨o1, o2, o3⟩ := O.out
      rw [o1, o2, o3]
      exact ⟨by rw [BL.out], B.out.trans (below_drewN (HO.out.below (by omega)) _)⟩
end Go.Proofs.Qxb6003629a
