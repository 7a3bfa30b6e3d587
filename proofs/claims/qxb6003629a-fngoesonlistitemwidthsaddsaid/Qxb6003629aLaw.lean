import Derived.Test.Qxb6003629aWays
import Derived.Test.Qxb6003629aClone
namespace Go.Proofs.Qxb6003629a
open Go.ChangeShapes Go.WideShapes Go.ChangeAt Go.RowKit

theorem zz_at {w : World} {a : Option Addr} {n : Nat} {Z : List Nat} (hL : Line a n Z w) (cap : Nat) (nb : Bool) (pos col width : Nat) (x : Int) (hx : x = (width : Int)) (empty : Bool) (hp : pos ≤ n) (hn : n ≤ 1048576) (hc : col ≤ 1073741824 + 4194304) (hw : width ≤ 262144)
    {ok bl : Bool} {p c f fc : Nat} (e1 : goOk Z nb pos col width empty = ok) (e2 : goPos Z nb pos col width empty = p) (e3 : goCol Z nb pos col width empty = c) (e4 : pos + sK Z pos col = f) (e5 : sC Z pos col = fc) (e6 : blk Z nb pos col = bl) :
    Calls Try.prog 11 #[.slice a n cap, .int .i64 pos, .int .i64 col, .bool nb, .int .u8 2, .int .i64 x, .bool empty, .int .i64 0] w fun e w' =>
      e = .returned (.tuple #[.bool ok, .int .i64 p, .int .i64 c, .int .i64 f, .int .i64 fc, .int .i64 ((fc : Int) - (col : Int)), .bool bl]) ∧ Below w.heap.size w w' := by
  subst hx e1 e2 e3 e4 e5 e6
  exact zzgoes_calls hL cap nb pos col width empty hp hn hc hw

theorem scan_at {w : World} {a : Option Addr} {n : Nat} {Z : List Nat} (hL : Line a n Z w) (cap : Nat) (nb : Bool) (pos col : Nat) (hp : pos ≤ n) (hn : n ≤ 1048576) (hc : col ≤ 1073741824 + 4194304) {f fc : Nat} {bl : Bool} (e4 : pos + sK Z pos col = f) (e5 : sC Z pos col = fc) (e6 : blk Z nb pos col = bl) :
    Calls Try.prog 9 #[.slice a n cap, .int .i64 pos, .int .i64 col, .bool nb] w fun e w' => e = .returned (.tuple #[.int .i64 f, .int .i64 fc, .bool bl]) ∧ w = w' := by
  subst e4 e5 e6
  exact (scan_calls hL cap nb pos col hp hn hc).mono fun e w' h => ⟨h.1, h.2.symm⟩

theorem posAt_at {w : World} {a : Option Addr} {n : Nat} {Z : List Nat} (hL : Line a n Z w) (cap : Nat) (pos col T : Nat) (x : Int) (hx : x = (T : Int)) (hp : pos ≤ n) (hn : n ≤ 1048576) (hc : col ≤ 1073741824 + 4194304) {P : Nat} (e : pos + pK Z pos col T = P) :
    Calls Try.prog 10 #[.slice a n cap, .int .i64 pos, .int .i64 col, .int .i64 x] w fun e w' => e = .returned (.int .i64 P) ∧ w = w' := by
  subst hx e
  exact (posAt_calls hL cap pos col T hp hn hc).mono fun e w' h => ⟨h.1, h.2.symm⟩

set_option maxRecDepth 100000 in
set_option maxHeartbeats 4000000 in
theorem law {a0 : Option Addr} {n cap : Nat} {zs : List Int} {w : World}
    (h : (a0 = none ∧ n = 0 ∧ cap = 0 ∧ zs = []) ∨ ∃ x, a0 = some x ∧ n ≤ cap ∧ cap ≤ maxLen ∧ zs.length = cap ∧ (∀ i, i < zs.length → w.cell? (x.add i) = some (.int .u8 (zs.getD i 0))) ∧ ∀ m ∈ zs, (Lit.int .u8 m).wf = true)
    (pos col a b : Nat) (nb empty : Bool) (hn : n ≤ 1048576) (hp : pos ≤ n) (hc : col ≤ 1073741824) (ha : a ≤ 65536) (hb : b ≤ 65536) :
    Calls Try.prog 3 #[.slice a0 n cap, .int .i64 pos, .int .i64 col, .bool nb, .int .i64 a, .int .i64 b, .bool empty] w fun e w' => e = .returned (.bool true) ∧ Below w.heap.size w w' := by
  have H : Hid _ := clone_calls h hn
  clear h
  go_enter Try.func3, Try.ntmps3
  go_wp2_with fail
  refine (zzbytes_calls a0 n cap _ _ _ _ _ _ _ hn).mono ?_
  rintro e w2 ⟨rfl, rfl⟩
  go_wp2_with fail
  refine Calls.mono H.out ?_
  rintro e w1 ⟨A, Z, rfl, hL, hB⟩
  have L : Hid (Line A n Z w1) := hL
  have BB : Hid (Below w.heap.size w w1) := hB
  have hlen := hL.1
  clear hL hB H
  obtain ⟨f, e4⟩ : ∃ f, pos + sK Z pos col = f := ⟨_, rfl⟩
  obtain ⟨fc, e5⟩ : ∃ fc, sC Z pos col = fc := ⟨_, rfl⟩
  obtain ⟨bl, e6⟩ : ∃ bl, blk Z nb pos col = bl := ⟨_, rfl⟩
  have hbd := s_bound Z pos col (by omega)
  have hfc1 : col ≤ fc := by omega
  have hfc2 : fc ≤ 1073741824 + 4194304 := by omega
  by_cases hA : col + (a + b) ≤ fc
  · obtain ⟨P, eP⟩ : ∃ P, pos + pK Z pos col (col + (a + b)) = P := ⟨_, rfl⟩
    obtain ⟨PA, CA, hW, hCA⟩ : ∃ PA CA, WayA Z nb pos col a b empty P (col + (a + b)) PA CA ∧ CA ≤ 1073741824 + 4194304 := by
      have := wayA (Z := Z) nb (p := pos) (c := col) (a := a) (b := b) empty (by omega) (by omega) ha
      rw [eP] at this
      exact ⟨_, _, this, by omega⟩
    have W : Hid (WayA Z nb pos col a b empty P (col + (a + b)) PA CA) := hW
    have E4 : Hid (pos + sK Z pos col = f) := e4
    have E5 : Hid (sC Z pos col = fc) := e5
    have E6 : Hid (blk Z nb pos col = bl) := e6
    have EP : Hid (pos + pK Z pos col (col + (a + b)) = P) := eP
    have hPA : PA ≤ n := by have := hW.bp; omega
    have hAi : (a : Int) + (b : Int) ≤ (fc : Int) - (col : Int) := by omega
    clear e4 e5 e6 eP hbd hlen hW
    go_wp2_with fail
    refine (scan_at L.out n nb pos col hp hn (by omega) E4.out E5.out E6.out).mono ?_
    rintro e w2 ⟨rfl, rfl⟩
    go_wp2_with fail
    refine (posAt_at L.out n pos col (col + (a + b)) _ (by omega) hp hn (by omega) EP.out).mono ?_
    rintro e w2 ⟨rfl, rfl⟩
    go_wp2_with fail
    refine (zz_at L.out n nb pos col (a + b) _ (by omega) empty hp hn (by omega) (by omega) W.out.o W.out.q W.out.r E4.out E5.out E6.out).mono ?_
    rintro e w2 ⟨rfl, hB2⟩
    have L2 : Hid (Line A n Z w2) := L.out.below hB2
    have BB2 : Hid (Below w.heap.size w w2) := BB.out.trans (hB2.mono BB.out.size)
    clear hB2
    go_wp2_with fail
    refine (zz_at L2.out n nb pos col a _ rfl empty hp hn (by omega) (by omega) W.out.oa W.out.qa W.out.ra E4.out E5.out E6.out).mono ?_
    rintro e w3 ⟨rfl, hB3⟩
    have L3 : Hid (Line A n Z w3) := L2.out.below hB3
    have BB3 : Hid (Below w.heap.size w w3) := BB2.out.trans (hB3.mono BB2.out.size)
    clear hB3
    go_wp2_with fail
    refine (zz_at L3.out n nb PA CA b _ rfl empty hPA hn hCA (by omega) W.out.ob W.out.qb W.out.rb rfl rfl rfl).mono ?_
    rintro e w4 ⟨rfl, hB4⟩
    have BB4 : Hid (Below w.heap.size w w4) := BB3.out.trans (hB4.mono BB3.out.size)
    clear hB4
    go_wp2_with fail
    go_ret
    exact ⟨rfl, BB4.out⟩
  have hAi : ¬ (a : Int) + (b : Int) ≤ (fc : Int) - (col : Int) := by omega
  by_cases hbe : bl = true ∧ empty = false
  · obtain ⟨rfl, rfl⟩ := hbe
    obtain ⟨PA, CA, hW, hCA⟩ : ∃ PA CA, WayA Z nb pos col a b false f fc PA CA ∧ CA ≤ 1073741824 + 4194304 := by
      by_cases h1 : col + a ≤ fc
      · have := wayB1 (Z := Z) (nb := nb) (p := pos) (c := col) (a := a) (b := b) (empty := false) (by omega) e6 rfl (by omega) (by omega) ha
        rw [e4, e5] at this
        exact ⟨_, _, this, by omega⟩
      · have := wayB2 (Z := Z) (nb := nb) (p := pos) (c := col) (a := a) (b := b) (empty := false) e6 rfl (by omega) (by omega)
        rw [e4, e5] at this
        exact ⟨_, _, this, by omega⟩
    have W : Hid (WayA Z nb pos col a b false f fc PA CA) := hW
    have E4 : Hid (pos + sK Z pos col = f) := e4
    have E5 : Hid (sC Z pos col = fc) := e5
    have E6 : Hid (blk Z nb pos col = true) := e6
    have hPA : PA ≤ n := by have := hW.bp; omega
    clear e4 e5 e6 hbd hlen hW
    go_wp2_with fail
    refine (scan_at L.out n nb pos col hp hn (by omega) E4.out E5.out E6.out).mono ?_
    rintro e w2 ⟨rfl, rfl⟩
    go_wp2_with fail
    refine (zz_at L.out n nb pos col (a + b) _ (by omega) false hp hn (by omega) (by omega) W.out.o W.out.q W.out.r E4.out E5.out E6.out).mono ?_
    rintro e w2 ⟨rfl, hB2⟩
    have L2 : Hid (Line A n Z w2) := L.out.below hB2
    have BB2 : Hid (Below w.heap.size w w2) := BB.out.trans (hB2.mono BB.out.size)
    clear hB2
    go_wp2_with fail
    refine (zz_at L2.out n nb pos col a _ rfl false hp hn (by omega) (by omega) W.out.oa W.out.qa W.out.ra E4.out E5.out E6.out).mono ?_
    rintro e w3 ⟨rfl, hB3⟩
    have L3 : Hid (Line A n Z w3) := L2.out.below hB3
    have BB3 : Hid (Below w.heap.size w w3) := BB2.out.trans (hB3.mono BB2.out.size)
    clear hB3
    go_wp2_with fail
    refine (zz_at L3.out n nb PA CA b _ rfl false hPA hn hCA (by omega) W.out.ob W.out.qb W.out.rb rfl rfl rfl).mono ?_
    rintro e w4 ⟨rfl, hB4⟩
    have BB4 : Hid (Below w.heap.size w w4) := BB3.out.trans (hB4.mono BB3.out.size)
    clear hB4
    go_wp2_with fail
    go_ret
    exact ⟨rfl, BB4.out⟩
  have hbn : (bl && !empty) = false := by cases bl <;> cases empty <;> simp_all
  have hbb : bl = false ∨ (bl = true ∧ empty = true) := by cases bl <;> cases empty <;> simp_all
  by_cases h1 : col + a ≤ fc
  · obtain ⟨PA, CA, hW, hCA⟩ : ∃ PA CA, WayC Z nb pos col a b empty PA CA ∧ CA ≤ 1073741824 + 4194304 :=
      ⟨_, _, wayC1 (Z := Z) (nb := nb) (p := pos) (c := col) (a := a) (b := b) (empty := empty) (by omega) (by rw [e6, hbn]) (by omega) (by omega) ha, by omega⟩
    have W : Hid (WayC Z nb pos col a b empty PA CA) := hW
    have E4 : Hid (pos + sK Z pos col = f) := e4
    have E5 : Hid (sC Z pos col = fc) := e5
    have E6 : Hid (blk Z nb pos col = bl) := e6
    have hPA : PA ≤ n := by have := hW.bp; omega
    clear e4 e5 e6 hbd hlen hW hbe h1 hbn
    rcases hbb with rfl | ⟨rfl, rfl⟩
    all_goals
      go_wp2_with fail
      refine (scan_at L.out n nb pos col hp hn (by omega) E4.out E5.out E6.out).mono ?_
      rintro e w2 ⟨rfl, rfl⟩
      go_wp2_with fail
      refine (zz_at L.out n nb pos col (a + b) _ (by omega) _ hp hn (by omega) (by omega) W.out.o W.out.q W.out.r E4.out E5.out E6.out).mono ?_
      rintro e w2 ⟨rfl, hB2⟩
      have L2 : Hid (Line A n Z w2) := L.out.below hB2
      have BB2 : Hid (Below w.heap.size w w2) := BB.out.trans (hB2.mono BB.out.size)
      clear hB2
      go_wp2_with fail
      refine (zz_at L2.out n nb pos col a _ rfl _ hp hn (by omega) (by omega) W.out.oa W.out.qa W.out.ra E4.out E5.out E6.out).mono ?_
      rintro e w3 ⟨rfl, hB3⟩
      have L3 : Hid (Line A n Z w3) := L2.out.below hB3
      have BB3 : Hid (Below w.heap.size w w3) := BB2.out.trans (hB3.mono BB2.out.size)
      clear hB3
      go_wp2_with fail
      refine (zz_at L3.out n nb PA CA b _ rfl _ hPA hn hCA (by omega) W.out.ob rfl rfl rfl rfl rfl).mono ?_
      rintro e w4 ⟨rfl, hB4⟩
      have BB4 : Hid (Below w.heap.size w w4) := BB3.out.trans (hB4.mono BB3.out.size)
      clear hB4
      go_wp2_with fail
      go_ret
      exact ⟨rfl, BB4.out⟩
  · obtain ⟨o1, q1, r1⟩ := go_no (Z := Z) (nb := nb) (p := pos) (c := col) (n := a + b) (empty := empty) (by omega) (by rw [e6, hbn])
    obtain ⟨o2, q2, r2⟩ := go_no (Z := Z) (nb := nb) (p := pos) (c := col) (n := a) (empty := empty) (by omega) (by rw [e6, hbn])
    have W1 : Hid (goOk Z nb pos col (a + b) empty = false ∧ goPos Z nb pos col (a + b) empty = pos ∧ goCol Z nb pos col (a + b) empty = col) := ⟨o1, q1, r1⟩
    have W2 : Hid (goOk Z nb pos col a empty = false ∧ goPos Z nb pos col a empty = pos ∧ goCol Z nb pos col a empty = col) := ⟨o2, q2, r2⟩
    have E4 : Hid (pos + sK Z pos col = f) := e4
    have E5 : Hid (sC Z pos col = fc) := e5
    have E6 : Hid (blk Z nb pos col = bl) := e6
    clear e4 e5 e6 hbd hlen hbe h1 o1 q1 r1 o2 q2 r2 hbn
    rcases hbb with rfl | ⟨rfl, rfl⟩
    all_goals
      go_wp2_with fail
      refine (scan_at L.out n nb pos col hp hn (by omega) E4.out E5.out E6.out).mono ?_
      rintro e w2 ⟨rfl, rfl⟩
      go_wp2_with fail
      refine (zz_at L.out n nb pos col (a + b) _ (by omega) _ hp hn (by omega) (by omega) W1.out.1 W1.out.2.1 W1.out.2.2 E4.out E5.out E6.out).mono ?_
      rintro e w2 ⟨rfl, hB2⟩
      have L2 : Hid (Line A n Z w2) := L.out.below hB2
      have BB2 : Hid (Below w.heap.size w w2) := BB.out.trans (hB2.mono BB.out.size)
      clear hB2
      go_wp2_with fail
      refine (zz_at L2.out n nb pos col a _ rfl _ hp hn (by omega) (by omega) W2.out.1 W2.out.2.1 W2.out.2.2 E4.out E5.out E6.out).mono ?_
      rintro e w3 ⟨rfl, hB3⟩
      have L3 : Hid (Line A n Z w3) := L2.out.below hB3
      have BB3 : Hid (Below w.heap.size w w3) := BB2.out.trans (hB3.mono BB2.out.size)
      clear hB3
      go_wp2_with fail
      go_ret
      exact ⟨rfl, BB3.out⟩
end Go.Proofs.Qxb6003629a
