import Derived.Test.Qxb6003629aScan
import Derived.Deep.OwnRows
import Derived.Lib.SliceRun
namespace Go.Proofs.Qxb6003629a
open Go.ChangeShapes Go.WideShapes Go.ChangeAt Go.RowKit

theorem info5 : (Try.prog.info? 5).map (fun i => (i.zero, i.size, i.bytes)) = some (some (.int .u8 0), 1, 1) := by kernel_rfl

/-- the bytes of a slice that came in -/
def Src (x : Addr) (n : Nat) (Z : List Nat) (w : World) : Prop :=
  Z.length = n ∧ ∀ j, j < n → ∃ b o, x = ⟨b, o, none⟩ ∧ b < w.heap.size ∧ w.cell? ⟨b, o + j, none⟩ = some (.int .u8 (zn Z j : Nat))

theorem row_step {w : World} {B n k : Nat} {Z : List Nat} (hk : k < n) (h : w.rowIs B 5 n (fun j => .int .u8 ((if j < k then zn Z j else 0 : Nat) : Int))) :
    (w.setCell ⟨B, k, none⟩ (.int .u8 (zn Z k : Nat))).rowIs B 5 n (fun j => .int .u8 ((if j < k + 1 then zn Z j else 0 : Nat) : Int)) :=
  (h.set k _).congr fun j hj => by
    by_cases e : j = k
    · subst e; simp
    · simp only [if_neg e]
      by_cases l : j < k
      · rw [if_pos l, if_pos (by omega)]
      · rw [if_neg l, if_neg (by omega)]

theorem clone_nil (w : World) : Calls Try.prog 8 #[.slice none 0 0] w fun e w' => e = .returned (.slice none 0 0) ∧ w = w' := by
  have q22 := fun W => Lib.run_eql_slice_nil (P := Try.prog) W 22 5 none 0 0 0 0 Try.underlying22
  go_enter Try.func8, Try.ntmps8
  go_wp2
  go_ret
  exact ⟨rfl, rfl⟩

set_option maxHeartbeats 1000000 in
theorem clone_some (x : Addr) (n cap : Nat) (Z : List Nat) (w : World) (hs : Src x n Z w) (hn : n ≤ 1048576) :
    Calls Try.prog 8 #[.slice (some x) n cap] w fun e w' => ∃ a, e = .returned (.slice a n n) ∧ Line a n Z w' ∧ Below w.heap.size w w' := by
  have q22 : ∀ W, (binOp .eql 22 (.slice (some x) n cap) (.slice none 0 0)).run Try.prog W = .ok (.bool false) W := fun W => Lib.run_eql_slice_nil (P := Try.prog) W 22 5 (some x) n cap 0 0 Try.underlying22
  have hmk := run_make_row' (P := Try.prog) 22 5 (.int .u8 0) 1 Try.underlying22 info5 rfl .i64 .i64 n (by omega) (by omega)
  have S : Hid (Src x n Z w) := hs
  clear hs
  obtain ⟨B, hB⟩ : ∃ B, B = w.heap.size := ⟨_, rfl⟩
  have HB : Hid (B = w.heap.size) := hB
  go_enter Try.func8, Try.ntmps8
  go_wp2_with fail
  rw [← hB]
  clear hB
  go_loopg [4] n (fun gh i wr => ∃ k : Nat, k ≤ n ∧ gh = n - k ∧ i = .int .i64 k ∧ wr.rowIs B 5 n (fun j => .int .u8 ((if j < k then zn Z j else 0 : Nat) : Int)) ∧ Below w.heap.size w wr)
  case atStart => exact ⟨0, Nat.zero_le _, rfl, rfl, by rw [HB.out]; exact (World.rowIs_made w (.int .u8 0) n 5).congr (fun j _ => by simp), (Below.refl _ _).alloc (Nat.le_refl _) _⟩
  case round =>
    obtain ⟨k, hk, hg, rfl, hrow, hbel⟩ := hrel
    have HG : Hid (gk = n - k) := hg
    have R : Hid (wr.rowIs B 5 n (fun j => .int .u8 ((if j < k then zn Z j else 0 : Nat) : Int))) := hrow
    have BL : Hid (Below w.heap.size w wr) := hbel
    by_cases hlt : k < n
    · obtain ⟨b, o, rfl, hb, hc⟩ := S.out.2 k hlt
      have hcx : wr.cell? ⟨b, o + k, none⟩ = some (.int .u8 (zn Z k : Nat)) := (hbel.cell (p := ⟨b, o + k, none⟩) hb).trans hc
      have hcd := hrow.cell hlt
      have hfz := hrow.frozen k
      have hlti : (k : Int) < (n : Int) := by omega
      simp only [Nat.lt_irrefl, if_false] at hcd
      clear hg hrow hbel hc
      go_wp2_with fail
      go_roundg (n - (k + 1))
      case measure => rw [HG.out]; omega
      case rel => exact ⟨k + 1, by omega, rfl, by go_num, row_step hlt R.out, BL.out.setCell (by have := HB.out; show w.heap.size ≤ B; omega) _⟩
    · have hlti : ¬ (k : Int) < (n : Int) := by omega
      have L : Hid (Line (some ⟨B, 0, none⟩) n Z wr) := ⟨S.out.1, fun j hj => ⟨B, rfl, hrow.lt, by rw [hrow.cell hj, if_pos (by omega)]⟩⟩
      clear hg hrow hbel
      go_wp2_with fail
      go_ret
      exact ⟨_, rfl, L.out, BL.out⟩

theorem zzbytes_calls (a0 : Option Addr) (n cap : Nat) (v1 v2 v3 v4 v5 v6 : Value) (w : World) (hn : n ≤ 1048576) :
    Calls Try.prog 7 #[.slice a0 n cap, v1, v2, v3, v4, v5, v6] w fun e w' => e = .returned (.bool true) ∧ w = w' := by
  go_enter Try.func7, Try.ntmps7
  go_wp2
  go_ret
  exact ⟨rfl, rfl⟩

theorem zzbytes_no (a0 : Option Addr) (n cap : Nat) (v1 v2 v3 v4 v5 v6 : Value) (w : World) (hn : 1048576 < n) :
    Calls Try.prog 7 #[.slice a0 n cap, v1, v2, v3, v4, v5, v6] w fun e w' => e = .returned (.bool false) ∧ w = w' := by
  go_enter Try.func7, Try.ntmps7
  go_wp2
  go_ret
  exact ⟨rfl, rfl⟩

/-- zzCloneBytes at a slice that came in -/
theorem clone_calls {a0 : Option Addr} {n cap : Nat} {zs : List Int} {w : World}
    (h : (a0 = none ∧ n = 0 ∧ cap = 0 ∧ zs = []) ∨ ∃ x, a0 = some x ∧ n ≤ cap ∧ cap ≤ maxLen ∧ zs.length = cap ∧ (∀ i, i < zs.length → w.cell? (x.add i) = some (.int .u8 (zs.getD i 0))) ∧ ∀ m ∈ zs, (Lit.int .u8 m).wf = true)
    (hn : n ≤ 1048576) :
    Calls Try.prog 8 #[.slice a0 n cap] w fun e w' => ∃ a Z, e = .returned (.slice a n n) ∧ Line a n Z w' ∧ Below w.heap.size w w' := by
  rcases h with ⟨rfl, rfl, rfl, rfl⟩ | ⟨x, rfl, h1, h2, h3, hc, hw⟩
  · refine (clone_nil w).mono ?_
    rintro e w' ⟨rfl, rfl⟩
    exact ⟨none, [], rfl, ⟨rfl, fun j hj => absurd hj (Nat.not_lt_zero _)⟩, Below.refl _ _⟩
  · have hs : Src x n ((zs.map Int.toNat).take n) w := by
      refine ⟨by simp; omega, fun j hj => ?_⟩
      have hjl : j < zs.length := by omega
      have hcj := hc j hjl
      have hc0 := hc 0 (by omega)
      obtain ⟨b, o, sp⟩ := x
      have hsp : sp = none := by
        have e : (Addr.add ⟨b, o, sp⟩ 0) = ⟨b, o, sp⟩ := rfl
        rw [e] at hc0
        cases sp with
        | none => rfl
        | some q =>
          simp only [World.cell?] at hc0
          split at hc0 <;> simp at hc0
      subst hsp
      have ej : (Addr.add ⟨b, o, none⟩ j) = ⟨b, o + j, none⟩ := by
        unfold Addr.add; split
        · subst_vars; rfl
        · rfl
      rw [ej] at hcj
      refine ⟨b, o, rfl, World.block_lt_of_cell? w _ hcj, ?_⟩
      rw [hcj]
      have hwf := hw (zs.getD j 0) (by rw [List.getD_eq_getElem?_getD, List.getElem?_eq_getElem hjl]; exact List.getElem_mem _)
      simp only [Lit.wf] at hwf
      have hnn : 0 ≤ zs.getD j 0 := of_decide_eq_true ((Bool.and_eq_true _ _).mp hwf).1
      have hz : zn ((zs.map Int.toNat).take n) j = (zs.getD j 0).toNat := by
        unfold zn
        rw [List.getD_eq_getElem?_getD, List.getElem?_take_of_lt hj, List.getElem?_map, List.getD_eq_getElem?_getD, List.getElem?_eq_getElem hjl]
        rfl
      rw [hz, Int.toNat_of_nonneg hnn]
    refine (clone_some x n cap _ w hs hn).mono ?_
    rintro e w' ⟨a, h⟩
    exact ⟨a, _, h⟩
end Go.Proofs.Qxb6003629a
