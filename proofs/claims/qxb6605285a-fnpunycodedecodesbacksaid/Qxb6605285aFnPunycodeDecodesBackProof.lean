import Derived.Test.Qxb6605285aRows
import Derived.WalkKit
import Derived.ProofKit
import Derived.OpenShut
import Derived.ShutString
import Derived.ChangeOld
import Derived.Below
import Derived.Test.Qxb6605285aEncode
import Derived.Test.Qxb6605285aDecode
namespace Go.Proofs.Qxb6605285a.fnPunycodeDecodesBack
open Go.ChangeShapes Go.WideShapes Go.ChangeAt Go.RowKit
open Go.ChangeMaps (open_string shut_string)
set_option linter.unusedVariables false      -- a walk need not use every 'w<i>' (that an integer argument fits its kind)

theorem own : ownKnob Try.prog.godebug = none := by kernel_rfl

open Go.Shelf
open Puny (DSt decStep encAll run Valid Head Mid)

set_option maxHeartbeats 400000 in
theorem zzpunycode_calls (s : ByteArray) (hs : s.size ≤ 4096) (R : List Nat) (hR : Conv.runesFrom s s.size 0 #[] = (rcells R).toArray) (hRl : R.length ≤ s.size) (hRx : ∀ x ∈ R, x ≤ 1114111) (w : World) :
    Calls Try.prog 8 #[.string s] w fun e w' => ∃ D : List Nat, e = .returned (.string ⟨(pre R ++ encAll (st0 R) D).toArray⟩) ∧ Valid (st0 R) D ∧ (run (st0 R) D).out = R ∧ Below w.heap.size w w' := by
  go_enter Try.func8, Try.ntmps8
  go_wp2_with fail
  refine (punycode_calls s hs R hR hRl hRx _).mono ?_
  rintro e w1 ⟨D, rfl, h1, h2, h3⟩
  go_wp2
  go_ret
  exact ⟨D, rfl, h1, h2, h3⟩

theorem bytes6 (a : ByteArray) (ha : a.size ≤ 4096) (w : World) :
    Calls Try.prog 6 #[.string a] w fun e w' => e = .returned (.bool true) ∧ w = w' := by
  go_enter Try.func6, Try.ntmps6
  go_wp2
  go_ret
  exact ⟨rfl, rfl⟩

set_option maxHeartbeats 400000 in
theorem walk (a0 : ByteArray) (w0 : a0.size ≤ maxLen) (w : World) :
    Calls Try.prog 3 #[.string a0] w fun e w' => e = .returned (.bool true) ∧ Below w.heap.size w w' := by
  unfold maxLen at w0
  by_cases hbig : 4096 < a0.size
  · go_enter Try.func3, Try.ntmps3
    go_wp2
    all_goals (go_ret; exact ⟨rfl, Below.refl _ _⟩)
  · obtain ⟨R, hR, hRl, hRx⟩ := runes_list a0 a0.size 0 #[]
    rw [Array.empty_append] at hR
    have hcv := fun (w : World) => run_runes_of_string (P := Try.prog) w 9 23 21 a0 Try.underlying9 Try.underlying23 Try.underlying21 (by rw [hR]; simp [rcells]; omega)
    rw [hR] at hcv
    have hsz : (rcells R).toArray.size = R.length := by simp [rcells]
    rw [hsz] at hcv
    have HR : Hid (Conv.runesFrom a0 a0.size 0 #[] = (rcells R).toArray) := hR
    have HX : Hid (∀ x ∈ R, x ≤ 1114111) := hRx
    clear hR hRx hsz
    go_enter Try.func3, Try.ntmps3
    go_wp2_with (go_at_call 6; refine (bytes6 a0 (by omega) _).mono ?_; rintro e w' ⟨rfl, rfl⟩)
    have hC : Hid (∀ i, i < R.length → ((rcells R).toArray ++ Array.replicate (grownCap w R.length 0 21 - R.length) (Value.int .i32 0))[i]? = some (.int .i32 (rn R i : Nat))) := fun i hi => row_cells R _ i hi
    clear hcv
    generalize hCC : (rcells R).toArray ++ Array.replicate (grownCap w R.length 0 21 - R.length) (Value.int .i32 0) = C at *
    clear hCC
    generalize grownCap w R.length 0 21 = cap at *
    refine (zzpunycode_calls a0 (by omega) R HR.out hRl HX.out _).mono ?_
    rintro e w1 ⟨D, rfl, h1, h2, h3⟩
    have H1 : Hid (Valid (st0 R) D) := h1
    have H2 : Hid ((run (st0 R) D).out = R) := h2
    have hsz1 : w.heap.size + 1 ≤ w1.heap.size := by have := h3.size; simp at this; omega
    have HW : Hid (w1.heap[w.heap.size]? = some (.cells C 21 (0, 0))) := by
      have := h3.block w.heap.size (by simp)
      unfold Hid
      rw [this]
      exact (MapKept.heap_alloc w _).1
    have HB1 : Hid (Below w.heap.size w w1) := ((Below.refl _ _).alloc (Nat.le_refl _) _).drew.trans (h3.mono (by simp))
    clear h1 h2 h3
    go_wp2_with fail
    refine (decode_calls R D (by omega) H1.out H2.out _).mono ?_
    rintro e w2 ⟨g, cap2, rfl, hOR, hb2⟩
    have HW2 : Hid (w2.heap[w.heap.size]? = some (.cells C 21 (0, 0))) := (hb2.block _ (by omega)).trans HW.out
    have HB2 : Hid (Below w.heap.size w w2) := HB1.out.trans (hb2.mono (by omega))
    have HOR : Hid (OR w1.heap.size g cap2 (rcells R) w2) := hOR
    clear hOR hb2 HW HB1
    go_wp2_with fail
    go_loopg [6] R.length (fun gh x wx => ∃ k n : Nat, k ≤ R.length ∧ gh = R.length - k ∧ x = .int .i64 k ∧ wx = w2.drewN n)
    case atStart => exact ⟨0, 0, by omega, rfl, rfl, rfl⟩
    case round =>
      obtain ⟨k, n, hk, hg, rfl, rfl⟩ := hrel
      have HG : Hid (gk = R.length - k) := hg
      clear hg
      by_cases hlt : k < R.length
      · have c1 := cell_row HW2.out hC.out k hlt
        have c2 : w2.cell? ⟨g, k, none⟩ = some (.int .i32 (rn R k : Nat)) := HOR.out.cells k _ (by unfold rcells rn; rw [List.getElem?_map, List.getElem?_eq_getElem hlt, List.getD_eq_getElem?_getD, List.getElem?_eq_getElem hlt]; rfl)
        have hki : (k : Int) < (R.length : Int) := by omega
        go_wp2_with fail
        go_quiet (fail)
        go_wp2_with fail
        go_roundg (R.length - (k + 1))
        case measure => rw [HG.out]; omega
        case rel => exact ⟨k + 1, _, by omega, rfl, by go_num, rfl⟩
      · go_wp2_with fail
        go_ret
        exact ⟨rfl, below_drewN HB2.out _⟩

set_option maxRecDepth 100000 in
theorem lifted (os : Os) (started : os.Started) (H : Type) (enc : TypeId × Value → H) :
    ReturnsInHanded {} Try.checked os 3 .any (Rows.fnPunycodeDecodesBackSpec.pre6 enc Try.prog Try.f3 Rows.fnPunycodeDecodesBackRow.domain false) (Rows.fnPunycodeDecodesBackSpec.post enc Try.prog Try.f3 false true false false) := by
  refine returnsInHanded_of_change (C := Try.checked) own started (by kernel_rfl) Try.func3
    (ChangeSpec.witness6 (enc := enc) (C := Try.checked) false ⟨#[], #[.string ByteArray.empty], []⟩ 8 (by kernel_rfl) (by kernel_rfl) (by kernel_rfl) (by kernel_rfl)) ?_
  intro W base args ds gs before hval0 hW hcnd _
  have hval : ∀ (j : Nat) t v, Try.f3.params[j]? = some t → args[j]? = some v → Value.okWide Try.prog W .any base t v := hval0
  have hW' := hW
  obtain ⟨p, q, hA0, hV, rfl, hfz, hnd⟩ := hW
  have hA : DataW.TrodAll enc Try.prog W 0 (fun _ => true) true Try.f3.params.toList args.toList ds p := hA0
  rw [Try.params3] at hA hval
  obtain ⟨v0, vs0, d0, ds0, p0, q0, hargs, rfl, rfl, h0, r0⟩ := trodAll_cons hA
  obtain ⟨rfl, rfl, rfl⟩ := trodAll_nil r0
  obtain rfl : args = #[v0] := by cases args; simp_all
  obtain ⟨rfl, rfl⟩ := trodVars_none hV
  obtain ⟨a0, rfl, rfl, rfl, w0⟩ := open_string Try.underlying9 (hval 0 9 v0 rfl rfl) h0
  clear hA0 hval0
  simp only [List.append_nil] at hW'
  refine (walk a0 w0 W).mono fun e W' ⟨he, bel⟩ => ?_
  subst he
  exact ⟨_, rfl, _, _, _, [], _, [], hW', trodAll_mk1 (shut_bool Try.underlying4 _), (trodAll_cons_mk (shut_string Try.underlying9 w0) trodAll_mk0), rfl, bel.frame _, fun h => by cases h⟩

theorem over : Rows.fnPunycodeDecodesBackRow.holds Try.pinned (OpenSpec.ofChange Rows.fnPunycodeDecodesBackSpec) :=
  OpenClaim.holds_of_wide 3 Try.f3 rfl rfl rfl rfl rfl rfl rfl ⟨rfl, rfl, rfl, rfl, rfl⟩ rfl rfl rfl rfl rfl (by kernel_rfl) Try.func3 (by kernel_rfl)
    (of_decide_eq_true (by kernel_rfl)) (by unfold Func.isWrapper; first | (rw [if_pos (by decide +kernel)]; kernel_rfl) | (rw [if_neg (by decide +kernel)]; exact ⟨rfl, rfl⟩))
    (fun os started H enc _ => lifted os started H enc)

theorem proved : Rows.FnPunycodeDecodesBackSaid :=
  over
#print axioms proved
end Go.Proofs.Qxb6605285a.fnPunycodeDecodesBack
