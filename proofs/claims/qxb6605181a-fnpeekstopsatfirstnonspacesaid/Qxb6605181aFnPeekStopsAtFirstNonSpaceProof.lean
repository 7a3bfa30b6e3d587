import Derived.Test.Qxb6605181aRows
import Derived.WalkKit
import Derived.ProofKit
import Derived.OpenShut
import Derived.ShutString
import Derived.ChangeOld
import Derived.Below
import Derived.Test.Qxb6605181aPeek
namespace Go.Proofs.Qxb6605181a.fnPeekStopsAtFirstNonSpace
open Go.ChangeShapes Go.WideShapes Go.ChangeAt Go.RowKit
open Go.ChangeMaps (open_string shut_string)
set_option linter.unusedVariables false      -- a walk need not use every 'w<i>' (that an integer argument fits its kind)

theorem own : ownKnob Try.prog.godebug = none := by kernel_rfl

set_option maxHeartbeats 400000 in
theorem walk (a0 : ByteArray) (a1 : Int) (a2 : Int) (w0 : a0.size ≤ maxLen) (w1 : (Lit.int .i64 a1).wf = true) (w2 : (Lit.int .i64 a2).wf = true) (w : World) :
    Calls Try.prog 5 #[.string a0, .int .i64 a1, .int .i64 a2] w fun e w' => e = .returned (.bool true) ∧ Below w.heap.size w w' := by
  have W0 : Hid (a0.size ≤ maxLen) := w0
  unfold maxLen at w0
  by_cases hbig : 1048576 < a0.size
  · go_enter Try.func5, Try.ntmps5
    go_wp2
    go_ret
    exact ⟨rfl, Below.refl _ _⟩
  · by_cases hneg : a1 < 0
    · go_enter Try.func5, Try.ntmps5
      go_wp2
      go_ret
      exact ⟨rfl, Below.refl _ _⟩
    · obtain ⟨i, rfl⟩ := Int.eq_ofNat_of_zero_le (show 0 ≤ a1 by omega)
      by_cases hi : i < a0.size
      · have hj := pkEnd_le a0 i hi
        have M : Hid (∀ k, i ≤ k → k < pkEnd a0 i → byteAt a0 k = 32 ∨ byteAt a0 k = 9 ∨ byteAt a0 k = 10 ∨ byteAt a0 k = 13) := fun k h1 h2 => pkEnd_mid a0 k (k - i) i (by omega) h2
        by_cases hend : pkEnd a0 i < a0.size
        · have hst := pkEnd_stop a0 i hend
          have hix := idx a0
          go_enter Try.func5, Try.ntmps5
          go_wp2_with (go_at_call 12; go_in)
          refine (zzpeek_calls a0 W0.out i a2 _).mono ?_
          rintro e w1 ⟨rfl, hb⟩
          generalize pkEnd a0 i = j at *
          have hj3 : decide (a0.size ≤ i) = false := by simp; omega
          have hj1 : decide (j < i) = false := by simp; omega
          have hj2 : decide (a0.size < j) = false := by simp; omega
          go_wp2_with fail
          go_loop [11] (fun x => ∃ k : Nat, i ≤ k ∧ k ≤ j ∧ x = .int .i64 k) (fun x => j - (intOf x).toNat)
          case atStart => exact ⟨i, by omega, by omega, rfl⟩
          case round =>
            obtain ⟨k, hk1, hk2, rfl⟩ := hrel
            have hixj := hix j (by omega)
            by_cases hlt : k < j
            · have hixk := hix k (by omega)
              have hs := M.out k hk1 hlt
              clear hix hst
              go_wp2_with fail
              refine (isspace_yes _ hs _).mono ?_
              rintro e w2 ⟨rfl, rfl⟩
              go_wp2
              go_round
              case rel => exact ⟨k + 1, by omega, by omega, by go_num⟩
              case measure => simp [intOf]; omega
            · clear hix
              have hne : ((j : Int) == (a0.size : Int)) = false := beq_eq_false_iff_ne.2 (by omega)
              go_wp2_with fail
              refine (isspace_no _ hst _).mono ?_
              rintro e w2 ⟨rfl, rfl⟩
              go_wp2
              go_ret
              exact ⟨rfl, hb⟩
        · have hz : byteAt a0 (pkEnd a0 i) = 0 := (pkEnd_out a0 (pkEnd a0 i) hend).2
          have hix := idx a0
          go_enter Try.func5, Try.ntmps5
          go_wp2_with (go_at_call 12; go_in)
          refine (zzpeek_calls a0 W0.out i a2 _).mono ?_
          rintro e w1 ⟨rfl, hb⟩
          rw [hz]
          clear hz
          generalize pkEnd a0 i = j at *
          have hj3 : decide (a0.size ≤ i) = false := by simp; omega
          have hj1 : decide (j < i) = false := by simp; omega
          have hj2 : decide (a0.size < j) = false := by simp; omega
          have hje : ((j : Int) == (a0.size : Int)) = true := beq_iff_eq.2 (by omega)
          go_wp2_with fail
          go_loop [11] (fun x => ∃ k : Nat, i ≤ k ∧ k ≤ j ∧ x = .int .i64 k) (fun x => j - (intOf x).toNat)
          case atStart => exact ⟨i, by omega, by omega, rfl⟩
          case round =>
            obtain ⟨k, hk1, hk2, rfl⟩ := hrel
            by_cases hlt : k < j
            · have hixk := hix k (by omega)
              have hs := M.out k hk1 hlt
              clear hix
              go_wp2_with fail
              refine (isspace_yes _ hs _).mono ?_
              rintro e w2 ⟨rfl, rfl⟩
              go_wp2
              go_round
              case rel => exact ⟨k + 1, by omega, by omega, by go_num⟩
              case measure => simp [intOf]; omega
            · clear hix
              go_wp2
              go_ret
              exact ⟨rfl, hb⟩
      · obtain ⟨hz1, hz2⟩ := pkEnd_out a0 i hi
        go_enter Try.func5, Try.ntmps5
        go_wp2_with (go_at_call 12; go_in)
        refine (zzpeek_calls a0 W0.out i a2 _).mono ?_
        rintro e w1 ⟨rfl, hb⟩
        rw [hz1, hz2]
        clear hz1 hz2
        go_wp2
        go_ret
        exact ⟨rfl, hb⟩

set_option maxRecDepth 100000 in
theorem lifted (os : Os) (started : os.Started) (H : Type) (enc : TypeId × Value → H) :
    ReturnsInHanded {} Try.checked os 5 .any (Rows.fnPeekStopsAtFirstNonSpaceSpec.pre6 enc Try.prog Try.f5 Rows.fnPeekStopsAtFirstNonSpaceRow.domain false) (Rows.fnPeekStopsAtFirstNonSpaceSpec.post enc Try.prog Try.f5 false true false false) := by
  refine returnsInHanded_of_change (C := Try.checked) own started (by kernel_rfl) Try.func5
    (ChangeSpec.witness6 (enc := enc) (C := Try.checked) false ⟨#[], #[.string ByteArray.empty, .int .i64 0, .int .i64 0], []⟩ 8 (by kernel_rfl) (by kernel_rfl) (by kernel_rfl) (by kernel_rfl)) ?_
  intro W base args ds gs before hval0 hW hcnd _
  have hval : ∀ (j : Nat) t v, Try.f5.params[j]? = some t → args[j]? = some v → Value.okWide Try.prog W .any base t v := hval0
  have hW' := hW
  obtain ⟨p, q, hA0, hV, rfl, hfz, hnd⟩ := hW
  have hA : DataW.TrodAll enc Try.prog W 0 (fun _ => true) true Try.f5.params.toList args.toList ds p := hA0
  rw [Try.params5] at hA hval
  obtain ⟨v0, vs0, d0, ds0, p0, q0, hargs, rfl, rfl, h0, r0⟩ := trodAll_cons hA
  obtain ⟨v1, vs1, d1, ds1, p1, q1, rfl, rfl, rfl, h1, r1⟩ := trodAll_cons r0
  obtain ⟨v2, vs2, d2, ds2, p2, q2, rfl, rfl, rfl, h2, r2⟩ := trodAll_cons r1
  obtain ⟨rfl, rfl, rfl⟩ := trodAll_nil r2
  obtain rfl : args = #[v0, v1, v2] := by cases args; simp_all
  obtain ⟨rfl, rfl⟩ := trodVars_none hV
  obtain ⟨a0, rfl, rfl, rfl, w0⟩ := open_string Try.underlying9 (hval 0 9 v0 rfl rfl) h0
  obtain ⟨a1, rfl, rfl, rfl, w1⟩ := open_int Try.underlying3 (hval 1 3 v1 rfl rfl) h1
  obtain ⟨a2, rfl, rfl, rfl, w2⟩ := open_int Try.underlying3 (hval 2 3 v2 rfl rfl) h2
  clear hA0 hval0
  simp only [List.append_nil] at hW'
  refine (walk a0 a1 a2 w0 w1 w2 W).mono fun e W' ⟨he, bel⟩ => ?_
  subst he
  exact ⟨_, rfl, _, _, _, [], _, [], hW', trodAll_mk1 (shut_bool Try.underlying4 _), (trodAll_cons_mk (shut_string Try.underlying9 w0) (trodAll_cons_mk (shut_int Try.underlying3 w1) (trodAll_cons_mk (shut_int Try.underlying3 w2) trodAll_mk0))), rfl, bel.frame _, fun h => by cases h⟩

theorem over : Rows.fnPeekStopsAtFirstNonSpaceRow.holds Try.pinned (OpenSpec.ofChange Rows.fnPeekStopsAtFirstNonSpaceSpec) :=
  OpenClaim.holds_of_wide 5 Try.f5 rfl rfl rfl rfl rfl rfl rfl ⟨rfl, rfl, rfl, rfl, rfl⟩ rfl rfl rfl rfl rfl (by kernel_rfl) Try.func5 (by kernel_rfl)
    (of_decide_eq_true (by kernel_rfl)) (by unfold Func.isWrapper; first | (rw [if_pos (by decide +kernel)]; kernel_rfl) | (rw [if_neg (by decide +kernel)]; exact ⟨rfl, rfl⟩))
    (fun os started H enc _ => lifted os started H enc)

theorem proved : Rows.FnPeekStopsAtFirstNonSpaceSaid :=
  over
#print axioms proved
end Go.Proofs.Qxb6605181a.fnPeekStopsAtFirstNonSpace
