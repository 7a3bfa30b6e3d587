import Derived.Test.Qxb6605285aRows
import Derived.WalkKit
import Derived.ProofKit
import Derived.OpenShut
import Derived.ShutString
import Derived.Test.Qxb6605285aAdapt
namespace Go.Proofs.Qxb6605285a.fnAdaptBiasClosedForm
open Go.ChangeShapes Go.WideShapes Go.ChangeAt Go.RowKit
open Go.ChangeMaps (open_string shut_string)
set_option linter.unusedVariables false      -- a walk need not use every 'w<i>' (that an integer argument fits its kind)

theorem own : ownKnob Try.prog.godebug = none := by kernel_rfl

set_option maxHeartbeats 400000 in
theorem walk (a0 : Int) (a1 : Int) (a2 : Bool) (w0 : (Lit.int .i64 a0).wf = true) (w1 : (Lit.int .i64 a1).wf = true) (w : World) :
    Calls Try.prog 5 #[.int .i64 a0, .int .i64 a1, .bool a2] w fun e w' => e = .returned (.bool true) ∧ Grown w w' := by
  have hb0 := bounds_i64 w0
  have hb1 := bounds_i64 w1
  clear w0 w1
  by_cases h0 : a0 < 0
  · go_enter Try.func5, Try.ntmps5
    go_wp2
    go_ret
    exact ⟨rfl, Grown.refl _⟩
  · by_cases h1 : a1 < 1
    · go_enter Try.func5, Try.ntmps5
      go_wp2
      go_ret
      exact ⟨rfl, Grown.refl _⟩
    · obtain ⟨d, rfl⟩ := Int.eq_ofNat_of_zero_le (show 0 ≤ a0 by omega)
      obtain ⟨p, rfl⟩ := Int.eq_ofNat_of_zero_le (show 0 ≤ a1 by omega)
      have HD : Hid (d ≤ 9223372036854775807) := by unfold Hid; omega
      have hp1 : 1 ≤ p := by omega
      have HP : Hid (p ≤ 9223372036854775807) := by unfold Hid; omega
      have M1 : Hid (Puny.adapt d p a2 ≤ Puny.adapt (d + 1) p a2) := Puny.adapt_mono d (d + 1) p a2 (by omega)
      have M2 : Hid (Puny.adapt d p true ≤ Puny.adapt d p false) := Puny.adapt_first d p
      clear hb0 hb1
      by_cases hm : d < 9223372036854775807
      · have HM : Hid (d < 9223372036854775807) := hm
        have hmi : decide ((d : Int) < 9223372036854775807) = true := decide_eq_true (by omega)
        have hmj : (d : Int) < 9223372036854775807 := by omega
        clear hm
        cases a2
        · go_enter Try.func5, Try.ntmps5
          go_wp2_with fail
          refine (zzadaptBias_calls d p _ _ HD.out hp1 HP.out).mono ?_
          rintro e w' ⟨rfl, rfl⟩
          go_wp2_with fail
          refine (zzadapt_calls d p _ _ HD.out hp1 HP.out).mono ?_
          rintro e w' ⟨rfl, rfl⟩
          go_wp2_with fail
          refine (zzadaptBias_at (d + 1) p _ _ _ (by omega) (by have := HM.out; omega) hp1 HP.out).mono ?_
          rintro e w' ⟨rfl, rfl⟩
          have m1 := M1.out
          clear HD HP HM hmi hmj
          generalize Puny.adapt d p false = x at *
          generalize Puny.adapt (d + 1) p false = y at *
          go_wp2
          go_ret
          exact ⟨rfl, Grown.refl _⟩
        · go_enter Try.func5, Try.ntmps5
          go_wp2_with fail
          refine (zzadaptBias_calls d p _ _ HD.out hp1 HP.out).mono ?_
          rintro e w' ⟨rfl, rfl⟩
          go_wp2_with fail
          refine (zzadapt_calls d p _ _ HD.out hp1 HP.out).mono ?_
          rintro e w' ⟨rfl, rfl⟩
          go_wp2_with fail
          refine (zzadaptBias_at (d + 1) p _ _ _ (by omega) (by have := HM.out; omega) hp1 HP.out).mono ?_
          rintro e w' ⟨rfl, rfl⟩
          have m1 := M1.out
          have m2 := M2.out
          clear HM hmi hmj
          have B1 : decide (Puny.adapt (d + 1) p true < Puny.adapt d p true) = false := decide_eq_false (by omega)
          clear m1
          go_wp2_with fail
          refine (zzadaptBias_calls d p _ _ HD.out hp1 HP.out).mono ?_
          rintro e w' ⟨rfl, rfl⟩
          go_wp2
          go_ret
          exact ⟨rfl, Grown.refl _⟩
      · have hmi : decide ((d : Int) < 9223372036854775807) = false := decide_eq_false (by omega)
        clear hm
        cases a2
        · go_enter Try.func5, Try.ntmps5
          go_wp2_with fail
          refine (zzadaptBias_calls d p _ _ HD.out hp1 HP.out).mono ?_
          rintro e w' ⟨rfl, rfl⟩
          go_wp2_with fail
          refine (zzadapt_calls d p _ _ HD.out hp1 HP.out).mono ?_
          rintro e w' ⟨rfl, rfl⟩
          go_wp2
          go_ret
          exact ⟨rfl, Grown.refl _⟩
        · go_enter Try.func5, Try.ntmps5
          go_wp2_with fail
          refine (zzadaptBias_calls d p _ _ HD.out hp1 HP.out).mono ?_
          rintro e w' ⟨rfl, rfl⟩
          go_wp2_with fail
          refine (zzadapt_calls d p _ _ HD.out hp1 HP.out).mono ?_
          rintro e w' ⟨rfl, rfl⟩
          have m2 := M2.out
          go_wp2_with fail
          refine (zzadaptBias_calls d p _ _ HD.out hp1 HP.out).mono ?_
          rintro e w' ⟨rfl, rfl⟩
          clear HD HP hmi
          go_wp2
          go_ret
          exact ⟨rfl, Grown.refl _⟩

set_option maxRecDepth 100000 in
theorem lifted (os : Os) (started : os.Started) (H : Type) (enc : TypeId × Value → H) :
    ReturnsInHanded {} Try.checked os 5 .any (Rows.fnAdaptBiasClosedFormSpec.pre6 enc Try.prog Try.f5 Rows.fnAdaptBiasClosedFormRow.domain false) (Rows.fnAdaptBiasClosedFormSpec.post enc Try.prog Try.f5 false true false false) := by
  refine returnsInHanded_of_change (C := Try.checked) own started (by kernel_rfl) Try.func5
    (ChangeSpec.witness6 (enc := enc) (C := Try.checked) false ⟨#[], #[.int .i64 0, .int .i64 0, .bool false], []⟩ 8 (by kernel_rfl) (by kernel_rfl) (by kernel_rfl) (by kernel_rfl)) ?_
  intro W base args ds gs before hval0 hW hcnd _
  have hval : ∀ (j : Nat) t v, Try.f5.params[j]? = some t → args[j]? = some v → Value.okWide Try.prog W .any base t v := hval0
  have hW' := hW
  obtain ⟨p, q, hA0, hV, rfl, hfz, hnd⟩ := hW
  have hA : DataW.TrodAll enc Try.prog W 0 (fun _ => true) true Try.f5.params.toList args.toList ds p := hA0
  rw [Try.params5] at hA hval
  obtain ⟨v0, vs0, d0, ds0, p0, q0, hargs, rfl, rfl, h0, r0⟩ := trodAll_cons hA
  obtain ⟨v1, vs1, d1, ds1, p1, q1, rfl, rfl, rfl, h1, r1⟩ := trodAll_cons r0
  obtain ⟨v2, vs2, d2, ds2, p2, q2, rfl, rfl, rfl, h2, r2⟩ := trodAll_cons r1
  obtain ⟨rfl, rfl, rfl⟩ := trodAll_nil r2
  obtain rfl : args = #[v0, v1, v2] := by cases args; simp_all
  obtain ⟨rfl, rfl⟩ := trodVars_none hV
  obtain ⟨a0, rfl, rfl, rfl, w0⟩ := open_int Try.underlying3 (hval 0 3 v0 rfl rfl) h0
  obtain ⟨a1, rfl, rfl, rfl, w1⟩ := open_int Try.underlying3 (hval 1 3 v1 rfl rfl) h1
  obtain ⟨a2, rfl, rfl, rfl⟩ := open_bool Try.underlying4 (hval 2 4 v2 rfl rfl) h2
  clear hA0 hval0
  simp only [List.append_nil] at hW'
  refine (walk a0 a1 a2 w0 w1 W).mono fun e W' ⟨he, hg⟩ => ?_
  subst he
  exact ⟨_, rfl, post_of_same (pa := []) (pv := []) hW' (fun _ _ _ => (trodAll_cons_mk (shut_bool Try.underlying4 _) trodAll_mk0)) (fun sp _ => (trodAll_cons_mk (shut_int Try.underlying3 w0) (trodAll_cons_mk (shut_int Try.underlying3 w1) (trodAll_cons_mk (shut_bool Try.underlying4 _) trodAll_mk0)))) (fun _ _ => rfl) rfl
    (hg.frame _) hg.2.1 (ok_one (by kernel_rfl) rfl (okWide_bool_mk Try.underlying4 _))⟩

theorem over : Rows.fnAdaptBiasClosedFormRow.holds Try.pinned (OpenSpec.ofChange Rows.fnAdaptBiasClosedFormSpec) :=
  OpenClaim.holds_of_wide 5 Try.f5 rfl rfl rfl rfl rfl rfl rfl ⟨rfl, rfl, rfl, rfl, rfl⟩ rfl rfl rfl rfl rfl (by kernel_rfl) Try.func5 (by kernel_rfl)
    (of_decide_eq_true (by kernel_rfl)) (by unfold Func.isWrapper; first | (rw [if_pos (by decide +kernel)]; kernel_rfl) | (rw [if_neg (by decide +kernel)]; exact ⟨rfl, rfl⟩))
    (fun os started H enc _ => lifted os started H enc)

theorem proved : Rows.FnAdaptBiasClosedFormSaid :=
  over
#print axioms proved
end Go.Proofs.Qxb6605285a.fnAdaptBiasClosedForm
