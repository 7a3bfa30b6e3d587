import Derived.Test.Qxb6605181aRows
import Derived.WalkKit
import Derived.ProofKit
import Derived.OpenShut
import Derived.ShutString
import Derived.ChangeOld
import Derived.Below
import Derived.Test.Qxb6605181aNumWalk
namespace Go.Proofs.Qxb6605181a.fnNumberMatchesGrammarAutomaton
open Go.ChangeShapes Go.WideShapes Go.ChangeAt Go.RowKit
open Go.ChangeMaps (open_string shut_string)
set_option linter.unusedVariables false      -- a walk need not use every 'w<i>' (that an integer argument fits its kind)

theorem own : ownKnob Try.prog.godebug = none := by kernel_rfl

set_option maxHeartbeats 400000 in
theorem zznumber_calls (s : ByteArray) (hm : s.size ≤ 1048576) (i : Nat) (d : Int) (w : World) :
    Calls Try.prog 8 #[.string s, .int .i64 i, .int .i64 d] w fun e w' => e = .returned (.tuple #[.string (numStr s i), .bool (nEnd s i).isSome, .string s, .int .i64 ((nEnd s i).getD i : Nat), .int .i64 d]) ∧ Below w.heap.size w w' := by
  go_enter Try.func8, Try.ntmps8
  go_wp2_with fail
  refine (number_calls s hm w.heap.size i d _ (sc_new s i d w)).mono ?_
  rintro e w1 ⟨rfl, ⟨c0, c1, c2, f1⟩, hb⟩
  clear f1
  go_wp2
  go_quiet (fail)
  go_wp2
  refine bodyPost_ret (v := .tuple #[.string (numStr s i), .bool (nEnd s i).isSome, .string s, .int .i64 ((nEnd s i).getD i : Nat), .int .i64 d]) (by simp [results, Try.results8, go_sem]) rfl ⟨rfl, ?_⟩
  exact below_drewN (((Below.refl _ _).alloc (Nat.le_refl _) _).trans hb) _

theorem run_le : ∀ (l : List UInt8) (st : Nat), (NumLaw.run st l).1 ≤ l.length
  | [], st => by simp [NumLaw.run]
  | c :: t, st => by
    rw [NumLaw.run]
    split
    · simp
    · rename_i st' _
      have := run_le t st'
      simp; omega

theorem law_none (s : ByteArray) (i : Nat) (h : NumLaw.acc (NumLaw.run 0 (rest s i)).2 = false) : nEnd s i = none := by
  unfold nEnd
  rw [← NumLaw.num_run]
  unfold NumLaw.ans
  rw [if_neg (by rw [h]; simp)]; rfl

theorem law_some (s : ByteArray) (i : Nat) (h : NumLaw.acc (NumLaw.run 0 (rest s i)).2 = true) : nEnd s i = some (i + (NumLaw.run 0 (rest s i)).1) ∧ i + (NumLaw.run 0 (rest s i)).1 ≤ s.size := by
  constructor
  · unfold nEnd
    rw [← NumLaw.num_run]
    unfold NumLaw.ans
    rw [if_pos h]; rfl
  · have hle := run_le (rest s i) 0
    have e : (rest s i).length = s.size - i := by simp [rest]
    by_cases hi : i ≤ s.size
    · omega
    · rw [rest_end s i (by omega)] at h
      simp [NumLaw.run, NumLaw.acc] at h

theorem bytes7 (a : ByteArray) (i d : Int) (w : World) (ha : a.size ≤ 1048576) :
    Calls Try.prog 7 #[.string a, .int .i64 i, .int .i64 d] w fun e w' => e = .returned (.bool true) ∧ w' = w := by
  go_enter Try.func7, Try.ntmps7
  go_wp2
  go_ret
  exact ⟨rfl, rfl⟩

set_option maxHeartbeats 400000 in
theorem walk (a0 : ByteArray) (a1 : Int) (a2 : Int) (w0 : a0.size ≤ maxLen) (w1 : (Lit.int .i64 a1).wf = true) (w2 : (Lit.int .i64 a2).wf = true) (w : World) :
    Calls Try.prog 3 #[.string a0, .int .i64 a1, .int .i64 a2] w fun e w' => e = .returned (.bool true) ∧ Below w.heap.size w w' := by
  unfold maxLen at w0
  by_cases hbig : 1048576 < a0.size
  · go_enter Try.func3, Try.ntmps3
    go_wp2
    go_ret
    exact ⟨rfl, Below.refl _ _⟩
  · have hsm : a0.size ≤ 1048576 := by omega
    by_cases hneg : a1 < 0
    · go_enter Try.func3, Try.ntmps3
      go_wp2
      go_ret
      exact ⟨rfl, Below.refl _ _⟩
    · obtain ⟨i, rfl⟩ := Int.eq_ofNat_of_zero_le (show 0 ≤ a1 by omega)
      clear w1
      by_cases hacc : NumLaw.acc (NumLaw.run 0 (rest a0 i)).2 = true
      · obtain ⟨he, hle⟩ := law_some a0 i hacc
        have hie : i ≤ i + (NumLaw.run 0 (rest a0 i)).1 := by omega
        have hau := fun w => auto_calls a0 hsm i w
        rw [hacc] at hau
        generalize i + (NumLaw.run 0 (rest a0 i)).1 = n at *
        have hs := numStr_some a0 i _ he
        have HA : Hid (∀ w, Calls Try.prog 9 #[.string a0, .int .i64 i] w fun e w' => e = .returned (.tuple #[.int .i64 (n : Int), .bool true]) ∧ w' = w) := hau
        clear hacc hau
        go_enter Try.func3, Try.ntmps3
        go_wp2_with (go_at_call 7; refine (bytes7 a0 _ a2 _ hsm).mono ?_; rintro e w' ⟨rfl, rfl⟩)
        refine (zznumber_calls a0 hsm i a2 _).mono ?_
        rintro e w1 ⟨rfl, hb⟩
        rw [hs, he]
        clear hs he
        go_wp2_with fail
        refine (HA.out _).mono ?_
        rintro e w2 ⟨rfl, rfl⟩
        go_wp2
        go_ret
        exact ⟨rfl, hb⟩
      · have hacc' : NumLaw.acc (NumLaw.run 0 (rest a0 i)).2 = false := by simpa using hacc
        clear hacc
        have he := law_none a0 i hacc'
        have hs := numStr_none a0 i he
        go_enter Try.func3, Try.ntmps3
        go_wp2_with (go_at_call 7; refine (bytes7 a0 _ a2 _ hsm).mono ?_; rintro e w' ⟨rfl, rfl⟩)
        refine (zznumber_calls a0 hsm i a2 _).mono ?_
        rintro e w1 ⟨rfl, hb⟩
        rw [hs, he]
        clear hs he
        go_wp2_with fail
        refine (auto_calls a0 hsm i _).mono ?_
        rintro e w2 ⟨rfl, rfl⟩
        rw [hacc']
        clear hacc'
        generalize (NumLaw.run 0 (rest a0 i)).1 = n at *
        go_wp2
        go_ret
        exact ⟨rfl, hb⟩

set_option maxRecDepth 100000 in
theorem lifted (os : Os) (started : os.Started) (H : Type) (enc : TypeId × Value → H) :
    ReturnsInHanded {} Try.checked os 3 .any (Rows.fnNumberMatchesGrammarAutomatonSpec.pre6 enc Try.prog Try.f3 Rows.fnNumberMatchesGrammarAutomatonRow.domain false) (Rows.fnNumberMatchesGrammarAutomatonSpec.post enc Try.prog Try.f3 false true false false) := by
  refine returnsInHanded_of_change (C := Try.checked) own started (by kernel_rfl) Try.func3
    (ChangeSpec.witness6 (enc := enc) (C := Try.checked) false ⟨#[], #[.string ByteArray.empty, .int .i64 0, .int .i64 0], []⟩ 8 (by kernel_rfl) (by kernel_rfl) (by kernel_rfl) (by kernel_rfl)) ?_
  intro W base args ds gs before hval0 hW hcnd _
  have hval : ∀ (j : Nat) t v, Try.f3.params[j]? = some t → args[j]? = some v → Value.okWide Try.prog W .any base t v := hval0
  have hW' := hW
  obtain ⟨p, q, hA0, hV, rfl, hfz, hnd⟩ := hW
  have hA : DataW.TrodAll enc Try.prog W 0 (fun _ => true) true Try.f3.params.toList args.toList ds p := hA0
  rw [Try.params3] at hA hval
  obtain ⟨v0, vs0, d0, ds0, p0, q0, hargs, rfl, rfl, h0, r0⟩ := trodAll_cons hA
  obtain ⟨v1, vs1, d1, ds1, p1, q1, rfl, rfl, rfl, h1, r1⟩ := trodAll_cons r0
  obtain ⟨v2, vs2, d2, ds2, p2, q2, rfl, rfl, rfl, h2, r2⟩ := trodAll_cons r1
  obtain ⟨rfl, rfl, rfl⟩ := trodAll_nil r2
  obtain rfl : args = #[v0, v1, v2] := by cases args; simp_all
  obtain ⟨rfl, rfl⟩ := trodVars_none hV
  obtain ⟨a0, rfl, rfl, rfl, w0⟩ := open_string Try.underlying9 (hval 0 9 v0 rfl rfl) h0
  obtain ⟨a1, rfl, rfl, rfl, w1⟩ := open_int Try.underlying3 (hval 1 3 v1 rfl rfl) h1
  obtain ⟨a2, rfl, rfl, rfl, w2⟩ := open_int Try.underlying3 (hval 2 3 v2 rfl rfl) h2
  clear hA0 hval0
  simp only [List.append_nil] at hW'
  refine (walk a0 a1 a2 w0 w1 w2 W).mono fun e W' ⟨he, bel⟩ => ?_
  subst he
  exact ⟨_, rfl, _, _, _, [], _, [], hW', trodAll_mk1 (shut_bool Try.underlying4 _), (trodAll_cons_mk (shut_string Try.underlying9 w0) (trodAll_cons_mk (shut_int Try.underlying3 w1) (trodAll_cons_mk (shut_int Try.underlying3 w2) trodAll_mk0))), rfl, bel.frame _, fun h => by cases h⟩

theorem over : Rows.fnNumberMatchesGrammarAutomatonRow.holds Try.pinned (OpenSpec.ofChange Rows.fnNumberMatchesGrammarAutomatonSpec) :=
  OpenClaim.holds_of_wide 3 Try.f3 rfl rfl rfl rfl rfl rfl rfl ⟨rfl, rfl, rfl, rfl, rfl⟩ rfl rfl rfl rfl rfl (by kernel_rfl) Try.func3 (by kernel_rfl)
    (of_decide_eq_true (by kernel_rfl)) (by unfold Func.isWrapper; first | (rw [if_pos (by decide +kernel)]; kernel_rfl) | (rw [if_neg (by decide +kernel)]; exact ⟨rfl, rfl⟩))
    (fun os started H enc _ => lifted os started H enc)

theorem proved : Rows.FnNumberMatchesGrammarAutomatonSaid :=
  over
#print axioms proved
end Go.Proofs.Qxb6605181a.fnNumberMatchesGrammarAutomaton
