import Derived.Test.Qxb6605181aRows
import Derived.WalkKit
import Derived.ProofKit
import Derived.OpenShut
import Derived.ShutString
import Derived.ChangeOld
import Derived.Below
import Derived.Test.Qxb6605181aPeek
namespace Go.Proofs.Qxb6605181a.fnPeekIgnoresLeadingWhiteSpace
open Go.ChangeShapes Go.WideShapes Go.ChangeAt Go.RowKit
open Go.ChangeMaps (open_string shut_string)
set_option linter.unusedVariables false      -- a walk need not use every 'w<i>' (that an integer argument fits its kind)

theorem own : ownKnob Try.prog.godebug = none := by kernel_rfl

theorem zzpeek0 (s : ByteArray) (hm : s.size ≤ maxLen) (d : Int) (w : World) :
    Calls Try.prog 13 #[.string s, .int .i64 0, .int .i64 d] w fun e w' => e = .returned (.tuple #[.int .u8 (byteAt s (pkEnd s 0) : Nat), .string s, .int .i64 (pkEnd s 0 : Nat), .int .i64 d]) ∧ Below w.heap.size w w' :=
  zzpeek_calls s hm 0 d w

theorem join_list (a b : ByteArray) : (a ++ b).data.toList = a.data.toList ++ b.data.toList := by
  simp [ByteArray.data_append]

theorem byteAt_join (a b : ByteArray) (k : Nat) : byteAt (a ++ b) (a.size + k) = byteAt b k := by
  unfold byteAt
  rw [join_list]
  have : a.data.toList.length = a.size := by simp
  rw [List.getD_eq_getElem?_getD, List.getD_eq_getElem?_getD, List.getElem?_append_right (by omega)]
  simp [this]

theorem byteAt_join_left (a b : ByteArray) (k : Nat) (h : k < a.size) : byteAt (a ++ b) k = byteAt a k := by
  unfold byteAt
  rw [join_list]
  have : a.data.toList.length = a.size := by simp
  rw [List.getD_eq_getElem?_getD, List.getD_eq_getElem?_getD, List.getElem?_append_left (by omega)]

theorem pkEnd_join (a b : ByteArray) (h : ∀ k, k < a.size → byteAt a k = 32 ∨ byteAt a k = 9 ∨ byteAt a k = 10 ∨ byteAt a k = 13) :
    pkEnd (a ++ b) 0 = a.size + pkEnd b 0 := by
  have hz : (a ++ b).size = a.size + b.size := ByteArray.size_append
  have h1 : ∀ n, n ≤ a.size → pkEnd (a ++ b) n = pkEnd (a ++ b) 0 := by
    intro n
    induction n with
    | zero => intro _; rfl
    | succ n ih =>
      intro hn
      rw [pkEnd_ws (a ++ b) n (by omega) (by rw [byteAt_join_left a b n (by omega)]; exact h n (by omega))]
      exact ih (by omega)
  rw [← h1 a.size (Nat.le_refl _)]
  unfold pkEnd
  rw [join_list]
  have : a.data.toList.length = a.size := by simp
  rw [List.drop_append_of_le_length (by omega), List.drop_of_length_le (by omega)]
  simp

theorem bytes15 (a b : ByteArray) (d : Int) (w : World) (ha : a.size ≤ 524288) (hb : b.size ≤ 524288) :
    Calls Try.prog 15 #[.string a, .string b, .int .i64 d] w fun e w' => e = .returned (.bool true) ∧ w' = w := by
  go_enter Try.func15, Try.ntmps15
  go_wp2
  go_ret
  exact ⟨rfl, rfl⟩

set_option maxHeartbeats 400000 in
theorem walk (a0 : ByteArray) (a1 : ByteArray) (a2 : Int) (w0 : a0.size ≤ maxLen) (w1 : a1.size ≤ maxLen) (w2 : (Lit.int .i64 a2).wf = true) (w : World) :
    Calls Try.prog 6 #[.string a0, .string a1, .int .i64 a2] w fun e w' => e = .returned (.bool true) ∧ Below w.heap.size w w' := by
  have W1 : Hid (a1.size ≤ maxLen) := w1
  unfold maxLen at w0 w1
  by_cases hbig : 524288 < a0.size ∨ 524288 < a1.size
  · rcases hbig with hbig | hbig
    all_goals
      go_enter Try.func6, Try.ntmps6
      go_wp2
      all_goals (go_ret; exact ⟨rfl, Below.refl _ _⟩)
  · have hb0 : a0.size ≤ 524288 := by omega
    have hb1 : a1.size ≤ 524288 := by omega
    clear hbig
    have J : Hid ((a0 ++ a1).size = a0.size + a1.size) := ByteArray.size_append
    have hd0 : decide ((524288 : Int) < a0.size) = false := by simp; omega
    have hd1 : decide ((524288 : Int) < a1.size) = false := by simp; omega
    go_enter Try.func6, Try.ntmps6
    go_wp2_with (go_at_call 15; refine (bytes15 a0 a1 a2 _ hb0 hb1).mono ?_; rintro e w' ⟨rfl, rfl⟩)
    go_loop [7] (fun x => ∃ k : Nat, k ≤ a0.size ∧ x = .int .i64 k ∧ Hid (∀ j, j < k → byteAt a0 j = 32 ∨ byteAt a0 j = 9 ∨ byteAt a0 j = 10 ∨ byteAt a0 j = 13)) (fun x => a0.size - (intOf x).toNat)
    case atStart => exact ⟨0, by omega, rfl, fun j hj => by omega⟩
    case round =>
      obtain ⟨k, hk, rfl, M⟩ := hrel
      by_cases hlt : k < a0.size
      · have hix := idx a0 k hlt
        go_wp2_with fail
        by_cases hs : byteAt a0 k = 32 ∨ byteAt a0 k = 9 ∨ byteAt a0 k = 10 ∨ byteAt a0 k = 13
        · refine (isspace_yes _ hs _).mono ?_
          rintro e w2 ⟨rfl, rfl⟩
          have S : Hid (byteAt a0 k = 32 ∨ byteAt a0 k = 9 ∨ byteAt a0 k = 10 ∨ byteAt a0 k = 13) := hs
          clear hs
          go_wp2
          go_round
          case rel =>
            refine ⟨k + 1, by omega, by go_num, fun j hj => ?_⟩
            by_cases e : j = k
            · subst e; exact S.out
            · exact M.out j (by omega)
          case measure => simp [intOf]; omega
        · refine (isspace_no _ hs _).mono ?_
          rintro e w2 ⟨rfl, rfl⟩
          clear hs
          go_wp2
          go_ret
          exact ⟨rfl, Below.refl _ _⟩
      · obtain rfl : k = a0.size := by omega
        go_wp2_with fail
        refine (zzpeek0 (a0 ++ a1) (by rw [J.out]; unfold maxLen; omega) a2 _).mono ?_
        rintro e w2 ⟨rfl, hb2⟩
        have hpe := pkEnd_join a0 a1 M.out
        rw [hpe, byteAt_join]
        clear hpe
        go_wp2_with fail
        refine (zzpeek0 a1 W1.out a2 _).mono ?_
        rintro e w3 ⟨rfl, hb3⟩
        have hle : pkEnd a1 0 ≤ a1.size := by
          by_cases h : 0 < a1.size
          · exact (pkEnd_le a1 0 h).2
          · rw [(pkEnd_out a1 0 h).1]; omega
        have hix : pkEnd a1 0 < a1.size → ∀ w, (Instr.index 9 (.string (a0 ++ a1)) (.int .i64 ((a0.size : Int) + (pkEnd a1 0 : Nat)))).run Try.prog w = .ok (.int .u8 (byteAt a1 (pkEnd a1 0) : Nat)) w := by
          intro h w
          have := idx (a0 ++ a1) (a0.size + pkEnd a1 0) (by rw [J.out]; omega) w
          rw [byteAt_join] at this
          simpa using this
        have hz : ¬ pkEnd a1 0 < a1.size → byteAt a1 (pkEnd a1 0) = 0 := fun h => (pkEnd_out a1 _ h).2
        generalize byteAt a1 (pkEnd a1 0) = c at *
        generalize pkEnd a1 0 = j at *
        by_cases hj : j < a1.size
        · have hix' := hix hj
          clear hix hz
          go_wp2
          go_ret
          exact ⟨rfl, hb2.trans (hb3.mono hb2.size)⟩
        · have hz' := hz hj
          clear hix hz
          subst hz'
          go_wp2
          go_ret
          exact ⟨rfl, hb2.trans (hb3.mono hb2.size)⟩

set_option maxRecDepth 100000 in
theorem lifted (os : Os) (started : os.Started) (H : Type) (enc : TypeId × Value → H) :
    ReturnsInHanded {} Try.checked os 6 .any (Rows.fnPeekIgnoresLeadingWhiteSpaceSpec.pre6 enc Try.prog Try.f6 Rows.fnPeekIgnoresLeadingWhiteSpaceRow.domain false) (Rows.fnPeekIgnoresLeadingWhiteSpaceSpec.post enc Try.prog Try.f6 false true false false) := by
  refine returnsInHanded_of_change (C := Try.checked) own started (by kernel_rfl) Try.func6
    (ChangeSpec.witness6 (enc := enc) (C := Try.checked) false ⟨#[], #[.string ByteArray.empty, .string ByteArray.empty, .int .i64 0], []⟩ 8 (by kernel_rfl) (by kernel_rfl) (by kernel_rfl) (by kernel_rfl)) ?_
  intro W base args ds gs before hval0 hW hcnd _
  have hval : ∀ (j : Nat) t v, Try.f6.params[j]? = some t → args[j]? = some v → Value.okWide Try.prog W .any base t v := hval0
  have hW' := hW
  obtain ⟨p, q, hA0, hV, rfl, hfz, hnd⟩ := hW
  have hA : DataW.TrodAll enc Try.prog W 0 (fun _ => true) true Try.f6.params.toList args.toList ds p := hA0
  rw [Try.params6] at hA hval
  obtain ⟨v0, vs0, d0, ds0, p0, q0, hargs, rfl, rfl, h0, r0⟩ := trodAll_cons hA
  obtain ⟨v1, vs1, d1, ds1, p1, q1, rfl, rfl, rfl, h1, r1⟩ := trodAll_cons r0
  obtain ⟨v2, vs2, d2, ds2, p2, q2, rfl, rfl, rfl, h2, r2⟩ := trodAll_cons r1
  obtain ⟨rfl, rfl, rfl⟩ := trodAll_nil r2
  obtain rfl : args = #[v0, v1, v2] := by cases args; simp_all
  obtain ⟨rfl, rfl⟩ := trodVars_none hV
  obtain ⟨a0, rfl, rfl, rfl, w0⟩ := open_string Try.underlying9 (hval 0 9 v0 rfl rfl) h0
  obtain ⟨a1, rfl, rfl, rfl, w1⟩ := open_string Try.underlying9 (hval 1 9 v1 rfl rfl) h1
  obtain ⟨a2, rfl, rfl, rfl, w2⟩ := open_int Try.underlying3 (hval 2 3 v2 rfl rfl) h2
  clear hA0 hval0
  simp only [List.append_nil] at hW'
  refine (walk a0 a1 a2 w0 w1 w2 W).mono fun e W' ⟨he, bel⟩ => ?_
  subst he
  exact ⟨_, rfl, _, _, _, [], _, [], hW', trodAll_mk1 (shut_bool Try.underlying4 _), (trodAll_cons_mk (shut_string Try.underlying9 w0) (trodAll_cons_mk (shut_string Try.underlying9 w1) (trodAll_cons_mk (shut_int Try.underlying3 w2) trodAll_mk0))), rfl, bel.frame _, fun h => by cases h⟩

theorem over : Rows.fnPeekIgnoresLeadingWhiteSpaceRow.holds Try.pinned (OpenSpec.ofChange Rows.fnPeekIgnoresLeadingWhiteSpaceSpec) :=
  OpenClaim.holds_of_wide 6 Try.f6 rfl rfl rfl rfl rfl rfl rfl ⟨rfl, rfl, rfl, rfl, rfl⟩ rfl rfl rfl rfl rfl (by kernel_rfl) Try.func6 (by kernel_rfl)
    (of_decide_eq_true (by kernel_rfl)) (by unfold Func.isWrapper; first | (rw [if_pos (by decide +kernel)]; kernel_rfl) | (rw [if_neg (by decide +kernel)]; exact ⟨rfl, rfl⟩))
    (fun os started H enc _ => lifted os started H enc)

theorem proved : Rows.FnPeekIgnoresLeadingWhiteSpaceSaid :=
  over
#print axioms proved
end Go.Proofs.Qxb6605181a.fnPeekIgnoresLeadingWhiteSpace
