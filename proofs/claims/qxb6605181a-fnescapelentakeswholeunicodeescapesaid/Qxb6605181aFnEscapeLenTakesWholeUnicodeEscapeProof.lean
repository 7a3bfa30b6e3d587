import Derived.Test.Qxb6605181aRows
import Derived.WalkKit
import Derived.ProofKit
import Derived.OpenShut
import Derived.ShutString
import Derived.ChangeOld
import Derived.Below
import Derived.Laws.IdiomStrings
import Derived.WalkLawsBesides
import Derived.Laws.BitsAllLaws
namespace Go.Proofs.Qxb6605181a.fnEscapeLenTakesWholeUnicodeEscape
open Go.ChangeShapes Go.WideShapes Go.ChangeAt Go.RowKit
open Go.ChangeMaps (open_string shut_string)
set_option linter.unusedVariables false      -- a walk need not use every 'w<i>' (that an integer argument fits its kind)

theorem own : ownKnob Try.prog.godebug = none := by kernel_rfl

set_option maxHeartbeats 400000 in
theorem esc_short (s : ByteArray) (w : World) (h1 : 1 ≤ s.size) (h5 : s.size < 5) (hu : s[0] = 117) :
    Calls Try.prog 19 #[.string s] w fun e w' => e = .returned (.int .i64 0) ∧ w' = w := by
  go_enter Try.func19, Try.ntmps19
  go_wp2
  all_goals (go_ret; exact ⟨rfl, rfl⟩)

def hexd (n : Int) : Prop := (48 ≤ n ∧ n ≤ 57) ∨ (97 ≤ n ∧ n ≤ 102) ∨ (65 ≤ n ∧ n ≤ 70)

theorem cell_mid (s : ByteArray) (w : World) (cap k : Nat) (f : Nat × Nat) (h5 : 5 ≤ s.size) (hk : k < 4) :
    (w.alloc (.cells (bytesRow (s.extract 1 5) cap) 5 f)).cell? ⟨w.heap.size, k, none⟩ = some (.int .u8 ((s.data.toList.getD (k + 1) 0).toNat : Int)) := by
  rw [World.cell?_alloc_mark]
  have h4 : k < (s.extract 1 5).data.size := by
    have : (s.extract 1 5).size = 4 := by rw [ByteArray.size_extract]; omega
    show k < (s.extract 1 5).size; omega
  rw [bytesRow_at _ _ _ h4]
  have h5' : k + 1 < s.data.size := by show k + 1 < s.size; omega
  have : (s.extract 1 5).data[k] = s.data[k + 1] := by
    simp [ByteArray.data_extract, Nat.add_comm]
  rw [this]
  simp only [List.getD_eq_getElem?_getD, Array.getElem?_toList]
  rw [Array.getElem?_eq_getElem h5']; rfl

theorem nonempty_of (s : ByteArray) (h : 1 ≤ s.size) : s.toList.isEmpty = false := by
  rw [ByteArray.toList_eq]
  have : s.data.toList.length = s.size := by simp
  cases e : s.data.toList with
  | nil => rw [e] at this; simp at this; omega
  | cons => rfl

set_option maxHeartbeats 400000 in
theorem esc_full (s : ByteArray) (w : World) (h5 : 5 ≤ s.size) (hm : s.size ≤ maxLen) (hu : s[0] = 117) (hx : ∀ k, 1 ≤ k → k < 5 → hexd (s.data.toList.getD k 0).toNat) :
    Calls Try.prog 19 #[.string s] w fun e w' => e = .returned (.int .i64 5) ∧ Below w.heap.size w w' := by
  unfold maxLen at hm
  have hne : s.toList.isEmpty = false := nonempty_of s (by omega)
  have hcv := fun (w : World) (s : ByteArray) => run_bytes_of_string (P := Try.prog) w 9 31 5 s Try.underlying9 Try.underlying31 Try.underlying5
  go_enter Try.func19, Try.ntmps19
  go_wp2
  go_loop [27] (fun i => ∃ k : Nat, k ≤ 4 ∧ i = .int .i64 k) (fun i => 4 - (intOf i).toNat)
  case atStart => exact ⟨0, by omega, rfl⟩
  case round =>
    obtain ⟨k, hk, rfl⟩ := hrel
    by_cases hlt : k < 4
    · have hc := fun cap f => cell_mid s w cap k f h5 hlt
      have hx' := hx (k + 1) (by omega) (by omega)
      clear hx
      generalize (s.data.toList.getD (k + 1) 0).toNat = n at *
      rcases hx' with ⟨ha, hb⟩ | ⟨ha, hb⟩ | ⟨ha, hb⟩
      all_goals
        go_wp2
        go_round
        case rel => exact ⟨k + 1, by omega, by go_num⟩
        case measure => simp [intOf]; omega
    · go_wp2
      go_ret
      exact ⟨rfl, ((Below.refl _ _).alloc (Nat.le_refl _) _).drew⟩

def lower : ByteArray := ⟨#[48, 49, 50, 51, 52, 53, 54, 55, 56, 57, 97, 98, 99, 100, 101, 102]⟩
def upper : ByteArray := ⟨#[48, 49, 50, 51, 52, 53, 54, 55, 56, 57, 65, 66, 67, 68, 69, 70]⟩

theorem and15 (n : Int) (h0 : 0 ≤ n) (h1 : n < 65536) : ∃ m : Nat, m < 16 ∧ bits .and .u16 n 15 = (m : Int) := by
  refine ⟨n.toNat &&& 15, ?_, u16_and n 15 h0 h1 (by omega) (by omega)⟩
  have := @Nat.and_le_right n.toNat 15
  omega

theorem hex_lower : ∀ m : Fin 16, hexd ((lower.data.toList.getD m.1 0).toNat : Int) := by unfold hexd lower; decide
theorem hex_upper : ∀ m : Fin 16, hexd ((upper.data.toList.getD m.1 0).toNat : Int) := by unfold hexd upper; decide

theorem idx_eq (D : ByteArray) (hD : D = lower ∨ D = upper) (n : Int) (h0 : 0 ≤ n) (h1 : n < 65536) :
    ∃ c : UInt8, hexd (c.toNat : Int) ∧ ∀ w, (Instr.index 9 (.string D) (.int .u16 (bits .and .u16 n 15))).run Try.prog w = .ok (.int .u8 (c.toNat : Int)) w := by
  obtain ⟨m, hm, e⟩ := and15 n h0 h1
  have hs : D.size = 16 := by rcases hD with rfl | rfl <;> rfl
  refine ⟨D.data.toList.getD m 0, ?_, fun w => ?_⟩
  · rcases hD with rfl | rfl
    · exact hex_lower ⟨m, hm⟩
    · exact hex_upper ⟨m, hm⟩
  · rw [run_index_string w 9 D .u16 _ Try.underlying9, e, dif_pos ⟨by omega, by omega⟩]
    have hm' : m < D.data.size := by show m < D.size; omega
    have : D[(m : Int).toNat]'(by omega) = D.data.toList.getD m 0 := by
      simp only [Int.toNat_natCast, List.getD_eq_getElem?_getD, Array.getElem?_toList]
      rw [Array.getElem?_eq_getElem hm']; rfl
    rw [this]

theorem conv5 (w : World) (c1 c2 c3 c4 : UInt8) :
    (convert 31 9 (.slice (some ⟨w.heap.size, 0, none⟩) 5 5)).run Try.prog (w.alloc (.cells #[.int .u8 117, .int .u8 c1.toNat, .int .u8 c2.toNat, .int .u8 c3.toNat, .int .u8 c4.toNat] 29)) =
      .ok (.string ⟨#[117, c1, c2, c3, c4]⟩) (w.alloc (.cells #[.int .u8 117, .int .u8 c1.toNat, .int .u8 c2.toNat, .int .u8 c3.toNat, .int .u8 c4.toNat] 29)) := by
  refine run_convert_bytes_back _ 31 9 5 ⟨w.heap.size, 0, none⟩ 5 [117, c1, c2, c3, c4] Try.underlying31 Try.underlying5 Try.underlying9 ?_
  intro j hj
  simp only [List.length_cons, List.length_nil] at hj
  have : j = 0 ∨ j = 1 ∨ j = 2 ∨ j = 3 ∨ j = 4 := by omega
  have e : (Addr.add ⟨w.heap.size, 0, none⟩ j) = ⟨w.heap.size, j, none⟩ := by rw [Addr.add_lit, Nat.zero_add]
  rw [e, World.cell?_alloc_mark]
  rcases this with rfl | rfl | rfl | rfl | rfl <;> rfl

set_option maxHeartbeats 400000 in
theorem zz_short (s : ByteArray) (w : World) (h1 : 1 ≤ s.size) (h5 : s.size < 5) (hu : s[0] = 117) :
    Calls Try.prog 11 #[.string s] w fun e w' => e = .returned (.int .i64 0) ∧ w' = w := by
  go_enter Try.func11, Try.ntmps11
  go_wp2_with (go_at_call 19; refine (esc_short s _ h1 h5 hu).mono ?_; rintro e w' ⟨rfl, rfl⟩)
  go_ret
  exact ⟨rfl, rfl⟩

set_option maxHeartbeats 400000 in
theorem zz_full (s : ByteArray) (w : World) (h5 : 5 ≤ s.size) (hm : s.size ≤ maxLen) (hu : s[0] = 117) (hx : ∀ k, 1 ≤ k → k < 5 → hexd (s.data.toList.getD k 0).toNat) :
    Calls Try.prog 11 #[.string s] w fun e w' => e = .returned (.int .i64 5) ∧ Below w.heap.size w w' := by
  go_enter Try.func11, Try.ntmps11
  go_wp2_with (go_at_call 19; refine (esc_full s _ h5 hm hu hx).mono ?_; rintro e w' ⟨rfl, hbl⟩)
  go_ret
  exact ⟨rfl, hbl⟩

def enc (c1 c2 c3 c4 : UInt8) : ByteArray := ⟨#[117, c1, c2, c3, c4]⟩

theorem full_size (c1 c2 c3 c4 : UInt8) (t : ByteArray) : (enc c1 c2 c3 c4 ++ t).size = 5 + t.size := by
  rw [ByteArray.size_append]; rfl

theorem full_list (c1 c2 c3 c4 : UInt8) (t : ByteArray) : (enc c1 c2 c3 c4 ++ t).data.toList = 117 :: c1 :: c2 :: c3 :: c4 :: t.data.toList := by
  simp [enc, ByteArray.data_append]

theorem byte0 (s : ByteArray) (h : 0 < s.size) (c : UInt8) (l : List UInt8) (e : s.data.toList = c :: l) : s[0] = c := by
  have h' : 0 < s.data.toList.length := by simpa using h
  have : s[0] = s.data.toList[0] := rfl
  rw [this]; simp [e]

theorem full_hex (c1 c2 c3 c4 : UInt8) (t : ByteArray) (x1 : hexd c1.toNat) (x2 : hexd c2.toNat) (x3 : hexd c3.toNat) (x4 : hexd c4.toNat) :
    ∀ k, 1 ≤ k → k < 5 → hexd ((enc c1 c2 c3 c4 ++ t).data.toList.getD k 0).toNat := by
  intro k h1 h5
  rw [full_list]
  have : k = 1 ∨ k = 2 ∨ k = 3 ∨ k = 4 := by omega
  rcases this with rfl | rfl | rfl | rfl <;> assumption

theorem cut_size (c1 c2 c3 c4 : UInt8) (k : Nat) (h : k < 5) : ((enc c1 c2 c3 c4).extract 0 k).size = k := by
  rw [ByteArray.size_extract]; show min k 5 - 0 = k; omega

theorem cut_head (c1 c2 c3 c4 : UInt8) (k : Nat) (h1 : 1 ≤ k) (h : 0 < ((enc c1 c2 c3 c4).extract 0 k).size) : ((enc c1 c2 c3 c4).extract 0 k)[0] = 117 := by
  obtain ⟨j, rfl⟩ : ∃ j, k = j + 1 := ⟨k - 1, by omega⟩
  refine byte0 _ h 117 ([c1, c2, c3, c4].take j) ?_
  simp [enc, ByteArray.data_extract]

set_option maxHeartbeats 400000 in
theorem walk (a0 : Int) (a1 : Bool) (a2 : ByteArray) (w0 : (Lit.int .u16 a0).wf = true) (w2 : a2.size ≤ maxLen) (w : World) :
    Calls Try.prog 4 #[.int .u16 a0, .bool a1, .string a2] w fun e w' => e = .returned (.bool true) ∧ Below w.heap.size w w' := by
  unfold maxLen at w2
  have hb := bounds_u16 w0
  by_cases hbig : 1048576 < a2.size
  · go_enter Try.func4, Try.ntmps4
    go_wp2
    go_ret
    exact ⟨rfl, Below.refl _ _⟩
  · cases a1
    · obtain ⟨c1, x1, i1⟩ := idx_eq lower (.inl rfl) (a0 / 4096) (by omega) (by omega)
      obtain ⟨c2, x2, i2⟩ := idx_eq lower (.inl rfl) (a0 / 256) (by omega) (by omega)
      obtain ⟨c3, x3, i3⟩ := idx_eq lower (.inl rfl) (a0 / 16) (by omega) (by omega)
      obtain ⟨c4, x4, i4⟩ := idx_eq lower (.inl rfl) a0 (by omega) (by omega)
      unfold lower at i1 i2 i3 i4
      have hcv := conv5 w c1 c2 c3 c4
      go_enter Try.func4, Try.ntmps4
      go_wp2_with (first | (go_at_call 10; go_in))
      have hz := full_size c1 c2 c3 c4 a2
      refine (zz_full (enc c1 c2 c3 c4 ++ a2) _ (by omega) (by unfold maxLen; omega) (byte0 _ (by omega) _ _ (full_list c1 c2 c3 c4 a2)) (full_hex c1 c2 c3 c4 a2 x1 x2 x3 x4)).mono ?_
      rintro e w1 ⟨rfl, hb1⟩
      clear hz hcv i1 i2 i3 i4 hb w0 w2
      go_wp2_with fail
      go_loop [10] (fun i => ∃ k : Nat, 1 ≤ k ∧ k ≤ 5 ∧ i = .int .i64 k) (fun i => 5 - (intOf i).toNat)
      case atStart => exact ⟨1, by omega, by omega, rfl⟩
      case round =>
        obtain ⟨k, hk1, hk5, rfl⟩ := hrel
        by_cases hlt : k < 5
        · go_wp2_with fail
          have hz := cut_size c1 c2 c3 c4 k hlt
          refine (zz_short ((enc c1 c2 c3 c4).extract 0 k) _ (by omega) (by omega) (cut_head c1 c2 c3 c4 k hk1 (by omega))).mono ?_
          rintro e w2 ⟨rfl, rfl⟩
          clear hz
          go_wp2
          go_round
          case rel => exact ⟨k + 1, by omega, by omega, by go_num⟩
          case measure => simp [intOf]; omega
        · go_wp2
          go_ret
          exact ⟨rfl, ((Below.refl _ _).alloc (Nat.le_refl _) _).trans (hb1.mono (by simp))⟩
    · obtain ⟨c1, x1, i1⟩ := idx_eq upper (.inr rfl) (a0 / 4096) (by omega) (by omega)
      obtain ⟨c2, x2, i2⟩ := idx_eq upper (.inr rfl) (a0 / 256) (by omega) (by omega)
      obtain ⟨c3, x3, i3⟩ := idx_eq upper (.inr rfl) (a0 / 16) (by omega) (by omega)
      obtain ⟨c4, x4, i4⟩ := idx_eq upper (.inr rfl) a0 (by omega) (by omega)
      unfold upper at i1 i2 i3 i4
      have hcv := conv5 w c1 c2 c3 c4
      go_enter Try.func4, Try.ntmps4
      go_wp2_with (first | (go_at_call 10; go_in))
      have hz := full_size c1 c2 c3 c4 a2
      refine (zz_full (enc c1 c2 c3 c4 ++ a2) _ (by omega) (by unfold maxLen; omega) (byte0 _ (by omega) _ _ (full_list c1 c2 c3 c4 a2)) (full_hex c1 c2 c3 c4 a2 x1 x2 x3 x4)).mono ?_
      rintro e w1 ⟨rfl, hb1⟩
      clear hz hcv i1 i2 i3 i4 hb w0 w2
      go_wp2_with fail
      go_loop [10] (fun i => ∃ k : Nat, 1 ≤ k ∧ k ≤ 5 ∧ i = .int .i64 k) (fun i => 5 - (intOf i).toNat)
      case atStart => exact ⟨1, by omega, by omega, rfl⟩
      case round =>
        obtain ⟨k, hk1, hk5, rfl⟩ := hrel
        by_cases hlt : k < 5
        · go_wp2_with fail
          have hz := cut_size c1 c2 c3 c4 k hlt
          refine (zz_short ((enc c1 c2 c3 c4).extract 0 k) _ (by omega) (by omega) (cut_head c1 c2 c3 c4 k hk1 (by omega))).mono ?_
          rintro e w2 ⟨rfl, rfl⟩
          clear hz
          go_wp2
          go_round
          case rel => exact ⟨k + 1, by omega, by omega, by go_num⟩
          case measure => simp [intOf]; omega
        · go_wp2
          go_ret
          exact ⟨rfl, ((Below.refl _ _).alloc (Nat.le_refl _) _).trans (hb1.mono (by simp))⟩

set_option maxRecDepth 100000 in
theorem lifted (os : Os) (started : os.Started) (H : Type) (enc : TypeId × Value → H) :
    ReturnsInHanded {} Try.checked os 4 .any (Rows.fnEscapeLenTakesWholeUnicodeEscapeSpec.pre6 enc Try.prog Try.f4 Rows.fnEscapeLenTakesWholeUnicodeEscapeRow.domain false) (Rows.fnEscapeLenTakesWholeUnicodeEscapeSpec.post enc Try.prog Try.f4 false true false false) := by
  refine returnsInHanded_of_change (C := Try.checked) own started (by kernel_rfl) Try.func4
    (ChangeSpec.witness6 (enc := enc) (C := Try.checked) false ⟨#[], #[.int .u16 0, .bool false, .string ByteArray.empty], []⟩ 8 (by kernel_rfl) (by kernel_rfl) (by kernel_rfl) (by kernel_rfl)) ?_
  intro W base args ds gs before hval0 hW hcnd _
  have hval : ∀ (j : Nat) t v, Try.f4.params[j]? = some t → args[j]? = some v → Value.okWide Try.prog W .any base t v := hval0
  have hW' := hW
  obtain ⟨p, q, hA0, hV, rfl, hfz, hnd⟩ := hW
  have hA : DataW.TrodAll enc Try.prog W 0 (fun _ => true) true Try.f4.params.toList args.toList ds p := hA0
  rw [Try.params4] at hA hval
  obtain ⟨v0, vs0, d0, ds0, p0, q0, hargs, rfl, rfl, h0, r0⟩ := trodAll_cons hA
  obtain ⟨v1, vs1, d1, ds1, p1, q1, rfl, rfl, rfl, h1, r1⟩ := trodAll_cons r0
  obtain ⟨v2, vs2, d2, ds2, p2, q2, rfl, rfl, rfl, h2, r2⟩ := trodAll_cons r1
  obtain ⟨rfl, rfl, rfl⟩ := trodAll_nil r2
  obtain rfl : args = #[v0, v1, v2] := by cases args; simp_all
  obtain ⟨rfl, rfl⟩ := trodVars_none hV
  obtain ⟨a0, rfl, rfl, rfl, w0⟩ := open_int Try.underlying27 (hval 0 27 v0 rfl rfl) h0
  obtain ⟨a1, rfl, rfl, rfl⟩ := open_bool Try.underlying4 (hval 1 4 v1 rfl rfl) h1
  obtain ⟨a2, rfl, rfl, rfl, w2⟩ := open_string Try.underlying9 (hval 2 9 v2 rfl rfl) h2
  clear hA0 hval0
  simp only [List.append_nil] at hW'
  refine (walk a0 a1 a2 w0 w2 W).mono fun e W' ⟨he, bel⟩ => ?_
  subst he
  exact ⟨_, rfl, _, _, _, [], _, [], hW', trodAll_mk1 (shut_bool Try.underlying4 _), (trodAll_cons_mk (shut_int Try.underlying27 w0) (trodAll_cons_mk (shut_bool Try.underlying4 _) (trodAll_cons_mk (shut_string Try.underlying9 w2) trodAll_mk0))), rfl, bel.frame _, fun h => by cases h⟩

theorem over : Rows.fnEscapeLenTakesWholeUnicodeEscapeRow.holds Try.pinned (OpenSpec.ofChange Rows.fnEscapeLenTakesWholeUnicodeEscapeSpec) :=
  OpenClaim.holds_of_wide 4 Try.f4 rfl rfl rfl rfl rfl rfl rfl ⟨rfl, rfl, rfl, rfl, rfl⟩ rfl rfl rfl rfl rfl (by kernel_rfl) Try.func4 (by kernel_rfl)
    (of_decide_eq_true (by kernel_rfl)) (by unfold Func.isWrapper; first | (rw [if_pos (by decide +kernel)]; kernel_rfl) | (rw [if_neg (by decide +kernel)]; exact ⟨rfl, rfl⟩))
    (fun os started H enc _ => lifted os started H enc)

theorem proved : Rows.FnEscapeLenTakesWholeUnicodeEscapeSaid :=
  over
#print axioms proved
end Go.Proofs.Qxb6605181a.fnEscapeLenTakesWholeUnicodeEscape
