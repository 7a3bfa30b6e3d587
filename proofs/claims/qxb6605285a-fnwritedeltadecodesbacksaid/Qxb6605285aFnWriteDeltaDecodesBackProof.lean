import Derived.Test.Qxb6605285aRows
import Derived.WalkKit
import Derived.ProofKit
import Derived.OpenShut
import Derived.ShutString
import Derived.ChangeOld
import Derived.Below
import Derived.Test.Qxb6605285aDelta
namespace Go.Proofs.Qxb6605285a.fnWriteDeltaDecodesBack
open Go.ChangeShapes Go.WideShapes Go.ChangeAt Go.RowKit
open Go.ChangeMaps (open_string shut_string)
set_option linter.unusedVariables false      -- a walk need not use every 'w<i>' (that an integer argument fits its kind)

theorem own : ownKnob Try.prog.godebug = none := by kernel_rfl

/-- the digit at place j -/
def dg (L : List Nat) (j : Nat) : Nat := L.getD j 0

theorem idxS (L : List Nat) (j : Nat) (h : j < L.length) (w : World) :
    (Instr.index 9 (.string ⟨(L.map Puny.chr).toArray⟩) (.int .i64 j)).run Try.prog w = .ok (.int .u8 ((Puny.chr (dg L j)).toNat : Nat)) w := by
  have hsz : (⟨(L.map Puny.chr).toArray⟩ : ByteArray).size = L.length := by rw [sizeList, List.length_map]
  rw [run_index_string w 9 _ .i64 _ Try.underlying9, dif_pos ⟨by omega, by omega⟩]
  have : (⟨(L.map Puny.chr).toArray⟩ : ByteArray)[(j : Int).toNat]'(by omega) = Puny.chr (dg L j) := by
    unfold dg
    show ((L.map Puny.chr).toArray)[(j : Int).toNat]'(by simp; omega) = _
    simp [List.getD_eq_getElem?_getD, h]
  rw [this]

/-- an array of 64 ints in block b whose first j places hold f -/
structure Arr (b j : Nat) (f : Nat → Nat) (w : World) : Prop where
  some : ∀ i, i < 64 → ∃ v : Int, w.cell? ⟨b, i, none⟩ = .some (.int .i64 v)
  free : ∀ i, w.frozen? ⟨b, i, none⟩ = false
  held : ∀ i, i < j → w.cell? ⟨b, i, none⟩ = .some (.int .i64 (f i : Nat))

theorem Arr.set {b j : Nat} {f : Nat → Nat} {w : World} (h : Arr b j f w) (hj : j < 64) : Arr b (j + 1) f (w.setCell ⟨b, j, none⟩ (.int .i64 (f j : Nat))) := by
  obtain ⟨v, hv⟩ := h.some j hj
  have same : (w.setCell ⟨b, j, none⟩ (.int .i64 (f j : Nat))).cell? ⟨b, j, none⟩ = .some (.int .i64 (f j : Nat)) := World.cell?_setCell_same _ _ _ hv
  have other : ∀ i, i ≠ j → (w.setCell ⟨b, j, none⟩ (.int .i64 (f j : Nat))).cell? ⟨b, i, none⟩ = w.cell? ⟨b, i, none⟩ := fun i hi => World.cell?_setCell_other _ _ _ _ (by intro e; injection e with _ e2; exact hi e2.symm)
  refine ⟨fun i hi => ?_, fun i => (World.frozen?_setCell _ _ _ _).trans (h.free i), fun i hi => ?_⟩
  · by_cases e : i = j
    · subst e; exact ⟨_, same⟩
    · rw [other i e]; exact h.some i hi
  · by_cases e : i = j
    · subst e; exact same
    · rw [other i e]; exact h.held i (by omega)

theorem Arr.set' {b j v : Nat} {f : Nat → Nat} {w : World} (h : Arr b j f w) (hj : j < 64) (hv : f j = v) : Arr b (j + 1) f (w.setCell ⟨b, j, none⟩ (.int .i64 (v : Nat))) := by
  subst hv; exact h.set hj

theorem Arr.setOther {b c j i : Nat} {f : Nat → Nat} {w : World} (h : Arr b j f w) (hbc : c ≠ b) (v : Value) : Arr b j f (w.setCell ⟨c, i, none⟩ v) := by
  have other : ∀ k, (w.setCell ⟨c, i, none⟩ v).cell? ⟨b, k, none⟩ = w.cell? ⟨b, k, none⟩ := fun k => World.cell?_setCell_other _ _ _ _ (by intro e; injection e with e1; exact hbc e1)
  exact ⟨fun k hk => by rw [other]; exact h.some k hk, fun k => (World.frozen?_setCell _ _ _ _).trans (h.free k), fun k hk => by rw [other]; exact h.held k hk⟩

theorem Arr.new (w : World) (C : Array Value) (f : Nat → Nat) (hC : ∀ i, i < 64 → ∃ v : Int, C[i]? = .some (.int .i64 v)) : Arr w.heap.size 0 f (w.alloc (.cells C 28)) :=
  ⟨fun i hi => by rw [World.cell?_alloc_mark]; exact hC i hi, fun i => by rw [frozen?_alloc_cells]; simp [World.frozen?], fun i hi => by omega⟩

theorem Arr.alloc {b j : Nat} {f : Nat → Nat} {w : World} (h : Arr b j f w) (hb : b < w.heap.size) (o : Obj) : Arr b j f (w.alloc o) :=
  ⟨fun i hi => by rw [World.cell?_alloc_old _ _ _ (by show b ≠ _; omega)]; exact h.some i hi, fun i => by rw [World.frozen?_alloc_old _ _ _ (by show b ≠ _; omega)]; exact h.free i,
    fun i hi => by rw [World.cell?_alloc_old _ _ _ (by show b ≠ _; omega)]; exact h.held i hi⟩

def zeros64 : Array Value := Array.replicate 64 (.int .i64 0)
theorem zeros64_at (i : Nat) (h : i < 64) : ∃ v : Int, zeros64[i]? = .some (.int .i64 v) := ⟨0, by unfold zeros64; simp [h]⟩

set_option maxHeartbeats 1000000 in
theorem walk (a0 : Int) (a1 : Int) (w0 : (Lit.int .i64 a0).wf = true) (w1 : (Lit.int .i64 a1).wf = true) (w : World) :
    Calls Try.prog 4 #[.int .i64 a0, .int .i64 a1] w fun e w' => e = .returned (.bool true) ∧ Below w.heap.size w w' := by
  have hb0 := bounds_i64 w0
  have hb1 := bounds_i64 w1
  clear w0 w1
  by_cases h0 : a0 < 0
  · go_enter Try.func4, Try.ntmps4
    go_wp2
    go_ret
    exact ⟨rfl, Below.refl _ _⟩
  · by_cases h1 : a1 < 0
    · go_enter Try.func4, Try.ntmps4
      go_wp2
      go_ret
      exact ⟨rfl, Below.refl _ _⟩
    · obtain ⟨q0, rfl⟩ := Int.eq_ofNat_of_zero_le (show 0 ≤ a0 by omega)
      obtain ⟨bias, rfl⟩ := Int.eq_ofNat_of_zero_le (show 0 ≤ a1 by omega)
      have HQ : Hid (q0 ≤ 9223372036854775807) := by unfold Hid; omega
      have HB : Hid (bias ≤ 9223372036854775807) := by unfold Hid; omega
      clear hb0 hb1 h0 h1
      have hlen : (Puny.vli 36 bias q0).length ≤ 20 := Puny.vli_len 19 36 bias q0 (by have := HQ.out; omega)
      have hpos : 1 ≤ (Puny.vli 36 bias q0).length := List.length_pos_iff.2 (Puny.vli_ne _ _ _)
      have G : Hid (Puny.good bias 36 (Puny.vli 36 bias q0)) := Puny.good_vli q0 36 bias q0 (Nat.le_refl _)
      have V : Hid (Puny.val bias 36 (Puny.vli 36 bias q0) = q0) := Puny.val_vli q0 36 bias q0 (Nat.le_refl _)
      go_enter Try.func4, Try.ntmps4
      go_wp2_with fail
      refine (zzwriteDelta_calls bias q0 _ HQ.out HB.out).mono ?_
      rintro e w1 ⟨rfl, hbw⟩
      unfold Puny.enc
      generalize Puny.vli 36 bias q0 = L at *
      have hsz : (⟨(L.map Puny.chr).toArray⟩ : ByteArray).size = L.length := by rw [sizeList, List.length_map]
      have hix := idxS L
      generalize (⟨(L.map Puny.chr).toArray⟩ : ByteArray) = s at *
      have t0 : ((L.length : Int) == 0) = false := beq_eq_false_iff_ne.2 (by omega)
      have t1 : decide ((64 : Int) < L.length) = false := by simp; omega
      go_wp2_with fail
      go_loopg [8, 9] L.length (fun g x y wr => ∃ j : Nat, j ≤ L.length ∧ g = L.length - j ∧ x = .int .i64 ((36 * (j + 1) : Nat) : Int) ∧ y = .int .i64 j ∧ Arr w1.heap.size j (fun i => Puny.thr (36 + 36 * i) bias) wr ∧ Arr (w1.heap.size + 1) j (dg L) wr ∧ Below w.heap.size w wr)
      case atStart =>
        refine ⟨0, by omega, rfl, rfl, rfl, ?_, ?_, ?_⟩
        · exact (Arr.new w1 zeros64 _ zeros64_at).alloc (by simp) _
        · have h2 := Arr.new (w1.alloc (.cells zeros64 28)) zeros64 (dg L) zeros64_at
          rw [show (w1.alloc (.cells zeros64 28)).heap.size = w1.heap.size + 1 from by simp] at h2
          exact h2
        · exact (hbw.alloc hbw.size _).alloc (by have := hbw.size; simp; omega) _
      case round =>
        obtain ⟨j, hj, hg, rfl, rfl, hT, hD, hbr⟩ := hrel
        have HG : Hid (gk = L.length - j) := hg
        clear hg
        have AT : Hid (Arr w1.heap.size j (fun i => Puny.thr (36 + 36 * i) bias) wr) := hT
        have AD : Hid (Arr (w1.heap.size + 1) j (dg L) wr) := hD
        by_cases hlt : j < L.length
        · have hixj := hix j hlt
          obtain ⟨hd36, hlast⟩ := Puny.good_at bias L 36 j G.out hlt
          have hd36' : dg L j < 36 := hd36
          have hlast' : (j + 1 = L.length) ↔ dg L j < Puny.thr (36 + 36 * j) bias := hlast
          obtain ⟨vt, ct⟩ := hT.some j (by omega)
          obtain ⟨vd, cd⟩ := hD.some j (by omega)
          have ft := hT.free j
          have fd := hD.free j
          have hk36 : 36 + 36 * j = 36 * (j + 1) := by omega
          clear hT hD hix hd36 hlast
          have ET : Hid (Puny.thr (36 + 36 * j) bias = Puny.thr (36 * (j + 1)) bias) := by unfold Hid; rw [hk36]
          rw [hk36] at hlast'
          clear hk36
          have K : Hid (∃ k, k = 36 * (j + 1)) := ⟨_, rfl⟩
          generalize hk : 36 * (j + 1) = k at *
          have HK : Hid (36 * (j + 1) = k) := hk
          have hk1 : 36 ≤ k := by omega
          have hk2 : k ≤ 4611686018427387904 := by omega
          clear hk K
          go_wp2_with fail
          refine (zzdigit_calls (dg L j) hd36' _).mono ?_
          rintro e w2 ⟨rfl, rfl⟩
          go_wp2_with fail
          refine (zzthr_calls k bias hk1 hk2 _).mono ?_
          rintro e w2 ⟨rfl, rfl⟩
          have ht1 := Puny.thr_ge k bias
          have ht2 := Puny.thr_le k bias
          generalize Puny.thr k bias = t at *
          generalize hdd : dg L j = d at *
          have HD : Hid (dg L j = d) := hdd
          clear hdd
          by_cases hl : j + 1 = L.length
          · have hb1 : ((j : Int) == (L.length : Int) - 1) = true := beq_iff_eq.2 (by omega)
            have hb2 : decide (d < t) = true := decide_eq_true (hlast'.1 hl)
            clear hlast'
            go_wp2_with fail
            go_roundg (L.length - (j + 1))
            case measure => rw [HG.out]; omega
            case rel =>
              refine ⟨j + 1, by omega, rfl, ?_, by go_num, ?_, ?_, ?_⟩
              · have := HK.out
                congr 1
                omega
              · exact (AT.out.set' (by omega) ET.out).setOther (by omega) _
              · exact (AD.out.setOther (c := w1.heap.size) (i := j) (by omega) _).set' (by omega) HD.out
              · exact (hbr.setCell (p := ⟨w1.heap.size, j, none⟩) hbw.size _).setCell (p := ⟨w1.heap.size + 1, j, none⟩) (by have := hbw.size; show _ ≤ w1.heap.size + 1; omega) _
          · have hb1 : ((j : Int) == (L.length : Int) - 1) = false := beq_eq_false_iff_ne.2 (by omega)
            have hb2 : decide (d < t) = false := decide_eq_false (fun h => hl (hlast'.2 h))
            clear hlast'
            go_wp2_with fail
            go_roundg (L.length - (j + 1))
            case measure => rw [HG.out]; omega
            case rel =>
              refine ⟨j + 1, by omega, rfl, ?_, by go_num, ?_, ?_, ?_⟩
              · have := HK.out
                congr 1
                omega
              · exact (AT.out.set' (by omega) ET.out).setOther (by omega) _
              · exact (AD.out.setOther (c := w1.heap.size) (i := j) (by omega) _).set' (by omega) HD.out
              · exact (hbr.setCell (p := ⟨w1.heap.size, j, none⟩) hbw.size _).setCell (p := ⟨w1.heap.size + 1, j, none⟩) (by have := hbw.size; show _ ≤ w1.heap.size + 1; omega) _
        · obtain rfl : j = L.length := by omega
          have cl := hD.held (L.length - 1) (by omega)
          have CT : Hid (∀ i, i < L.length → wr.cell? ⟨w1.heap.size, i, none⟩ = some (.int .i64 (Puny.thr (36 + 36 * i) bias : Nat))) := hT.held
          have CD : Hid (∀ i, i < L.length → wr.cell? ⟨w1.heap.size + 1, i, none⟩ = some (.int .i64 (dg L i : Nat))) := hD.held
          clear hix AT AD hT hD
          obtain ⟨wo, rfl⟩ : ∃ wo : World, wo = wr := ⟨_, rfl⟩
          go_wp2_with fail
          clear cl
          go_loopg [13, 14] (L.length - 1) (fun g x y wx => wx = wo ∧ ∃ m : Nat, m + 1 ≤ L.length ∧ g = m ∧ x = .int .i64 (Puny.val bias (36 + 36 * m) (L.drop m) : Nat) ∧ y = .int .i64 ((m : Int) - 1))
          case atStart =>
            refine ⟨rfl, L.length - 1, by omega, rfl, ?_, ?_⟩
            · rw [Puny.val_last bias L 36 (L.length - 1) (by omega)]; rfl
            · congr 1; omega
          case round =>
            obtain ⟨rfl, m, hm, hgm, rfl, rfl⟩ := hrel
            have HM : Hid (gk = m) := hgm
            clear hgm
            have hle : Puny.val bias (36 + 36 * m) (L.drop m) ≤ q0 := by have h1 := Puny.val_mono bias L m 36 (by omega); have h2 := V.out; omega
            cases m with
            | zero =>
              have hv0 : Puny.val bias (36 + 36 * 0) (L.drop 0) = q0 := V.out
              rw [hv0]
              clear hv0 hle
              go_wp2_with fail
              go_ret
              exact ⟨by simp, hbr⟩
            | succ i =>
              have hT := CT.out i (by omega)
              have hD := CD.out i (by omega)
              have hvd : Puny.val bias (36 + 36 * i) (L.drop i) = dg L i + (36 - Puny.thr (36 + 36 * i) bias) * Puny.val bias (36 + 36 * (i + 1)) (L.drop (i + 1)) := Puny.val_drop bias L 36 i (by omega)
              have hle2 : Puny.val bias (36 + 36 * i) (L.drop i) ≤ q0 := by have h1 := Puny.val_mono bias L i 36 (by omega); have h2 := V.out; omega
              have hd36 : dg L i < 36 := (Puny.good_at bias L 36 i G.out (by omega)).1
              have ht1 := Puny.thr_ge (36 + 36 * i) bias
              have ht2 := Puny.thr_le (36 + 36 * i) bias
              generalize Puny.thr (36 + 36 * i) bias = t at *
              generalize dg L i = d at *
              generalize Puny.val bias (36 + 36 * (i + 1)) (L.drop (i + 1)) = v at *
              have HV : Hid (Puny.val bias (36 + 36 * i) (L.drop i) = d + (36 - t) * v) := hvd
              rw [hvd] at hle2
              clear hvd hle
              have hmq : (d : Int) + (36 - (t : Int)) * (v : Int) ≤ q0 := by
                have h1 : ((d + (36 - t) * v : Nat) : Int) ≤ q0 := Int.ofNat_le.2 hle2
                rw [Int.natCast_add, Int.natCast_mul, Int.ofNat_sub (show t ≤ 36 by omega)] at h1
                exact h1
              have hdec : decide ((9223372036854775807 - (d : Int)) / (36 - (t : Int)) < (v : Int)) = false := by
                apply decide_eq_false
                have h2 : (v : Int) ≤ (9223372036854775807 - (d : Int)) / (36 - (t : Int)) := by
                  rw [Int.le_ediv_iff_mul_le (by omega), Int.mul_comm]
                  have := HQ.out
                  omega
                omega
              have hmul0 : 0 ≤ (36 - (t : Int)) * (v : Int) := Int.mul_nonneg (by omega) (by omega)
              have hqm : (q0 : Int) ≤ 9223372036854775807 := by have := HQ.out; omega
              go_wp2_with fail
              go_roundg i
              case measure => rw [HM.out]; omega
              case rel =>
                refine ⟨rfl, i, by omega, rfl, ?_, ?_⟩
                · rw [HV.out, Int.natCast_add, Int.natCast_mul, Int.ofNat_sub (show t ≤ 36 by omega)]; rfl
                · go_num

set_option maxRecDepth 100000 in
theorem lifted (os : Os) (started : os.Started) (H : Type) (enc : TypeId × Value → H) :
    ReturnsInHanded {} Try.checked os 4 .any (Rows.fnWriteDeltaDecodesBackSpec.pre6 enc Try.prog Try.f4 Rows.fnWriteDeltaDecodesBackRow.domain false) (Rows.fnWriteDeltaDecodesBackSpec.post enc Try.prog Try.f4 false true false false) := by
  refine returnsInHanded_of_change (C := Try.checked) own started (by kernel_rfl) Try.func4
    (ChangeSpec.witness6 (enc := enc) (C := Try.checked) false ⟨#[], #[.int .i64 0, .int .i64 0], []⟩ 8 (by kernel_rfl) (by kernel_rfl) (by kernel_rfl) (by kernel_rfl)) ?_
  intro W base args ds gs before hval0 hW hcnd _
  have hval : ∀ (j : Nat) t v, Try.f4.params[j]? = some t → args[j]? = some v → Value.okWide Try.prog W .any base t v := hval0
  have hW' := hW
  obtain ⟨p, q, hA0, hV, rfl, hfz, hnd⟩ := hW
  have hA : DataW.TrodAll enc Try.prog W 0 (fun _ => true) true Try.f4.params.toList args.toList ds p := hA0
  rw [Try.params4] at hA hval
  obtain ⟨v0, vs0, d0, ds0, p0, q0, hargs, rfl, rfl, h0, r0⟩ := trodAll_cons hA
  obtain ⟨v1, vs1, d1, ds1, p1, q1, rfl, rfl, rfl, h1, r1⟩ := trodAll_cons r0
  obtain ⟨rfl, rfl, rfl⟩ := trodAll_nil r1
  obtain rfl : args = #[v0, v1] := by cases args; simp_all
  obtain ⟨rfl, rfl⟩ := trodVars_none hV
  obtain ⟨a0, rfl, rfl, rfl, w0⟩ := open_int Try.underlying3 (hval 0 3 v0 rfl rfl) h0
  obtain ⟨a1, rfl, rfl, rfl, w1⟩ := open_int Try.underlying3 (hval 1 3 v1 rfl rfl) h1
  clear hA0 hval0
  simp only [List.append_nil] at hW'
  refine (walk a0 a1 w0 w1 W).mono fun e W' ⟨he, bel⟩ => ?_
  subst he
  exact ⟨_, rfl, _, _, _, [], _, [], hW', trodAll_mk1 (shut_bool Try.underlying4 _), (trodAll_cons_mk (shut_int Try.underlying3 w0) (trodAll_cons_mk (shut_int Try.underlying3 w1) trodAll_mk0)), rfl, bel.frame _, fun h => by cases h⟩

theorem over : Rows.fnWriteDeltaDecodesBackRow.holds Try.pinned (OpenSpec.ofChange Rows.fnWriteDeltaDecodesBackSpec) :=
  OpenClaim.holds_of_wide 4 Try.f4 rfl rfl rfl rfl rfl rfl rfl ⟨rfl, rfl, rfl, rfl, rfl⟩ rfl rfl rfl rfl rfl (by kernel_rfl) Try.func4 (by kernel_rfl)
    (of_decide_eq_true (by kernel_rfl)) (by unfold Func.isWrapper; first | (rw [if_pos (by decide +kernel)]; kernel_rfl) | (rw [if_neg (by decide +kernel)]; exact ⟨rfl, rfl⟩))
    (fun os started H enc _ => lifted os started H enc)

theorem proved : Rows.FnWriteDeltaDecodesBackSaid :=
  over
#print axioms proved
end Go.Proofs.Qxb6605285a.fnWriteDeltaDecodesBack
