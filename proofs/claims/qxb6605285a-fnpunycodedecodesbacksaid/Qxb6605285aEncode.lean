import Derived.Test.Qxb6605285aEncI
import Derived.Deep.DeepCutAuto
import Derived.Deep.CutBlock
namespace Go.Proofs.Qxb6605285a
open Go.Shelf
open Go.ChangeShapes Go.WideShapes Go.ChangeAt Go.RowKit
open Puny (DSt decStep encAll run Valid Head Mid)

theorem row_cells (R : List Nat) (m i : Nat) (hi : i < R.length) : ((rcells R).toArray ++ Array.replicate m (Value.int .i32 0))[i]? = some (.int .i32 (rn R i : Nat)) := by
  rw [Array.getElem?_append_left (by simp [rcells]; exact hi)]
  simp [rcells, rn, List.getD_eq_getElem?_getD, hi]

theorem fresh_at (w : World) (o : Obj) : Lib.IsBuilderF 37 5 (w.heap.size + 1) (w.heap.size + 1) (Lib.byteCells []) ((w.alloc o).alloc (.cells #[.pointer none, .slice none 0 0] 37)).drew := by
  have h := Lib.IsBuilderF.of (Lib.fresh_isBuilder 37 5 (w.alloc o))
  rw [show (w.alloc o).heap.size = w.heap.size + 1 from by simp] at h
  exact h

theorem row_at (w : World) (C : Array Value) (o : Obj) : ((w.alloc (.cells C 21)).alloc o).drew.heap[w.heap.size]? = some (.cells C 21 (0, 0)) := by
  show ((w.alloc (.cells C 21)).alloc o).heap[w.heap.size]? = _
  rw [Lib.alloc_old (w.alloc (.cells C 21)) o w.heap.size (by simp)]
  exact (MapKept.heap_alloc w _).1

theorem adapt_at (delta points : Nat) (x : Int) (first : Bool) (w : World) (hx : x = (points : Int)) (hd : delta ≤ 9223372036854775807) (hp : 1 ≤ points) (hp2 : points ≤ 9223372036854775807) :
    Calls Try.prog 17 #[.int .i64 delta, .int .i64 x, .bool first] w fun e w' => e = .returned (.int .i64 (Puny.adapt delta points first : Nat)) ∧ w' = w := by
  subst hx; exact adapt_calls delta points first w hd hp hp2

theorem eq_nat_int (a b : Nat) : decide (a = b) = ((a : Int) == (b : Int)) := by
  rw [Bool.eq_iff_iff]; simp; omega

set_option maxHeartbeats 4000000 in
set_option maxRecDepth 100000 in
theorem punycode_calls (s : ByteArray) (hs : s.size ≤ 4096) (R : List Nat) (hR : Conv.runesFrom s s.size 0 #[] = (rcells R).toArray) (hRl : R.length ≤ s.size) (hRx : ∀ x ∈ R, x ≤ 1114111) (w : World) :
    Calls Try.prog 14 #[.string s] w fun e w' => ∃ D : List Nat, e = .returned (.string ⟨(pre R ++ encAll (st0 R) D).toArray⟩) ∧ Valid (st0 R) D ∧ (run (st0 R) D).out = R ∧ Below w.heap.size w w' := by
  have hcv := fun (w : World) => run_runes_of_string (P := Try.prog) w 9 23 21 s Try.underlying9 Try.underlying23 Try.underlying21 (by rw [hR]; simp [rcells]; omega)
  rw [hR] at hcv
  have hsz : (rcells R).toArray.size = R.length := by simp [rcells]
  rw [hsz] at hcv
  go_enter Try.func14, Try.ntmps14
  go_wp2
  have hC : Hid (∀ i, i < R.length → ((rcells R).toArray ++ Array.replicate (grownCap w R.length 0 21 - R.length) (Value.int .i32 0))[i]? = some (.int .i32 (rn R i : Nat))) := fun i hi => row_cells R _ i hi
  clear hcv hsz hR
  generalize hCC : (rcells R).toArray ++ Array.replicate (grownCap w R.length 0 21 - R.length) (Value.int .i32 0) = C at *
  clear hCC
  generalize grownCap w R.length 0 21 = cap at *
  go_loopg [21] R.length (fun gh x wr => ∃ k : Nat, k ≤ R.length ∧ gh = R.length - k ∧ x = .int .i64 k ∧ Lib.IsBuilderF 37 5 (w.heap.size + 1) (w.heap.size + 1) (Lib.byteCells (basicB (R.take k))) wr ∧ wr.heap[w.heap.size]? = some (.cells C 21 (0, 0)) ∧ Below w.heap.size w wr ∧ w.heap.size + 2 ≤ wr.heap.size)
  case atStart =>
    exact ⟨0, by omega, rfl, rfl, fresh_at w _, row_at w C _, (((Below.refl _ _).alloc (Nat.le_refl _) _).alloc (by simp) _).drew, by simp⟩
  case round =>
    obtain ⟨k, hk, hg, rfl, hI, hrow, hbw, hz⟩ := hrel
    have HG : Hid (gk = R.length - k) := hg
    have HR : Hid (wr.heap[w.heap.size]? = some (.cells C 21 (0, 0))) := hrow
    clear hg
    by_cases hlt : k < R.length
    · have hcell := cell_row hrow hC.out k hlt
      clear hrow
      by_cases hr : rn R k < 128
      · have hlen : (basicB (R.take k)).length ≤ 4096 := by
          rw [basicB_length]; have := List.length_filter_le (fun x => decide (x < 128)) (R.take k); have h2 := List.length_take_le k R; omega
        have EB : Hid (basicB (R.take (k + 1)) = basicB (R.take k) ++ [UInt8.ofNat (rn R k)]) := basicB_snoc_yes R k hlt hr
        go_wp2_with fail
        refine (WriteRune_ascii (w.heap.size + 1) (w.heap.size + 1) _ _ (by omega) (by omega) _ hI (by rw [Lib.byteCells_length]; omega) (by omega)).mono ?_
        rintro e w1 ⟨rfl, h1, b1, k1⟩
        go_wp2
        go_roundg (R.length - (k + 1))
        case measure => rw [HG.out]; omega
        case rel =>
          refine ⟨k + 1, by omega, rfl, by go_num, ?_, row_kept k1 (by omega) HR.out, hbw.trans (b1.mono (by omega)), by have := b1.size; omega⟩
          rw [EB.out, byteCells_snoc, show (UInt8.ofNat (rn R k)).toNat = rn R k from by rw [UInt8.toNat_ofNat']; omega]
          exact Or.inr h1
      · have EB : Hid (basicB (R.take (k + 1)) = basicB (R.take k)) := basicB_snoc_no R k hlt hr
        go_wp2
        go_roundg (R.length - (k + 1))
        case measure => rw [HG.out]; omega
        case rel =>
          refine ⟨k + 1, by omega, rfl, by go_num, ?_, HR.out, hbw, hz⟩
          rw [EB.out]; exact hI
    · obtain rfl : k = R.length := by omega
      rw [List.take_length] at hI
      clear hrow HG
      go_wp2_with fail
      refine (Builder_Len_f (w.heap.size + 1) (w.heap.size + 1) _ _ hI).mono ?_
      rintro e w1 ⟨rfl, rfl⟩
      rw [Lib.byteCells_length]
      have hnb : (basicB R).length ≤ R.length := by rw [basicB_length]; exact List.length_filter_le _ _
      have EN : Hid ((st0 R).out.length = (basicB R).length) := (basicB_length R).symm
      have PY : Hid ((basicB R).length ≠ 0 → pre R = basicB R ++ [45]) := fun h => by unfold pre; rw [if_neg h]
      have PN : Hid ((basicB R).length = 0 → pre R = basicB R) := fun h => by unfold pre; rw [if_pos h, List.append_nil]
      generalize (basicB R).length = nb at *
      go_upto_if 32 with fail
      go_cut [] (fun wx => Lib.IsBuilderF 37 5 (w.heap.size + 1) (w.heap.size + 1) (Lib.byteCells (pre R)) wx ∧ wx.heap[w.heap.size]? = some (.cells C 21 (0, 0)) ∧ Below w.heap.size w wx ∧ w.heap.size + 2 ≤ wx.heap.size)
      case first =>
        by_cases h0 : nb = 0
        · have EP : Hid (pre R = basicB R) := PN.out h0
          clear PY PN EN
          subst h0
          go_wp2
          go_meet
          case rel => exact ⟨by rw [EP.out]; exact hI, HR.out, hbw, hz⟩
        · have EP : Hid (pre R = basicB R ++ [45]) := PY.out h0
          have hpos : 0 < nb := by omega
          clear PY PN EN h0
          have hbl : (basicB R).length ≤ 4096 := by rw [basicB_length]; have := List.length_filter_le (fun x => decide (x < 128)) R; omega
          go_wp2_with fail
          refine (WriteByte_k (w.heap.size + 1) (w.heap.size + 1) _ _ _ hI (by rw [Lib.byteCells_length]; omega) (by omega)).mono ?_
          rintro e w2 ⟨rfl, h1, b1, k1⟩
          go_wp2
          go_meet
          case rel => exact ⟨by rw [EP.out, byteCells_snoc]; exact Or.inr h1, row_kept k1 (by omega) HR.out, hbw.trans (b1.mono (by omega)), by have := b1.size; omega⟩
      case rest =>
        obtain ⟨hI2, hrow2, hbw2, hz2⟩ := hcut
        clear hI HR hbw hz PY PN
        go_wp2_with fail
        go_loopg [8, 9, 10, 11] (R.length - nb) (fun gh x8 x9 x10 x11 wr => ∃ (D : List Nat) (st : DSt) (n delta : Nat), gh = R.length - st.out.length ∧ EncI R nb D st ∧ Head R st n delta ∧ n ≤ 1114112 ∧ x8 = .int .i64 n ∧ x9 = .int .i64 st.bias ∧ x10 = .int .i64 delta ∧ x11 = .int .i64 st.out.length ∧ Lib.IsBuilderF 37 5 (w.heap.size + 1) (w.heap.size + 1) (Lib.byteCells (pre R ++ encAll (st0 R) D)) wr ∧ wr.heap[w.heap.size]? = some (.cells C 21 (0, 0)) ∧ Below w.heap.size w wr ∧ w.heap.size + 2 ≤ wr.heap.size)
        case atStart =>
          refine ⟨[], st0 R, 128, 0, by rw [EN.out], EncI.start R nb EN.out, Puny.head_start R, by omega, rfl, rfl, rfl, by rw [EN.out], ?_, hrow2, hbw2, hz2⟩
          simpa [encAll] using hI2
        case round =>
          clear hI2 hrow2 hbw2 hz2 EN
          obtain ⟨D, st, n, delta, hg, hE, hH, hn, rfl, rfl, rfl, rfl, hI, hrow, hbw, hz⟩ := hrel
          have HG : Hid (gk = R.length - st.out.length) := hg
          have HE : Hid (EncI R nb D st) := hE
          have HH : Hid (Head R st n delta) := hH
          have HR : Hid (wr.heap[w.heap.size]? = some (.cells C 21 (0, 0))) := hrow
          obtain ⟨hb1, hb2⟩ := Puny.head_bound hH hn (by omega)
          have hbias := hE.bias
          have hlenacc := hE.len (by omega) (by omega)
          clear hg hE hH hrow
          by_cases hlt : st.out.length < R.length
          · have HX : Hid (∃ x ∈ R, n ≤ x) := Puny.head_some HH.out hlt
            obtain ⟨wo, rfl⟩ : ∃ wo : World, wo = wr := ⟨_, rfl⟩
            go_wp2_with fail
            go_loopg [12, 41] R.length (fun gh x y wx => wx = wo ∧ ∃ (k : Nat) (z : Int), k ≤ R.length ∧ gh = R.length - k ∧ y = .int .i64 k ∧ x = .int .i64 z ∧ NextOf R n k z)
            case atStart => exact ⟨rfl, 0, -1, by omega, rfl, rfl, rfl, .inl ⟨rfl, fun i hi => by omega⟩⟩
            case round =>
              obtain ⟨rfl, k, z, hk, hgk, rfl, rfl, hN⟩ := hrel
              have HK : Hid (gk = R.length - k) := hgk
              have HN : Hid (NextOf R n k z) := hN
              clear hgk hN
              by_cases hkl : k < R.length
              · have hcell := cell_row HR.out hC.out k hkl
                have hrb : rn R k ≤ 1114111 := hRx _ (rn_mem hkl)
                by_cases hlo : rn R k < n
                · have HN2 : Hid (NextOf R n (k + 1) z) := HN.out.lo hlo
                  clear HN
                  generalize rn R k = r at *
                  go_wp2_with fail
                  go_roundg (R.length - (k + 1))
                  case measure => rw [HK.out]; omega
                  case rel => exact ⟨rfl, k + 1, z, by omega, rfl, by go_num, rfl, HN2.out⟩
                · by_cases hz1 : z < 0
                  · have HN2 : Hid (NextOf R n (k + 1) (rn R k : Int)) := HN.out.hit (by omega) (.inl hz1)
                    clear HN
                    generalize rn R k = r at *
                    go_wp2_with fail
                    go_roundg (R.length - (k + 1))
                    case measure => rw [HK.out]; omega
                    case rel => exact ⟨rfl, k + 1, r, by omega, rfl, by go_num, rfl, HN2.out⟩
                  · by_cases hz2 : (rn R k : Int) < z
                    · have HN2 : Hid (NextOf R n (k + 1) (rn R k : Int)) := HN.out.hit (by omega) (.inr hz2)
                      clear HN
                      generalize rn R k = r at *
                      go_wp2_with fail
                      go_roundg (R.length - (k + 1))
                      case measure => rw [HK.out]; omega
                      case rel => exact ⟨rfl, k + 1, r, by omega, rfl, by go_num, rfl, HN2.out⟩
                    · have HN2 : Hid (NextOf R n (k + 1) z) := HN.out.miss (by omega)
                      clear HN
                      generalize rn R k = r at *
                      go_wp2_with fail
                      go_roundg (R.length - (k + 1))
                      case measure => rw [HK.out]; omega
                      case rel => exact ⟨rfl, k + 1, z, by omega, rfl, by go_num, rfl, HN2.out⟩
              · obtain rfl : k = R.length := by omega
                obtain ⟨m, rfl, hmR, hnm, hmin⟩ := HN.out.found HX.out
                have hm1 := hRx m hmR
                have HM : Hid (Mid R st m (delta + (m - n) * (st.out.length + 1)) 0) := Puny.head_mid HH.out hnm hmin
                obtain ⟨hmb, _⟩ := Puny.mid_bound HM.out hm1 (by omega)
                have hmul : ((m : Int) - (n : Int)) * ((st.out.length : Int) + 1) = (((m - n) * (st.out.length + 1) : Nat) : Int) := by
                  rw [Int.natCast_mul, Int.ofNat_sub hnm]; rfl
                have hprod : (m - n) * (st.out.length + 1) ≤ 4564516863 := by omega
                have HMR : Hid (m ∈ R) := hmR
                clear HN HX hmin hmR HK
                generalize hpp : (m - n) * (st.out.length + 1) = prod at *
                clear hpp
                go_wp2_with fail
                clear hmul
                go_loopg [9, 10, 11, 73] R.length (fun gh x9 x10 x11 x73 wr => ∃ (p : Nat) (D2 : List Nat) (st2 : DSt) (d2 : Nat), p ≤ R.length ∧ gh = R.length - p ∧ x73 = .int .i64 p ∧ EncI R nb D2 st2 ∧ Mid R st2 m d2 p ∧ x9 = .int .i64 st2.bias ∧ x10 = .int .i64 d2 ∧ x11 = .int .i64 st2.out.length ∧ Lib.IsBuilderF 37 5 (w.heap.size + 1) (w.heap.size + 1) (Lib.byteCells (pre R ++ encAll (st0 R) D2)) wr ∧ wr.heap[w.heap.size]? = some (.cells C 21 (0, 0)) ∧ Below w.heap.size w wr ∧ w.heap.size + 2 ≤ wr.heap.size)
                case atStart => exact ⟨0, D, st, delta + prod, by omega, rfl, rfl, HE.out, HM.out, rfl, by go_num, rfl, hI, HR.out, hbw, hz⟩
                case round =>
                  obtain ⟨p, D2, st2, d2, hp, hgp, rfl, hE2, hM2, rfl, rfl, rfl, hI2, hrow2, hbw2, hz2⟩ := hrel
                  have HP : Hid (gk = R.length - p) := hgp
                  have HE2 : Hid (EncI R nb D2 st2) := hE2
                  have HM2 : Hid (Mid R st2 m d2 p) := hM2
                  have HR2 : Hid (wr.heap[w.heap.size]? = some (.cells C 21 (0, 0))) := hrow2
                  obtain ⟨hmb2, hol2⟩ := Puny.mid_bound hM2 hm1 (by omega)
                  have hbias2 := hE2.bias
                  have hlen2 := hE2.len (by omega) (by omega)
                  clear hgp hE2 hM2 hrow2 HM hmb hprod hI hbw hz hlenacc hb1 hbias
                  by_cases hpl : p < R.length
                  · have hcell := cell_row HR2.out hC.out p hpl
                    have hrb : rn R p ≤ 1114111 := hRx _ (rn_mem hpl)
                    by_cases hr1 : rn R p < m
                    · have HM3 : Hid (Mid R st2 m (d2 + 1) (p + 1)) := Puny.mid_less HM2.out hpl hr1
                      clear HM2
                      generalize rn R p = r at *
                      go_wp2_with fail
                      go_roundg (R.length - (p + 1))
                      case measure => rw [HP.out]; omega
                      case rel => exact ⟨p + 1, D2, st2, d2 + 1, by omega, rfl, by go_num, HE2.out, HM3.out, rfl, by go_num, rfl, hI2, HR2.out, hbw2, hz2⟩
                    · by_cases hr2 : rn R p = m
                      · obtain ⟨hn3, hM3⟩ := Puny.mid_same HM2.out hpl hr2
                        have HM3 : Hid (Mid R (decStep st2 d2) m 0 (p + 1)) := hM3
                        have HE3 : Hid (EncI R nb (D2 ++ [d2]) (decStep st2 d2)) := HE2.out.step d2 (by omega) (by rw [hn3]; omega)
                        have HB3 : Hid (pre R ++ encAll (st0 R) (D2 ++ [d2]) = (pre R ++ encAll (st0 R) D2) ++ Puny.enc 36 st2.bias d2) := HE2.out.bytes d2
                        have HF3 : Hid (st2.first = decide (st2.out.length = nb)) := HE2.out.first
                        have HL3 : Hid ((decStep st2 d2).out.length = st2.out.length + 1) := Puny.decStep_length st2 d2
                        have heq : ((rn R p : Int) == (m : Int)) = true := beq_iff_eq.2 (by omega)
                        clear hn3 hM3 HM2 HE2 hr2
                        generalize rn R p = r at *
                        go_wp2_with fail
                        refine (writeDelta_calls (w.heap.size + 1) (w.heap.size + 1) st2.bias d2 _ _ hI2 (by omega) (by omega) (by omega) (by omega)).mono ?_
                        rintro e w1 ⟨rfl, h1, b1, k1⟩
                        go_wp2_with fail
                        refine (adapt_at d2 (st2.out.length + 1) _ _ _ (by omega) (by omega) (by omega) (by omega)).mono ?_
                        rintro e w2 ⟨rfl, rfl⟩
                        go_wp2_with fail
                        go_roundg (R.length - (p + 1))
                        case measure => rw [HP.out]; omega
                        case rel =>
                          refine ⟨p + 1, D2 ++ [d2], decStep st2 d2, 0, by omega, rfl, by go_num, HE3.out, HM3.out, ?_, rfl, ?_, ?_, row_kept k1 (by omega) HR2.out, hbw2.trans (b1.mono (by omega)), by have := b1.size; omega⟩
                          · rw [show (decStep st2 d2).bias = Puny.adapt d2 (st2.out.length + 1) st2.first from rfl, HF3.out, eq_nat_int]
                          · rw [HL3.out]; rfl
                          · rw [HB3.out]; exact h1
                      · have HM3 : Hid (Mid R st2 m d2 (p + 1)) := Puny.mid_more HM2.out hpl (by unfold rn at hr1 hr2; omega)
                        have heq : ((rn R p : Int) == (m : Int)) = false := beq_eq_false_iff_ne.2 (by omega)
                        clear HM2
                        generalize rn R p = r at *
                        go_wp2_with fail
                        go_roundg (R.length - (p + 1))
                        case measure => rw [HP.out]; omega
                        case rel => exact ⟨p + 1, D2, st2, d2, by omega, rfl, by go_num, HE2.out, HM3.out, rfl, rfl, rfl, hI2, HR2.out, hbw2, hz2⟩
                  · obtain rfl : p = R.length := by omega
                    have HH2 : Hid (Head R st2 (m + 1) (d2 + 1)) := Puny.mid_end HM2.out
                    have HPM : Hid (st.out.length < st2.out.length) := pass_more HH.out HH2.out HMR.out hnm
                    clear HM2
                    go_wp2_with fail
                    go_roundg (R.length - st2.out.length)
                    case measure => rw [HG.out]; have := HPM.out; omega
                    case rel => exact ⟨D2, st2, m + 1, d2 + 1, rfl, HE2.out, HH2.out, by omega, by go_num, rfl, by go_num, rfl, hI2, HR2.out, hbw2, hz2⟩
          · have HO : Hid (st.out = R) := Puny.head_done HH.out hlt
            go_wp2_with fail
            refine (Builder_String_any_k (w.heap.size + 1) (w.heap.size + 1) (pre R ++ encAll (st0 R) D) _ hI (by omega)).mono ?_
            rintro e w1 ⟨rfl, h1, b1, k1⟩
            go_wp2
            go_ret
            exact ⟨D, rfl, HE.out.valid, by rw [← HE.out.eq]; exact HO.out, hbw.trans (b1.mono (by omega))⟩
end Go.Proofs.Qxb6605285a
