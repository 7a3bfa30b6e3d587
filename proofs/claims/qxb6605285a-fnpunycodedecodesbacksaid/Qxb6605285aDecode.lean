import Derived.Test.Qxb6605285aDecI
import Derived.Deep.DeepCutAuto
import Derived.Deep.CutBlock
namespace Go.Proofs.Qxb6605285a
open Go.Shelf
open Go.ChangeShapes Go.WideShapes Go.ChangeAt Go.RowKit
open Puny (DSt decStep encAll run Valid Head Mid)

theorem S_len (R D : List Nat) (hRl : R.length ≤ 4096) (hV : Valid (st0 R) D) (hout : (run (st0 R) D).out = R) : (pre R ++ encAll (st0 R) D).length ≤ 90000 := by
  have h1 := Puny.run_length D (st0 R)
  rw [hout] at h1
  have h2 := encAll_len D (st0 R) hV
  have h3 := pre_len R
  rw [List.length_append]; omega

theorem infoRune : (Try.prog.info? 21).map (fun i => (i.zero, i.size, i.bytes)) = some (some (.int .i32 0), 1, 4) := by kernel_rfl

theorem rcells_length (l : List Nat) : (rcells l).length = l.length := by unfold rcells; simp
theorem rcells_snoc (l : List Nat) (x : Nat) : rcells (l ++ [x]) = rcells l ++ [.int .i32 (x : Int)] := by unfold rcells; simp

theorem made_row (w : World) : OR w.heap.size w.heap.size 0 (rcells []) (w.alloc (.cells #[] 21)) :=
  World.ownsRow_made w #[] 0 (Nat.le_refl _) (by unfold maxLen; omega) (by simp)

theorem OR_of {B n : Nat} {v : Value} {xs : List Value} {w : World} (h : w.ownsRow B 21 1 v (n + 1) xs) : ∃ g cap, v = .slice (some ⟨g, 0, none⟩) (n + 1) cap ∧ xs.length = n + 1 ∧ OR B g cap xs w := by
  have hl : xs.length = n + 1 := by have := h.1; omega
  rcases h.2 with ⟨_, h0⟩ | ⟨g, cap, cur, hv, _⟩
  · omega
  · refine ⟨g, cap, hv, hl, ?_⟩
    unfold OR
    rw [hl, ← hv]; exact h

theorem take_rn (l : List Nat) (j : Nat) (h : j < l.length) : l.take (j + 1) = l.take j ++ [rn l j] := Puny.take_snoc l j h

/-! ### the decoder's state, ghost and all -/
structure DecI (R D : List Nat) (S : List UInt8) (D1 D2 : List Nat) (st : DSt) (Q : List UInt8) : Prop where
  split : D = D1 ++ D2
  eq : st = run (st0 R) D1
  valid : Valid st D2
  bytes : S = Q ++ encAll st D2
  n : st.n ≤ 1114111

theorem DecI.step {R D : List Nat} {S : List UInt8} {D1 D2 : List Nat} {st : DSt} {Q : List UInt8} {d : Nat} (h : DecI R D S D1 (d :: D2) st Q) : DecI R D S (D1 ++ [d]) D2 (decStep st d) (Q ++ Puny.enc 36 st.bias d) := by
  obtain ⟨_, _, h3, h4⟩ := h.valid
  refine ⟨by rw [h.split]; simp, by rw [Puny.run_snoc, ← h.eq], h4, by rw [h.bytes]; simp [encAll], h3⟩

theorem DecI.len {R D : List Nat} {S : List UInt8} {D1 D2 : List Nat} {st : DSt} {Q : List UInt8} (h : DecI R D S D1 D2 st Q) (hout : (run (st0 R) D).out = R) : st.out.length + D2.length = R.length := by
  have h1 := Puny.run_length D (st0 R)
  have h2 := Puny.run_length D1 (st0 R)
  rw [hout, h.split] at h1
  rw [← h.eq] at h2
  simp at h1
  omega

theorem DecI.done {R D : List Nat} {S : List UInt8} {D1 : List Nat} {st : DSt} {Q : List UInt8} (h : DecI R D S D1 [] st Q) (hout : (run (st0 R) D).out = R) : st.out = R ∧ S = Q := by
  have h1 := h.split
  have h2 := h.bytes
  simp only [List.append_nil, encAll] at h1 h2
  exact ⟨by rw [h.eq, ← h1]; exact hout, h2⟩

theorem vstep_last (bias : Nat) (L : List Nat) (j x y tot : Nat) (hj : j + 1 = L.length) (h : x + y * Puny.val bias (36 + 36 * j) (L.drop j) = tot) : x + rn L j * y = tot := by
  rw [Puny.val_last bias L 36 j hj, Nat.mul_comm] at h
  exact h

theorem vstep_more (bias : Nat) (L : List Nat) (j x y tot : Nat) (hj : j + 1 < L.length) (h : x + y * Puny.val bias (36 + 36 * j) (L.drop j) = tot) :
    (x + rn L j * y) + y * (36 - Puny.thr (36 + 36 * j) bias) * Puny.val bias (36 + 36 * (j + 1)) (L.drop (j + 1)) = tot := by
  rw [Puny.val_drop bias L 36 j hj, show L.getD j 0 = rn L j from rfl] at h
  generalize Puny.val bias (36 + 36 * (j + 1)) (L.drop (j + 1)) = V at *
  generalize 36 - Puny.thr (36 + 36 * j) bias = T at *
  generalize rn L j = e at *
  rw [← h, Nat.mul_add, Nat.mul_comm e y, Nat.mul_assoc, Nat.add_assoc]

theorem zzadapt_at (delta points : Nat) (x y : Int) (first : Bool) (w : World) (hx : x = (delta : Int)) (hy : y = (points : Int)) (hd : delta ≤ 9223372036854775807) (hp : 1 ≤ points) (hp2 : points ≤ 9223372036854775807) :
    Calls Try.prog 13 #[.int .i64 x, .int .i64 y, .bool first] w fun e w' => e = .returned (.int .i64 (Puny.adapt delta points first : Nat)) ∧ w' = w := by
  subst hx hy; exact zzadapt_calls delta points first w hd hp hp2

/-- the row while a place is made free: place t holds whatever -/
def hole (X : List Nat) (t : Nat) (u : Int) : List Value := rcells (X.take t) ++ .int .i32 u :: rcells (X.drop t)

theorem hole_length (X : List Nat) (t : Nat) (u : Int) (h : t ≤ X.length) : (hole X t u).length = X.length + 1 := by
  unfold hole; simp [rcells_length]; omega

theorem hole_start (X : List Nat) : rcells X ++ [.int .i32 0] = hole X X.length 0 := by
  unfold hole; simp [rcells]

theorem hole_at (X : List Nat) (t : Nat) (u : Int) (h : t ≤ X.length) : (hole X t u)[t]? = some (.int .i32 u) := by
  unfold hole
  rw [List.getElem?_append_right (by rw [rcells_length, List.length_take]; omega), rcells_length, List.length_take, Nat.min_eq_left h, Nat.sub_self]; rfl

theorem hole_before (X : List Nat) (k : Nat) (u : Int) (h : k < X.length) : (hole X (k + 1) u)[k]? = some (.int .i32 (rn X k : Nat)) := by
  unfold hole
  rw [List.getElem?_append_left (by rw [rcells_length, List.length_take]; omega)]
  unfold rcells rn
  rw [List.getElem?_map, List.getElem?_take, if_pos (by omega), List.getElem?_eq_getElem h, List.getD_eq_getElem?_getD, List.getElem?_eq_getElem h]
  rfl

theorem hole_set (X : List Nat) (t : Nat) (u v : Int) (h : t ≤ X.length) : (hole X t u).set t (.int .i32 v) = hole X t v := by
  unfold hole
  have hl : (rcells (X.take t)).length = t := by rw [rcells_length, List.length_take]; omega
  rw [List.set_append_right _ _ (by omega), hl, Nat.sub_self]; rfl

theorem hole_shift (X : List Nat) (k : Nat) (h : k < X.length) : hole X (k + 1) (rn X k : Nat) = hole X k (rn X k : Nat) := by
  unfold hole
  rw [take_rn X k h, rcells_snoc, Puny.drop_cons X k h]
  simp [rcells, rn]

theorem hole_fill (X : List Nat) (t x : Nat) : hole X t (x : Int) = rcells (Puny.insertAt X t x) := by
  unfold hole Puny.insertAt rcells; simp

theorem byte_at (Q T : List UInt8) (L : List Nat) (j : Nat) (h : j < L.length) : bt (Q ++ (L.map Puny.chr ++ T)) (Q.length + j) = (Puny.chr (rn L j)).toNat := by
  rw [bt_append_right, bt_append_left _ _ _ (by simpa using h)]
  unfold bt rn
  rw [List.getD_eq_getElem?_getD, List.getD_eq_getElem?_getD, List.getElem?_map, List.getElem?_eq_getElem h]
  rfl

set_option maxHeartbeats 4000000 in
set_option maxRecDepth 100000 in
theorem decode_calls (R D : List Nat) (hRl : R.length ≤ 4096) (hV : Valid (st0 R) D) (hout : (run (st0 R) D).out = R) (w : World) :
    Calls Try.prog 7 #[.string ⟨(pre R ++ encAll (st0 R) D).toArray⟩] w fun e w' => ∃ g cap, e = .returned (.tuple #[.slice (some ⟨g, 0, none⟩) R.length cap, .bool true]) ∧ OR w.heap.size g cap (rcells R) w' ∧ Below w.heap.size w w' := by
  have hSl := S_len R D hRl hV hout
  have HV : Hid (Valid (st0 R) D) := hV
  have HO : Hid ((run (st0 R) D).out = R) := hout
  clear hV hout
  have hix := idxL (pre R ++ encAll (st0 R) D)
  have hsz := sizeList (pre R ++ encAll (st0 R) D)
  have HS : Hid (∃ S, S = pre R ++ encAll (st0 R) D) := ⟨_, rfl⟩
  obtain ⟨S, hS⟩ : ∃ S, S = pre R ++ encAll (st0 R) D := ⟨_, rfl⟩
  rw [← hS] at hSl hix hsz ⊢
  have HSE : Hid (S = pre R ++ encAll (st0 R) D) := hS
  clear hS HS
  generalize (⟨S.toArray⟩ : ByteArray) = s at *
  have HIX : Hid (∀ j, j < S.length → ∀ w, (Instr.index 9 (.string s) (.int .i64 j)).run Try.prog w = .ok (.int .u8 (bt S j : Nat)) w) := hix
  clear hix
  have t1 : decide ((1048576 : Int) < S.length) = false := by simp; omega
  go_enter Try.func7, Try.ntmps7
  go_wp2_with fail
  go_loopg [4, 5] S.length (fun gh x y wx => wx = w ∧ ∃ (j : Nat) (z : Int), j ≤ S.length ∧ gh = S.length - j ∧ y = .int .i64 j ∧ x = .int .i64 z ∧ Dash S j z)
  case atStart => exact ⟨rfl, 0, -1, by omega, rfl, rfl, rfl, .inl ⟨rfl, fun i hi => by omega⟩⟩
  case round =>
    obtain ⟨rfl, j, z, hj, hg, rfl, rfl, hD⟩ := hrel
    have HG : Hid (gk = S.length - j) := hg
    have HD : Hid (Dash S j z) := hD
    clear hg hD
    by_cases hlt : j < S.length
    · have hixj := HIX.out j hlt
      by_cases hb : bt S j = 45
      · have hb' : ((bt S j : Int) == 45) = true := beq_iff_eq.2 (by omega)
        have HD2 : Hid (Dash S (j + 1) (j : Int)) := Dash.yes hb
        clear hb
        go_wp2_with fail
        go_roundg (S.length - (j + 1))
        case measure => rw [HG.out]; omega
        case rel => exact ⟨rfl, j + 1, j, by omega, rfl, by go_num, rfl, HD2.out⟩
      · have hb' : ((bt S j : Int) == 45) = false := beq_eq_false_iff_ne.2 (by omega)
        have HD2 : Hid (Dash S (j + 1) z) := HD.out.no hb
        clear hb
        go_wp2_with fail
        go_roundg (S.length - (j + 1))
        case measure => rw [HG.out]; omega
        case rel => exact ⟨rfl, j + 1, z, by omega, rfl, by go_num, rfl, HD2.out⟩
    · obtain rfl : j = S.length := by omega
      clear HG
      have HNB : Hid ((st0 R).out.length = (basicB R).length) := (basicB_length R).symm
      obtain ⟨i0, hi, hz0, hz1, hz2⟩ := info_parts infoRune
      go_upto_if 36 with fail
      go_cut [6, 7] (fun x6 x7 wx => ∃ g cap, x6 = .slice (some ⟨g, 0, none⟩) (st0 R).out.length cap ∧ x7 = .int .i64 (pre R).length ∧ OR wr.heap.size g cap (rcells (st0 R).out) wx ∧ Below wr.heap.size wr wx)
      case first =>
        by_cases h0 : (basicB R).length = 0
        · have ep : pre R = [] := by
            have : basicB R = [] := List.length_eq_zero_iff.1 h0
            unfold pre; rw [if_pos h0, this]; rfl
          have ez : z = -1 := by
            have hd := HD.out
            rw [HSE.out, ep, List.nil_append] at hd
            exact dash_none (encAll_ne D (st0 R)) hd
          have EP : Hid (pre R = []) := ep
          have eo : (st0 R).out = [] := List.length_eq_zero_iff.1 (HNB.out.trans h0)
          have EO : Hid ((st0 R).out = []) := eo
          clear ep eo h0 HD
          subst ez
          go_wp2_with fail
          go_meet
          case rel =>
            refine ⟨wr.heap.size, 0, ?_, ?_, ?_, (Below.refl _ _).alloc (Nat.le_refl _) _⟩
            · rw [EO.out]; rfl
            · rw [EP.out]; rfl
            · rw [EO.out]; exact made_row wr
        · have ep : pre R = basicB R ++ [45] := by unfold pre; rw [if_neg h0]
          have ez : z = ((basicB R).length : Int) := by
            have hd := HD.out
            rw [HSE.out, ep] at hd
            exact dash_at (encAll_ne D (st0 R)) hd
          have EP : Hid (pre R = basicB R ++ [45]) := ep
          have HB : Hid (∀ j, j < (basicB R).length → bt S j = rn (st0 R).out j ∧ rn (st0 R).out j < 128) := by
            intro j hj
            rw [HSE.out, ep, bt_append_left _ _ _ (by simp; omega), bt_append_left _ _ _ hj]
            exact basic_bt R j hj
          have hnS : (basicB R).length + 1 ≤ S.length := by rw [HSE.out, ep]; simp
          have hpos : 0 < (basicB R).length := by omega
          clear ep h0 HD
          subst ez
          generalize hnb : (basicB R).length = nb at *
          have HNB2 : Hid ((basicB R).length = nb) := hnb
          clear hnb
          obtain ⟨wo, rfl⟩ : ∃ wo : World, wo = wr := ⟨_, rfl⟩
          rw [show decide ((0 : Int) < (nb : Int)) = true from decide_eq_true (by omega)]
          go_wp2_with fail
          clear hpos
          go_loopg [6, 8] nb (fun gh x6 x8 wx => ∃ (j g cap : Nat), j ≤ nb ∧ gh = nb - j ∧ x8 = .int .i64 j ∧ x6 = .slice (some ⟨g, 0, none⟩) j cap ∧ OR wo.heap.size g cap (rcells ((st0 R).out.take j)) wx ∧ Below wo.heap.size wo wx)
          case atStart => exact ⟨0, wo.heap.size, 0, by omega, rfl, rfl, rfl, made_row wo, (Below.refl _ _).alloc (Nat.le_refl _) _⟩
          case round =>
            obtain ⟨j, g, cap, hj, hg, rfl, rfl, hOR, hbw⟩ := hrel
            have HG : Hid (gk = nb - j) := hg
            clear hg
            by_cases hlt : j < nb
            · have hixj := HIX.out j (by omega)
              obtain ⟨e1, e2⟩ := HB.out j hlt
              have HT : Hid (rcells ((st0 R).out.take (j + 1)) = rcells ((st0 R).out.take j) ++ [.int .i32 (rn (st0 R).out j : Int)]) := by
                unfold Hid; rw [take_rn _ j (by rw [HNB.out]; exact hlt), rcells_snoc]
              have hlen : (rcells ((st0 R).out.take j)).length = j := by
                rw [rcells_length, List.length_take, HNB.out]; omega
              rw [e1] at hixj
              have hown : wr.ownsRow wo.heap.size 21 1 (.slice (some ⟨g, 0, none⟩) j cap) j (rcells ((st0 R).out.take j)) := by
                have := hOR; unfold OR at this; rw [hlen] at this; exact this
              have HO1 : Hid (wr.ownsRow wo.heap.size 21 1 (.slice (some ⟨g, 0, none⟩) j cap) j (rcells ((st0 R).out.take j))) := hown
              clear e1 hown hOR hlen
              generalize rn (st0 R).out j = x at *
              go_wp2_with (at_builtin; refine wpList_append_own _ rfl _ _ 23 rfl wo.heap.size 21 i0 (.int .i32 0) 1 4 Try.underlying23 hi hz0 hz1 hz2 rfl (by decide) _ _ _ rfl (HO1.out.alloc _) ⟨wr.heap.size, 0, none⟩ 1 1 [.int .i32 (x : Int)] rfl rfl ?c1 ?c2 ?c3 ?c4 ?c5 ?_)
              case c1 =>
                intro i u hu
                match i, hu with
                | 0, hu => simp at hu; subst hu; simp [Addr.add]
              case c2 => intro u hu; simp at hu; subst hu; rfl
              case c3 => unfold maxLen; omega
              case c4 => omega
              case c5 => have := hbw.size; simp; omega
              intro v' w2 hown' hgrow _
              obtain ⟨g2, cap2, rfl, hl2, hOR2⟩ := OR_of hown'
              have HOR : Hid (OR wo.heap.size g2 cap2 (rcells ((st0 R).out.take j) ++ [.int .i32 (x : Int)]) w2) := hOR2
              have HBW : Hid (Below wo.heap.size wo w2) := (hbw.alloc hbw.size _).grown hgrow (by have := hbw.size; simp; omega) (fun k hk => (HO1.out.lt k hk).1)
              clear hown' hgrow hl2 hOR2
              go_wp2_with fail
              go_roundg (nb - (j + 1))
              case measure => rw [HG.out]; omega
              case rel => exact ⟨j + 1, g2, cap2, by omega, rfl, by go_num, rfl, by rw [HT.out]; exact HOR.out, HBW.out⟩
            · obtain rfl : j = nb := by omega
              go_wp2_with fail
              go_meet
              case rel =>
                have hto : (st0 R).out.take j = (st0 R).out := List.take_of_length_le (by rw [HNB.out]; exact Nat.le_refl _)
                rw [hto] at hOR
                refine ⟨g, cap, by rw [HNB.out], ?_, hOR, hbw⟩
                rw [EP.out, List.length_append, HNB2.out]; rfl
      case rest =>
        obtain ⟨g0, cap0, rfl, rfl, hOR0, hbw0⟩ := hcut
        clear HD
        obtain ⟨wo, rfl⟩ : ∃ wo : World, wo = wr := ⟨_, rfl⟩
        go_wp2_with fail
        go_loopg [6, 7, 9, 10, 11, 12] D.length (fun gh x6 x7 x9 x10 x11 x12 wx => ∃ (D1 D2 : List Nat) (st : DSt) (Q : List UInt8) (g cap : Nat), gh = D2.length ∧ DecI R D S D1 D2 st Q ∧ x6 = .slice (some ⟨g, 0, none⟩) st.out.length cap ∧ x7 = .int .i64 Q.length ∧ x9 = .int .i64 st.n ∧ x10 = .int .i64 st.i ∧ x11 = .int .i64 st.bias ∧ x12 = .bool st.first ∧ OR wo.heap.size g cap (rcells st.out) wx ∧ Below wo.heap.size wo wx)
        case atStart => exact ⟨[], D, st0 R, pre R, g0, cap0, rfl, ⟨rfl, rfl, HV.out, HSE.out, by show 128 ≤ 1114111; omega⟩, rfl, rfl, rfl, rfl, rfl, rfl, hOR0, hbw0⟩
        case round =>
          clear hOR0 hbw0
          obtain ⟨D1, D2, st, Q, g, cap, hg, hI, rfl, rfl, rfl, rfl, rfl, rfl, hOR, hbw⟩ := hrel
          have HG : Hid (gk = D2.length) := hg
          have HI : Hid (DecI R D S D1 D2 st Q) := hI
          have HL : Hid (st.out.length + D2.length = R.length) := hI.len HO.out
          have hol : st.out.length ≤ 4096 := by have := HL.out; omega
          have hn := hI.n
          clear hg
          cases D2 with
          | nil =>
            obtain ⟨e1, e2⟩ := hI.done HO.out
            have E1 : Hid (st.out = R) := e1
            have hpos : Q.length = S.length := by rw [e2]
            clear hI e1 e2
            go_wp2_with fail
            go_ret2
            refine ⟨g, cap, ?_, ?_, hbw⟩
            · show Ending.returned (.tuple #[.slice (some ⟨g, 0, none⟩) st.out.length cap, .bool true]) = _
              rw [E1.out]
            · rw [← E1.out]; exact hOR
          | cons d D2 =>
            obtain ⟨v1, v2, v3, _⟩ := hI.valid
            have HST : Hid (DecI R D S (D1 ++ [d]) D2 (decStep st d) (Q ++ Puny.enc 36 st.bias d)) := hI.step
            have hb2 : S = Q ++ ((Puny.vli 36 st.bias d).map Puny.chr ++ encAll (decStep st d) D2) := by rw [hI.bytes]; simp [encAll, Puny.enc]
            have HBT : Hid (∀ j, j < (Puny.vli 36 st.bias d).length → bt S (Q.length + j) = (Puny.chr (rn (Puny.vli 36 st.bias d) j)).toNat) := fun j hj => by rw [hb2]; exact byte_at Q _ _ j hj
            have hQL : Q.length + (Puny.vli 36 st.bias d).length ≤ S.length := by rw [hb2]; simp
            have hLl : (Puny.vli 36 st.bias d).length ≤ 20 := Puny.vli_len 19 36 st.bias d (by omega)
            have hLp : 1 ≤ (Puny.vli 36 st.bias d).length := List.length_pos_iff.2 (Puny.vli_ne _ _ _)
            have HGd : Hid (Puny.good st.bias 36 (Puny.vli 36 st.bias d)) := Puny.good_vli d 36 st.bias d (Nat.le_refl _)
            have HVl : Hid (Puny.val st.bias 36 (Puny.vli 36 st.bias d) = d) := Puny.val_vli d 36 st.bias d (Nat.le_refl _)
            have HEL : Hid ((Q ++ Puny.enc 36 st.bias d).length = Q.length + (Puny.vli 36 st.bias d).length) := by unfold Hid Puny.enc; simp
            clear hb2 hI
            generalize Puny.vli 36 st.bias d = L at *
            obtain ⟨wi, rfl⟩ : ∃ wi : World, wi = wr := ⟨_, rfl⟩
            have HTT : Hid (st.i + 1 * Puny.val st.bias (36 + 36 * 0) (L.drop 0) = st.i + d) := by unfold Hid; rw [Nat.one_mul]; exact congrArg (st.i + ·) HVl.out
            have h58 : decide (Q.length < S.length) = true := decide_eq_true (by omega)
            go_wp2_with fail
            go_loopg [7, 10, 14, 15] L.length (fun gh x7 x10 x14 x15 wx => wx = wi ∧ ∃ (j x y : Nat), j < L.length ∧ gh = L.length - j ∧ x7 = .int .i64 ((Q.length + j : Nat) : Int) ∧ x10 = .int .i64 x ∧ x14 = .int .i64 y ∧ x15 = .int .i64 ((36 + 36 * j : Nat) : Int) ∧ 1 ≤ y ∧ y ≤ 1099511627776 ∧ x + y * Puny.val st.bias (36 + 36 * j) (L.drop j) = st.i + d)
            case atStart => exact ⟨rfl, 0, st.i, 1, by omega, rfl, rfl, rfl, rfl, rfl, by omega, by omega, HTT.out⟩
            case round =>
              obtain ⟨rfl, j, x, y, hj, hgj, rfl, rfl, rfl, rfl, hy1, hy2, hxy⟩ := hrel
              have HJ : Hid (gk = L.length - j) := hgj
              have hixj := HIX.out (Q.length + j) (by omega)
              rw [HBT.out j hj] at hixj
              obtain ⟨g1, g2⟩ := Puny.good_at st.bias L 36 j HGd.out hj
              have g1' : rn L j < 36 := g1
              have g2' : (j + 1 = L.length) ↔ rn L j < Puny.thr (36 + 36 * j) st.bias := g2
              clear hgj g1 g2
              have ht1 := Puny.thr_ge (36 + 36 * j) st.bias
              have ht2 := Puny.thr_le (36 + 36 * j) st.bias
              have hle : x + rn L j * y ≤ st.i + d := by
                by_cases hl : j + 1 = L.length
                · have := vstep_last st.bias L j x y _ hl hxy; omega
                · have := vstep_more st.bias L j x y _ (by omega) hxy; omega
              have hprod : (rn L j : Int) * (y : Int) = ((rn L j * y : Nat) : Int) := (Int.natCast_mul _ _).symm
              have HLAST : Hid (j + 1 = L.length → x + rn L j * y = st.i + d) := fun hl => vstep_last st.bias L j x y _ hl hxy
              have HMORE : Hid (j + 1 < L.length → (x + rn L j * y) + y * (36 - Puny.thr (36 + 36 * j) st.bias) * Puny.val st.bias (36 + 36 * (j + 1)) (L.drop (j + 1)) = st.i + d) := fun hl => vstep_more st.bias L j x y _ hl hxy
              clear hxy
              have hdv : decide ((36028797018963967 - (x : Int)) / (y : Int) < (rn L j : Int)) = false := by
                apply decide_eq_false
                have h2 : (rn L j : Int) ≤ (36028797018963967 - (x : Int)) / (y : Int) := by
                  rw [Int.le_ediv_iff_mul_le (by omega), hprod]
                  omega
                omega
              generalize hpos : Q.length + j = pos at *
              have HPOS : Hid (Q.length + j = pos) := hpos
              have hposl : pos < S.length := by omega
              clear hpos
              generalize hkk : 36 + 36 * j = kk at *
              have HKK : Hid (36 + 36 * j = kk) := hkk
              have hkk1 : 36 ≤ kk := by omega
              have hkk2 : kk ≤ 4611686018427387904 := by omega
              clear hkk
              go_wp2_with fail
              refine (zzdigit_calls (rn L j) g1' _).mono ?_
              rintro e w2 ⟨rfl, rfl⟩
              generalize hpr : rn L j * y = pr at *
              have HPR : Hid (rn L j * y = pr) := hpr
              clear hpr
              go_wp2_with fail
              refine (zzthr_calls kk st.bias hkk1 hkk2 _).mono ?_
              rintro e w2 ⟨rfl, rfl⟩
              by_cases hl : j + 1 = L.length
              · have hlt2 := g2'.1 hl
                have HT : Hid (x + pr = st.i + d) := HLAST.out hl
                have hpx : Q.length + L.length = pos + 1 := by have := HPOS.out; omega
                have HPX : Hid (pos + 1 = Q.length + L.length) := hpx.symm
                clear g2' HLAST HMORE hdv hpx
                go_wp2_with fail
                clear hlt2 hixj hle hprod hj HJ
                generalize htt : st.i + d = tot at *
                have HTOT : Hid (st.i + d = tot) := htt
                rw [show (x : Int) + (pr : Int) = (tot : Int) from by have := HT.out; omega]
                refine (zzadapt_at d (st.out.length + 1) _ _ st.first _ (by omega) (by omega) (by omega) (by omega) (by omega)).mono ?_
                rintro e w2 ⟨rfl, rfl⟩
                clear htt HT
                have hn2 : st.n + tot / (st.out.length + 1) ≤ 1114111 := by have := v3; unfold decStep at this; simp only [] at this; rw [HTOT.out] at this; exact this
                have HS1 : Hid ((decStep st d).n = st.n + tot / (st.out.length + 1)) := by unfold Hid decStep; simp only []; rw [HTOT.out]
                have HS2 : Hid ((decStep st d).i = tot % (st.out.length + 1) + 1) := by unfold Hid decStep; simp only []; rw [HTOT.out]
                have HS3 : Hid ((decStep st d).out = Puny.insertAt st.out (tot % (st.out.length + 1)) (st.n + tot / (st.out.length + 1))) := by unfold Hid decStep; simp only []; rw [HTOT.out]
                have HS4 : Hid ((decStep st d).out.length = st.out.length + 1) := Puny.decStep_length st d
                have hrl : tot % (st.out.length + 1) ≤ st.out.length := by have := Nat.mod_lt tot (show 0 < st.out.length + 1 by omega); omega
                have hq : (tot : Int) / ((st.out.length : Int) + 1) = ((tot / (st.out.length + 1) : Nat) : Int) := by simp
                have hr : (tot : Int) % ((st.out.length : Int) + 1) = ((tot % (st.out.length + 1) : Nat) : Int) := by simp
                clear v3
                generalize tot / (st.out.length + 1) = q at *
                generalize tot % (st.out.length + 1) = r at *
                have HO1 : Hid (w2.ownsRow wo.heap.size 21 1 (.slice (some ⟨g, 0, none⟩) st.out.length cap) st.out.length (rcells st.out)) := by
                  have h5 := hOR; unfold OR at h5; rw [rcells_length] at h5; exact h5
                clear hOR
                go_wp2_with (at_builtin; refine wpList_append_own _ rfl _ _ 23 rfl wo.heap.size 21 i0 (.int .i32 0) 1 4 Try.underlying23 hi hz0 hz1 hz2 rfl (by decide) _ _ _ rfl (HO1.out.alloc _) ⟨w2.heap.size, 0, none⟩ 1 1 [.int .i32 0] rfl rfl ?c1 ?c2 ?c3 ?c4 ?c5 ?_)
                case c1 =>
                  intro i u hu
                  match i, hu with
                  | 0, hu => simp at hu; subst hu; simp [Addr.add]
                case c2 => intro u hu; simp at hu; subst hu; rfl
                case c3 => unfold maxLen; omega
                case c4 => omega
                case c5 => have := hbw.size; simp; omega
                intro v' w3 hown' hgrow _
                obtain ⟨g2, cap2, rfl, hl2, hOR2⟩ := OR_of hown'
                have HOR : Hid (OR wo.heap.size g2 cap2 (rcells st.out ++ [.int .i32 0]) w3) := hOR2
                have HBW : Hid (Below wo.heap.size wo w3) := (hbw.alloc hbw.size _).grown hgrow (by have := hbw.size; simp; omega) (fun k hk => (HO1.out.lt k hk).1)
                clear hown' hgrow hl2 hOR2 hbw HO1
                go_wp2_with fail
                go_loopg [19] st.out.length (fun gh x19 wx => ∃ (t : Nat) (u : Int), r ≤ t ∧ t ≤ st.out.length ∧ gh = t ∧ x19 = .int .i64 t ∧ OR wo.heap.size g2 cap2 (hole st.out t u) wx ∧ Below wo.heap.size wo wx)
                case atStart => exact ⟨st.out.length, 0, hrl, Nat.le_refl _, rfl, rfl, by rw [← hole_start]; exact HOR.out, HBW.out⟩
                case round =>
                  obtain ⟨t, u, hrt, hto, hgt, rfl, hOR5, hbw5⟩ := hrel
                  have HT5 : Hid (gk = t) := hgt
                  have H5 : Hid (OR wo.heap.size g2 cap2 (hole st.out t u) wr) := hOR5
                  have hlen5 := hole_length st.out t u hto
                  clear hgt HOR HBW
                  by_cases hrt2 : r < t
                  · obtain ⟨k, rfl⟩ : ∃ k, t = k + 1 := ⟨t - 1, by omega⟩
                    have ck := hOR5.cells k _ (hole_before st.out k u (by omega))
                    have ct := hOR5.cells (k + 1) _ (hole_at st.out (k + 1) u hto)
                    have fr := hOR5.free (k + 1)
                    clear hOR5
                    go_wp2_with fail
                    go_roundg k
                    case measure => rw [HT5.out]; omega
                    case rel =>
                      refine ⟨k, (rn st.out k : Nat), by omega, by omega, rfl, by go_num, ?_, hbw5.setCell (p := ⟨g2, k + 1, none⟩) H5.out.block.1 _⟩
                      rw [← hole_shift st.out k (by omega), ← hole_set st.out (k + 1) u _ hto]
                      exact H5.out.set (k + 1) _
                  · obtain rfl : t = r := by omega
                    have ct := hOR5.cells t _ (hole_at st.out t u hto)
                    have fr := hOR5.free t
                    clear hOR5
                    go_wp2_with fail
                    go_roundg D2.length
                    case measure => rw [HG.out]; simp
                    case rel =>
                      refine ⟨D1 ++ [d], D2, decStep st d, Q ++ Puny.enc 36 st.bias d, g2, cap2, rfl, HST.out, by rw [HS4.out], ?_, ?_, ?_, rfl, rfl, ?_, hbw5.setCell (p := ⟨g2, t, none⟩) H5.out.block.1 _⟩
                      · rw [HEL.out, ← HPX.out]; rfl
                      · rw [HS1.out]; rfl
                      · rw [HS2.out]; rfl
                      · rw [HS3.out, ← hole_fill, ← hole_set st.out t u _ hto]
                        exact H5.out.set t _
              · have hge : ¬ rn L j < Puny.thr kk st.bias := fun h => hl (g2'.2 h)
                have HM2 : Hid ((x + pr) + y * (36 - Puny.thr kk st.bias) * Puny.val st.bias (36 + 36 * (j + 1)) (L.drop (j + 1)) = st.i + d) := HMORE.out (by omega)
                have hypr : y ≤ pr := by
                  rw [← HPR.out]
                  exact Nat.le_mul_of_pos_left y (by omega)
                clear g2' HLAST HMORE hdv
                generalize Puny.thr kk st.bias = t at *
                have hwn : (y : Int) * (36 - (t : Int)) = ((y * (36 - t) : Nat) : Int) := by
                  rw [Int.natCast_mul, Int.ofNat_sub (show t ≤ 36 by omega)]; rfl
                have hwb : y * (36 - t) ≤ 1099511627776 := by
                  have h1 : y * (36 - t) ≤ 8589934592 * 36 := Nat.mul_le_mul (by omega) (by omega)
                  omega
                have hw1 : 1 ≤ y * (36 - t) := Nat.mul_pos (by omega) (by omega)
                have hdw : decide (36028797018963967 / (36 - (t : Int)) < (y : Int)) = false := by
                  apply decide_eq_false
                  have h2 : (y : Int) ≤ 36028797018963967 / (36 - (t : Int)) := by
                    rw [Int.le_ediv_iff_mul_le (by omega), hwn]
                    omega
                  omega
                generalize hyy : y * (36 - t) = y2 at *
                clear hyy
                go_wp2_with fail
                go_roundg (L.length - (j + 1))
                case measure => rw [HJ.out]; omega
                case rel =>
                  refine ⟨rfl, j + 1, x + pr, y2, by omega, rfl, ?_, by go_num, rfl, ?_, hw1, hwb, HM2.out⟩
                  · have := HPOS.out; congr 1; omega
                  · have := HKK.out; congr 1; omega
end Go.Proofs.Qxb6605285a
