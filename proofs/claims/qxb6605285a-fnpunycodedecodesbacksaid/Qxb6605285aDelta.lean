import Derived.Test.Qxb6605285aBuilder
import Derived.Test.Qxb6605285aAdapt
import Derived.Test.Qxb6605285aVli
namespace Go.Proofs.Qxb6605285a
open Go.ChangeShapes Go.WideShapes Go.ChangeAt Go.RowKit

theorem digit_calls (d : Nat) (h : d < 36) (w : World) : Calls Try.prog 21 #[.int .i64 d] w fun e w' => e = .returned (.int .u8 ((Puny.chr d).toNat : Nat)) ∧ w' = w := by
  have C : Hid ((Puny.chr d).toNat = if d < 26 then 97 + d else 22 + d) := Puny.chr_toNat d h
  by_cases hd : d < 26
  · have C' : Hid ((Puny.chr d).toNat = 97 + d) := C.out.trans (if_pos hd)
    clear C
    go_enter Try.func21, Try.ntmps21
    go_wp2
    go_ret
    exact ⟨ret_int (by rw [C'.out]; simp; try omega), rfl⟩
  · have C' : Hid ((Puny.chr d).toNat = 22 + d) := C.out.trans (if_neg hd)
    clear C
    go_enter Try.func21, Try.ntmps21
    go_wp2
    go_ret
    exact ⟨ret_int (by rw [C'.out]; simp; try omega), rfl⟩

theorem byteCells_snoc (l : List UInt8) (c : UInt8) : Lib.byteCells (l ++ [c]) = Lib.byteCells l ++ [.int .u8 (c.toNat : Nat)] := by
  rw [Lib.byteCells_append]; rfl

theorem digit_at (x : Int) (d : Nat) (hx : x = (d : Int)) (h : d < 36) (w : World) : Calls Try.prog 21 #[.int .i64 x] w fun e w' => e = .returned (.int .u8 ((Puny.chr d).toNat : Nat)) ∧ w' = w := by
  subst hx; exact digit_calls d h w

theorem thr_int (k bias : Nat) : min (max ((k : Int) - (bias : Int)) 1) 26 = (Puny.thr k bias : Int) := by
  unfold Puny.thr
  split
  · omega
  · split <;> omega

theorem step_mod (q t : Nat) (h : t ≤ q) (h26 : t ≤ 26) : ((q : Int) - (t : Int)) % (36 - (t : Int)) = (((q - t) % (36 - t) : Nat) : Int) := by
  rw [Int.natCast_emod, Int.ofNat_sub h, Int.ofNat_sub (show t ≤ 36 by omega)]; rfl
theorem step_div (q t : Nat) (h : t ≤ q) (h26 : t ≤ 26) : ((q : Int) - (t : Int)) / (36 - (t : Int)) = (((q - t) / (36 - t) : Nat) : Int) := by
  rw [Int.natCast_ediv, Int.ofNat_sub h, Int.ofNat_sub (show t ≤ 36 by omega)]; rfl

set_option maxHeartbeats 400000 in
theorem writeDelta_calls (B b bias delta : Nat) (acc0 : List UInt8) (w : World) (h : Lib.IsBuilderF 37 5 B b (Lib.byteCells acc0) w) (hBw : B ≤ w.heap.size) (hacc : acc0.length ≤ 1099511627776)
    (hd : delta ≤ 9223372036854775807) (hb : bias ≤ 9223372036854775807) :
    Calls Try.prog 15 #[.pointer (some ⟨b, 0, none⟩), .int .i64 delta, .int .i64 bias] w fun e w' => e = .returned (.tuple #[]) ∧ Lib.IsBuilderF 37 5 B b (Lib.byteCells (acc0 ++ Puny.enc 36 bias delta)) w' ∧ Below B w w' ∧ Lib.OthersKept 5 (some b) w w' := by
  have hlen := Puny.enc_len 36 bias delta hd
  go_enter Try.func15, Try.ntmps15
  go_wp2
  go_loopg [6, 7] 21 (fun g x y wr => ∃ (q n : Nat) (acc : List UInt8), q ≤ delta ∧ x = .int .i64 q ∧ y = .int .i64 ((36 * (n + 1) : Nat) : Int) ∧ g = 21 - n ∧ acc.length = acc0.length + n ∧ acc ++ Puny.enc (36 * (n + 1)) bias q = acc0 ++ Puny.enc 36 bias delta ∧ Lib.IsBuilderF 37 5 B b (Lib.byteCells acc) wr ∧ Below B w wr ∧ Lib.OthersKept 5 (some b) w wr)
  case atStart => exact ⟨delta, 0, acc0, Nat.le_refl _, rfl, rfl, rfl, rfl, rfl, h, Below.refl _ _, Lib.OthersKept.refl _ _ _⟩
  case round =>
    obtain ⟨q, n, acc, hq, rfl, rfl, hg, hal, heq, hI, hbw, hok⟩ := hrel
    have hn : n ≤ 19 := by
      have h1 := congrArg List.length heq
      simp only [List.length_append] at h1
      have h2 : 1 ≤ (Puny.enc (36 * (n + 1)) bias q).length := by
        unfold Puny.enc; rw [List.length_map]
        exact List.length_pos_iff.2 (Puny.vli_ne _ _ _)
      omega
    have HG : Hid (gk = 21 - n) := hg
    have HL : Hid (acc.length = acc0.length + n) := hal
    have HE : Hid (acc ++ Puny.enc (36 * (n + 1)) bias q = acc0 ++ Puny.enc 36 bias delta) := heq
    clear hg hal heq h
    generalize hk : 36 * (n + 1) = k at *
    have HK : Hid (36 * (n + 1) = k) := hk
    obtain ⟨hk1, hk2⟩ : 36 ≤ k ∧ k ≤ 720 := by omega
    clear hk
    have ht := thr_int k bias
    have ht1 := Puny.thr_ge k bias
    have ht2 := Puny.thr_le k bias
    have hsz : B ≤ wr.heap.size := by have := hbw.size; omega
    by_cases hlt : q < Puny.thr k bias
    · have HF : Hid (acc ++ [Puny.chr q] = acc0 ++ Puny.enc 36 bias delta) := by have := HE.out; rw [Puny.enc_last k bias q hlt] at this; exact this
      clear HE
      generalize Puny.thr k bias = t at *
      go_wp2_with fail
      refine (digit_calls q (by omega) _).mono ?_
      rintro e w2 ⟨rfl, rfl⟩
      go_wp2_with fail
      refine (WriteByte_k B b _ _ _ hI (by rw [Lib.byteCells_length, HL.out]; omega) hsz).mono ?_
      rintro e w2 ⟨rfl, h1, b1, k1⟩
      go_wp2
      refine bodyPost_ret (v := .tuple #[]) (results_none Try.results15 _ _ _) rfl ⟨rfl, ?_, hbw.trans b1, hok.trans k1⟩
      rw [← HF.out, byteCells_snoc]
      exact Or.inr h1
    · have HF : Hid (acc ++ [Puny.chr (Puny.thr k bias + (q - Puny.thr k bias) % (36 - Puny.thr k bias))] ++ Puny.enc (k + 36) bias ((q - Puny.thr k bias) / (36 - Puny.thr k bias)) = acc0 ++ Puny.enc 36 bias delta) := by
        have := HE.out; rw [Puny.enc_more k bias q hlt] at this; unfold Hid; rw [← this]; simp
      have hdl := Puny.digit_lt q (Puny.thr k bias) ht1 ht2
      have hnx := Puny.next_lt q (Puny.thr k bias) ht1 ht2 hlt
      clear HE
      generalize Puny.thr k bias = t at *
      have hm := step_mod q t (by omega) ht2
      have hv := step_div q t (by omega) ht2
      go_wp2_with fail
      refine (digit_at _ (t + (q - t) % (36 - t)) (by omega) hdl _).mono ?_
      rintro e w2 ⟨rfl, rfl⟩
      go_wp2_with fail
      refine (WriteByte_k B b _ _ _ hI (by rw [Lib.byteCells_length, HL.out]; omega) hsz).mono ?_
      rintro e w2 ⟨rfl, h1, b1, k1⟩
      go_wp2
      go_roundg (21 - (n + 1))
      case measure => rw [HG.out]; omega
      case rel =>
        refine ⟨(q - t) / (36 - t), n + 1, acc ++ [Puny.chr (t + (q - t) % (36 - t))], by omega, by rw [hv], ?_, rfl, ?_, ?_, ?_, hbw.trans b1, hok.trans k1⟩
        · have := HK.out
          congr 1
          omega
        · rw [List.length_append, HL.out]; rfl
        · rw [show 36 * (n + 1 + 1) = k + 36 from by have := HK.out; omega]; exact HF.out
        · rw [byteCells_snoc]; exact Or.inr h1

theorem sizeList (l : List UInt8) : (⟨l.toArray⟩ : ByteArray).size = l.length := by
  show l.toArray.size = l.length; simp

set_option maxHeartbeats 400000 in
theorem zzwriteDelta_calls (bias delta : Nat) (w : World) (hd : delta ≤ 9223372036854775807) (hb : bias ≤ 9223372036854775807) :
    Calls Try.prog 9 #[.int .i64 delta, .int .i64 bias] w fun e w' => e = .returned (.string ⟨(Puny.enc 36 bias delta).toArray⟩) ∧ Below w.heap.size w w' := by
  go_enter Try.func9, Try.ntmps9
  go_wp2_with fail
  refine (writeDelta_calls w.heap.size w.heap.size bias delta [] _ (Lib.IsBuilderF.of (Lib.fresh_isBuilder 37 5 w)) (by simp) (by simp) hd hb).mono ?_
  rintro e w1 ⟨rfl, h1, b1, k1⟩
  go_wp2_with fail
  refine (Builder_String_any_k w.heap.size w.heap.size (Puny.enc 36 bias delta) _ h1 (by have := b1.size; simp at this; omega)).mono ?_
  rintro e w2 ⟨rfl, h2, b2, k2⟩
  go_wp2
  go_ret
  exact ⟨rfl, (((Below.refl _ _).alloc (Nat.le_refl _) _).trans b1).trans b2⟩

/-! zzDigit, zzThreshold -/
theorem zzdigit_calls (d : Nat) (h : d < 36) (w : World) : Calls Try.prog 10 #[.int .u8 ((Puny.chr d).toNat : Nat)] w fun e w' => e = .returned (.int .i64 (d : Nat)) ∧ w' = w := by
  rw [Puny.chr_toNat d h]
  by_cases hd : d < 26
  · rw [if_pos hd]
    go_enter Try.func10, Try.ntmps10
    go_wp2
    go_ret
    exact ⟨ret_int (by omega), rfl⟩
  · rw [if_neg hd]
    go_enter Try.func10, Try.ntmps10
    go_wp2
    go_ret
    exact ⟨ret_int (by omega), rfl⟩

theorem zzthr_calls (k bias : Nat) (h1 : 36 ≤ k) (h2 : k ≤ 4611686018427387904) (w : World) :
    Calls Try.prog 11 #[.int .i64 k, .int .i64 bias] w fun e w' => e = .returned (.int .i64 (Puny.thr k bias : Nat)) ∧ w' = w := by
  by_cases c1 : k ≤ bias + 1
  · have T : Hid (Puny.thr k bias = 1) := if_pos c1
    go_enter Try.func11, Try.ntmps11
    go_wp2
    go_ret
    exact ⟨ret_int (by rw [T.out]; rfl), rfl⟩
  · by_cases c2 : bias + 26 ≤ k
    · have T : Hid (Puny.thr k bias = 26) := (if_neg c1).trans (if_pos c2)
      go_enter Try.func11, Try.ntmps11
      go_wp2
      go_ret
      exact ⟨ret_int (by rw [T.out]; rfl), rfl⟩
    · have T : Hid (Puny.thr k bias = k - bias) := (if_neg c1).trans (if_neg c2)
      go_enter Try.func11, Try.ntmps11
      go_wp2
      go_ret
      exact ⟨ret_int (by rw [T.out]; omega), rfl⟩
end Go.Proofs.Qxb6605285a
