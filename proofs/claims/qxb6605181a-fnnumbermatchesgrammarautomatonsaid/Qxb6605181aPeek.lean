import Derived.Test.Qxb6605181aRows
import Derived.WalkKit
import Derived.ProofKit
import Derived.OpenShut
import Derived.ShutString
import Derived.Below
import Derived.WalkLawsBesides
import Derived.Deep.QuietTactic
import Derived.BigQuiet
import Derived.Deep.LoopGhost
import Derived.Laws.IdiomStrings
namespace Go.Proofs.Qxb6605181a
open Go.ChangeShapes Go.WideShapes Go.ChangeAt Go.RowKit

def isWs (c : UInt8) : Bool := c == 32 || c == 9 || c == 10 || c == 13
def wsLen : List UInt8 → Nat
  | [] => 0
  | c :: t => if isWs c then wsLen t + 1 else 0

/-- the byte at k, 0 past the end -/
def byteAt (s : ByteArray) (k : Nat) : Nat := (s.data.toList.getD k 0).toNat
def pkEnd (s : ByteArray) (i : Nat) : Nat := i + wsLen (s.data.toList.drop i)

theorem idx (s : ByteArray) (k : Nat) (h : k < s.size) (w : World) :
    (Instr.index 9 (.string s) (.int .i64 k)).run Try.prog w = .ok (.int .u8 (byteAt s k : Nat)) w := by
  rw [run_index_string w 9 s .i64 _ Try.underlying9, dif_pos ⟨by omega, by omega⟩]
  have hm' : k < s.data.size := h
  have : s[(k : Int).toNat]'(by omega) = s.data.toList.getD k 0 := by
    simp only [Int.toNat_natCast, List.getD_eq_getElem?_getD, Array.getElem?_toList]
    rw [Array.getElem?_eq_getElem hm']; rfl
  rw [this]; rfl

theorem drop_at (s : ByteArray) (k : Nat) (h : k < s.size) : s.data.toList.drop k = s.data.toList.getD k 0 :: s.data.toList.drop (k + 1) := by
  have h' : k < s.data.toList.length := by simpa using h
  rw [List.drop_eq_getElem_cons h']
  have e : s.data.toList.getD k 0 = s.data.toList[k] := by
    rw [List.getD_eq_getElem?_getD, List.getElem?_eq_getElem h']; rfl
  rw [e]

theorem isWs_iff (s : ByteArray) (k : Nat) : isWs (s.data.toList.getD k 0) = true ↔ byteAt s k = 32 ∨ byteAt s k = 9 ∨ byteAt s k = 10 ∨ byteAt s k = 13 := by
  unfold isWs byteAt
  generalize s.data.toList.getD k 0 = c
  simp only [Bool.or_eq_true, beq_iff_eq, ← UInt8.toNat_inj]
  simp; omega

theorem pkEnd_ws (s : ByteArray) (k : Nat) (h : k < s.size) (hw : byteAt s k = 32 ∨ byteAt s k = 9 ∨ byteAt s k = 10 ∨ byteAt s k = 13) : pkEnd s (k + 1) = pkEnd s k := by
  unfold pkEnd
  rw [drop_at s k h, wsLen, if_pos ((isWs_iff s k).2 hw)]; omega

theorem pkEnd_no (s : ByteArray) (k : Nat) (h : k < s.size) (hw : ¬ (byteAt s k = 32 ∨ byteAt s k = 9 ∨ byteAt s k = 10 ∨ byteAt s k = 13)) : pkEnd s k = k := by
  unfold pkEnd
  rw [drop_at s k h, wsLen, if_neg (fun e => hw ((isWs_iff s k).1 e))]; omega

theorem pkEnd_out (s : ByteArray) (k : Nat) (h : ¬ k < s.size) : pkEnd s k = k ∧ byteAt s k = 0 := by
  have h' : s.data.toList.length ≤ k := by simp; have : s.data.size = s.size := rfl; omega
  constructor
  · unfold pkEnd; rw [List.drop_of_length_le h', wsLen]; omega
  · unfold byteAt; rw [List.getD_eq_getElem?_getD, List.getElem?_eq_none h']; rfl

/-- the scanner in block b -/
structure Sc (b : Nat) (s : ByteArray) (i d : Int) (w : World) : Prop where
  c0 : w.cell? ⟨b, 0, none⟩ = some (.string s)
  c1 : w.cell? ⟨b, 1, none⟩ = some (.int .i64 i)
  c2 : w.cell? ⟨b, 2, none⟩ = some (.int .i64 d)
  f1 : w.frozen? ⟨b, 1, none⟩ = false

theorem Sc.drewN {b : Nat} {s : ByteArray} {i d : Int} {w : World} (h : Sc b s i d w) (n : Nat) : Sc b s i d (w.drewN n) := ⟨h.c0, h.c1, h.c2, h.f1⟩

theorem Sc.setI {b : Nat} {s : ByteArray} {i d : Int} {w : World} (h : Sc b s i d w) (j : Int) : Sc b s j d (w.setCell ⟨b, 1, none⟩ (.int .i64 j)) :=
  ⟨(World.cell?_setCell_other _ _ _ _ (by simp)).trans h.c0, World.cell?_setCell_same _ _ _ h.c1, (World.cell?_setCell_other _ _ _ _ (by simp)).trans h.c2, (World.frozen?_setCell _ _ _ _).trans h.f1⟩

theorem sc_new (s : ByteArray) (i d : Int) (w : World) : Sc w.heap.size s i d (w.alloc (.cells #[.string s, .int .i64 i, .int .i64 d] 39)) :=
  ⟨World.cell?_alloc_mark _ _ _ _ _, World.cell?_alloc_mark _ _ _ _ _, World.cell?_alloc_mark _ _ _ _ _, by rw [frozen?_alloc_cells]; simp [World.frozen?]⟩


set_option maxHeartbeats 400000 in
theorem peek_calls (s : ByteArray) (hm : s.size ≤ maxLen) (b i : Nat) (d : Int) (w : World) (h : Sc b s i d w) :
    Calls Try.prog 20 #[.pointer (some ⟨b, 0, none⟩)] w fun e w' => e = .returned (.int .u8 (byteAt s (pkEnd s i) : Nat)) ∧ Sc b s (pkEnd s i : Nat) d w' ∧ Below b w w' := by
  unfold maxLen at hm
  go_enter Try.func20, Try.ntmps20
  go_wp2
  go_loopg [] (s.size - i) (fun g wr => ∃ k : Nat, pkEnd s k = pkEnd s i ∧ g = s.size - k ∧ Sc b s k d wr ∧ Below b w wr)
  case atStart => exact ⟨i, rfl, rfl, h, Below.refl _ _⟩
  case round =>
    obtain ⟨k, hk, rfl, hsc, hbw⟩ := hrel
    have K : Hid (pkEnd s k = pkEnd s i) := hk
    have S : Hid (Sc b s k d wr) := hsc
    clear hk h
    obtain ⟨c0, c1, c2, f1⟩ := hsc
    by_cases hlt : k < s.size
    · have hix := idx s k hlt
      by_cases hws : byteAt s k = 32 ∨ byteAt s k = 9 ∨ byteAt s k = 10 ∨ byteAt s k = 13
      · have E : Hid (pkEnd s (k + 1) = pkEnd s i) := (pkEnd_ws s k hlt hws).trans K.out
        clear K
        generalize byteAt s k = n at *
        rcases hws with rfl | rfl | rfl | rfl
        all_goals
          go_wp2
          go_quiet (fail)
          go_wp2
          go_quiet (fail)
          go_wp2
          go_roundg (s.size - (k + 1))
          case measure => omega
          case rel =>
            refine ⟨k + 1, E.out, rfl, ?_, ?_⟩
            · exact ((S.out.setI _).drewN _)
            · exact below_drewN (hbw.setCell (Nat.le_refl _) _) _
      · have E : Hid (pkEnd s i = k) := K.out.symm.trans (pkEnd_no s k hlt hws)
        clear K
        have e1 : ((byteAt s k : Int) == 32) = false := beq_eq_false_iff_ne.2 (by omega)
        have e2 : ((byteAt s k : Int) == 9) = false := beq_eq_false_iff_ne.2 (by omega)
        have e3 : ((byteAt s k : Int) == 10) = false := beq_eq_false_iff_ne.2 (by omega)
        have e4 : ((byteAt s k : Int) == 13) = false := beq_eq_false_iff_ne.2 (by omega)
        clear hws
        go_wp2
        go_quiet (fail)
        go_wp2
        go_quiet (fail)
        go_wp2
        go_ret
        rw [E.out]
        exact ⟨rfl, S.out.drewN _, below_drewN hbw _⟩
    · have E : Hid (pkEnd s i = k) := K.out.symm.trans (pkEnd_out s k hlt).1
      have B : Hid (byteAt s k = 0) := (pkEnd_out s k hlt).2
      clear K
      go_wp2
      go_quiet (fail)
      go_wp2
      go_ret
      rw [E.out, B.out]
      exact ⟨rfl, S.out.drewN _, below_drewN hbw _⟩

set_option maxHeartbeats 400000 in
theorem zzpeek_calls (s : ByteArray) (hm : s.size ≤ maxLen) (i : Nat) (d : Int) (w : World) :
    Calls Try.prog 13 #[.string s, .int .i64 i, .int .i64 d] w fun e w' => e = .returned (.tuple #[.int .u8 (byteAt s (pkEnd s i) : Nat), .string s, .int .i64 (pkEnd s i : Nat), .int .i64 d]) ∧ Below w.heap.size w w' := by
  go_enter Try.func13, Try.ntmps13
  go_wp2_with fail
  refine (peek_calls s hm w.heap.size i d _ (sc_new s i d w)).mono ?_
  rintro e w1 ⟨rfl, ⟨c0, c1, c2, f1⟩, hb⟩
  clear f1
  go_wp2
  go_quiet (fail)
  go_wp2
  refine bodyPost_ret (v := .tuple #[.int .u8 (byteAt s (pkEnd s i) : Nat), .string s, .int .i64 (pkEnd s i : Nat), .int .i64 d]) (by simp [results, Try.results13, go_sem]) rfl ⟨rfl, ?_⟩
  exact below_drewN (((Below.refl _ _).alloc (Nat.le_refl _) _).trans hb) _

theorem pkEnd_le (s : ByteArray) (i : Nat) (h : i < s.size) : i ≤ pkEnd s i ∧ pkEnd s i ≤ s.size := by
  have h1 : ∀ l : List UInt8, wsLen l ≤ l.length := by
    intro l
    induction l with
    | nil => simp [wsLen]
    | cons c t ih => simp only [wsLen]; split <;> simp <;> omega
  have := h1 (s.data.toList.drop i)
  simp at this
  have e : s.data.size = s.size := rfl
  unfold pkEnd; omega

theorem pkEnd_mid (s : ByteArray) (k : Nat) : ∀ (n i : Nat), i + n = k → k < pkEnd s i → byteAt s k = 32 ∨ byteAt s k = 9 ∨ byteAt s k = 10 ∨ byteAt s k = 13
  | n, i, h1, h2 => by
    by_cases hk : i < s.size
    · by_cases hw : byteAt s i = 32 ∨ byteAt s i = 9 ∨ byteAt s i = 10 ∨ byteAt s i = 13
      · cases n with
        | zero => obtain rfl : i = k := by omega
                  exact hw
        | succ n => exact pkEnd_mid s k n (i + 1) (by omega) (by rw [pkEnd_ws s i hk hw]; exact h2)
      · rw [pkEnd_no s i hk hw] at h2; omega
    · rw [(pkEnd_out s i hk).1] at h2; omega

theorem pkEnd_idem (s : ByteArray) : ∀ (n i : Nat), pkEnd s i = i + n → pkEnd s (i + n) = i + n
  | n, i, h => by
    cases n with
    | zero => exact h
    | succ n =>
      by_cases hk : i < s.size
      · by_cases hw : byteAt s i = 32 ∨ byteAt s i = 9 ∨ byteAt s i = 10 ∨ byteAt s i = 13
        · have e := pkEnd_ws s i hk hw
          have := pkEnd_idem s n (i + 1) (by omega)
          rw [show i + (n + 1) = i + 1 + n from by omega]; exact this
        · rw [pkEnd_no s i hk hw] at h; omega
      · rw [(pkEnd_out s i hk).1] at h; omega

theorem pkEnd_stop (s : ByteArray) (i : Nat) (h : pkEnd s i < s.size) : ¬ (byteAt s (pkEnd s i) = 32 ∨ byteAt s (pkEnd s i) = 9 ∨ byteAt s (pkEnd s i) = 10 ∨ byteAt s (pkEnd s i) = 13) := by
  intro hw
  have e := pkEnd_ws s _ h hw
  have h0 : i ≤ pkEnd s i := by unfold pkEnd; omega
  obtain ⟨n, hn⟩ : ∃ n, pkEnd s i = i + n := ⟨pkEnd s i - i, by omega⟩
  have h1 := pkEnd_idem s n i hn
  rw [hn, h1] at e
  have h2 : i + n + 1 ≤ pkEnd s (i + n + 1) := by unfold pkEnd; omega
  omega

theorem isspace_yes (n : Nat) (h : n = 32 ∨ n = 9 ∨ n = 10 ∨ n = 13) (w : World) : Calls Try.prog 14 #[.int .u8 n] w fun e w' => e = .returned (.bool true) ∧ w' = w := by
  rcases h with rfl | rfl | rfl | rfl
  all_goals
    go_enter Try.func14, Try.ntmps14
    go_wp2
    go_ret
    exact ⟨rfl, rfl⟩

theorem isspace_no (n : Nat) (h : ¬ (n = 32 ∨ n = 9 ∨ n = 10 ∨ n = 13)) (w : World) : Calls Try.prog 14 #[.int .u8 n] w fun e w' => e = .returned (.bool false) ∧ w' = w := by
  have e1 : ((n : Int) == 32) = false := beq_eq_false_iff_ne.2 (by omega)
  have e2 : ((n : Int) == 9) = false := beq_eq_false_iff_ne.2 (by omega)
  have e3 : ((n : Int) == 10) = false := beq_eq_false_iff_ne.2 (by omega)
  have e4 : ((n : Int) == 13) = false := beq_eq_false_iff_ne.2 (by omega)
  clear h
  go_enter Try.func14, Try.ntmps14
  go_wp2
  go_ret
  exact ⟨rfl, rfl⟩

end Go.Proofs.Qxb6605181a
