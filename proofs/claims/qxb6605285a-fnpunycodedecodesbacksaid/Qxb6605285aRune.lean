import Derived.Test.Qxb6605285aDelta
import Derived.Test.Qxb6605285aPuny
import Derived.Laws.IdiomStrings
namespace Go.Proofs.Qxb6605285a
open Go.Shelf
open Go.ChangeShapes Go.WideShapes Go.ChangeAt Go.RowKit

set_option maxHeartbeats 4000000 in
set_option maxRecDepth 100000 in
theorem AppendRune_ascii (B : Nat) (v : Value) (n : Nat) (xs : List Value) (r : Int) (h0 : 0 ≤ r) (h1 : r ≤ 127) (w : World) (hown : w.ownsRowF B 5 1 v n xs) (hlen : n + 4 ≤ 140737488355328) (hBw : B ≤ w.heap.size) :
    Calls Try.prog 23 #[v, .int .i32 r] w fun e w' => ∃ v', e = .returned v' ∧ w'.ownsRowF B 5 1 v' (n + 1) (xs ++ [.int .u8 r]) ∧ ∃ o, (w.alloc o).grownBy w' v.ownBlock := by
  obtain ⟨i0, hi, hz0, hz1, hz2⟩ := info_parts Builder_Extra_169.infoByte
  have hi' : Try.prog.info? 5 = some i0 := hi
  clear hi
  go_enter Try.func23, Try.ntmps23
  go_wp2_with (at_builtin; refine wpList_append_ownF _ rfl _ _ 35 rfl B 5 i0 (.int .u8 0) 1 1 Try.underlying35 hi' hz0 hz1 hz2 rfl (by decide) _ _ _ rfl (hown.alloc _) ⟨w.heap.size, 0, none⟩ 1 1 [.int .u8 r] rfl rfl ?c1 ?c2 ?c3 ?c4 ?c5 ?_)
  all_goals first
    | (intro v' w2 hown' hgrow _; go_wp2; go_ret; exact ⟨_, rfl, hown', _, hgrow⟩)
    | (unfold maxLen; omega)
    | omega
    | (simp; omega)
    | rfl
    | (intro u hu; simp at hu; subst hu; rfl)
    | (intro j u hj
       match j, hj with
       | 0, hj => simp at hj; subst hj; simp [Addr.add]
       | (j + 1), hj => simp at hj)

set_option maxHeartbeats 4000000 in
set_option maxRecDepth 100000 in
theorem WriteRune_ascii (B b : Nat) (bs : List Value) (r : Int) (hr0 : 0 ≤ r) (hr1 : r ≤ 127) (w : World) (h : Lib.IsBuilderF 37 5 B b bs w) (hlen : bs.length + 4 ≤ 140737488355328) (hBw : B ≤ w.heap.size) :
    Calls Try.prog 18 #[.pointer (some ⟨b, 0, none⟩), .int .i32 r] w fun e w' => e = .returned (.tuple #[.int .i64 1, .nilIface]) ∧ (Lib.BuilderAtF 37 5 B b (.pointer (some ⟨b, 0, none⟩)) (bs ++ [.int .u8 r]) w' ∧ Below B w w' ∧ Lib.OthersKept 5 (some b) w w') := by
  go_enter Try.func18, Try.ntmps18
  go_wp2_with (go_at_call 22; refine (copyCheck_k B b bs _ h).mono ?_)
  rintro e w1 ⟨rfl, h1, hb1, hk1⟩
  obtain ⟨hB, v, hbk, hown, hne⟩ := h1
  obtain ⟨ao, cap, rfl⟩ : ∃ ao cap, v = .slice ao bs.length cap := by
    rcases hown.2 with ⟨hv, h0⟩ | ⟨g, cap, cur, fz, hv, _⟩
    · exact ⟨none, 0, by rw [hv, h0]⟩
    · exact ⟨_, _, hv⟩
  have c0 : w1.cell? ⟨b, 0, none⟩ = some (.pointer (some ⟨b, 0, none⟩)) := by rw [Lib.cell_of_heap hbk]; rfl
  have c1 : w1.cell? ⟨b, 1, none⟩ = some (.slice ao bs.length cap) := by rw [Lib.cell_of_heap hbk]; rfl
  go_wp2_with (go_at_call 23; refine (AppendRune_ascii B _ bs.length bs r hr0 hr1 _ hown hlen (by have := hb1.size; omega)).mono ?_)
  rintro e w2 ⟨v', rfl, hown', o, hgrow⟩
  have hlt : b < w1.heap.size := by
    rcases Nat.lt_or_ge b w1.heap.size with h' | h'
    · exact h'
    · simp [Array.getElem?_eq_none h'] at hbk
  have hb2 : w2.heap[b]? = some (.cells #[.pointer (some ⟨b, 0, none⟩), .slice ao bs.length cap] 37 (0, 0)) := by
    rw [hgrow.block b (by simp; omega) (fun e => hne e.symm), Lib.alloc_old w1 _ b hlt]
    exact hbk
  have d0 : w2.cell? ⟨b, 0, none⟩ = some (.pointer (some ⟨b, 0, none⟩)) := by rw [Lib.cell_of_heap hb2]; rfl
  have d1 : w2.cell? ⟨b, 1, none⟩ = some (.slice ao bs.length cap) := by rw [Lib.cell_of_heap hb2]; rfl
  have f1 : w2.frozen? ⟨b, 1, none⟩ = false := Lib.frozen_of_heap hb2 1
  obtain ⟨g, cap', rfl⟩ : ∃ g cap', v' = .slice (some ⟨g, 0, none⟩) (bs.length + 1) cap' := by
    rcases hown'.2 with ⟨_, h0⟩ | ⟨g, cap', cur, fz, hv, _⟩
    · omega
    · exact ⟨g, cap', hv⟩
  go_wp2
  go_ret2
  refine ⟨?_, ?_, ?_, ((hk1.alloc _).grown hgrow (Lib.ownsRowF_kind (hown.alloc _))).setCell ⟨b, 1, none⟩ rfl _⟩
  · have e : ((bs.length : Int) + 1 - (bs.length : Int)) = 1 := by omega
    simp [e]
  · exact Lib.BuilderAtF.put (T := 37) (e := 5) hB hb2 (bs' := bs ++ [.int .u8 r]) (by simpa using hown') (by decide)
  · exact ((hb1.alloc (by have := hb1.size; omega) _).grown hgrow (by have := hb1.size; simp; omega) (fun k hk => (hown.lt k hk).1)).setCell (p := ⟨b, 1, none⟩) hB _

/-! the runes of a string -/
def rcells (R : List Nat) : List Value := R.map (fun x : Nat => Value.int .i32 (x : Int))

theorem decode_max (s : ByteArray) (pos : Nat) : (Utf8.decode s pos).1 ≤ 1114111 := by
  have hb : ∀ k, (s.get! (pos + k)).toNat < 256 := fun k => (s.get! (pos + k)).toNat_lt
  have h0 := hb 0; have h1 := hb 1; have h2 := hb 2; have h3 := hb 3
  simp only [Utf8.decode]
  repeat' split
  all_goals simp_all [Utf8.runeError, Utf8.valid]
  all_goals omega

theorem runes_list (s : ByteArray) : ∀ (bound i : Nat) (acc : Array Value), ∃ R : List Nat, Conv.runesFrom s bound i acc = acc ++ (rcells R).toArray ∧ R.length ≤ bound ∧ ∀ x ∈ R, x ≤ 1114111
  | 0, _, acc => ⟨[], by simp [Conv.runesFrom, rcells], by simp, by simp⟩
  | bound + 1, i, acc => by
    unfold Conv.runesFrom
    split
    · obtain ⟨R, h1, h2, h3⟩ := runes_list s bound (i + (Utf8.decode s i).2) (acc.push (.int .i32 (Int.ofNat (Utf8.decode s i).1)))
      refine ⟨(Utf8.decode s i).1 :: R, ?_, by simp; omega, ?_⟩
      · simp only []
        rw [h1]
        simp [rcells]
      · intro x hx
        simp only [List.mem_cons] at hx
        rcases hx with rfl | hx
        · exact decode_max s i
        · exact h3 x hx
    · exact ⟨[], by simp [rcells], by simp, by simp⟩
end Go.Proofs.Qxb6605285a
