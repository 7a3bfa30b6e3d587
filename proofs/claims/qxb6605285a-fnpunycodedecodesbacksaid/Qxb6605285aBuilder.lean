import Derived.Test.Qxb6605285aRows
import Derived.WalkKit
import Derived.ProofKit
import Derived.OpenShut
import Derived.Below
import Derived.WalkLawsBesides
import Derived.Deep.QuietTactic
import Derived.BigQuiet
import Derived.Deep.LoopGhost
import Derived.Shelf.Strings.BuilderK
namespace Go.Proofs.Qxb6605285a
open Go.Shelf
open Go.ChangeShapes Go.WideShapes Go.ChangeAt Go.RowKit

def lays170_ren : Go.Shelf.Ren := ⟨fun | 170 => 19 | n => n, fun | 70 => 34 | 3 => 3 | 0 => 0 | 72 => 37 | 37 => 35 | 5 => 5 | n => n, fun | n => n⟩

theorem lays170 : Go.Proofs.Lays.n170 Try.prog lays170_ren := {
  mixed := by kernel_rfl
  f170 := Try.func19.trans (congrArg some (by kernel_rfl))
  t0 := Try.underlying0
  a0 := Try.isAgg0
  z0 := Try.sizeOf0
  v0 := Try.zeroValue0
  t3 := Try.underlying3
  a3 := Try.isAgg3
  z3 := Try.sizeOf3
  v3 := Try.zeroValue3
  t37 := Try.underlying35
  a37 := Try.isAgg35
  z37 := Try.sizeOf35
  v37 := Try.zeroValue35
  t70 := Try.underlying34
  a70 := Try.isAgg34
  z70 := Try.sizeOf34
  v70 := Try.zeroValue34
  t72 := Try.underlying37
  a72 := Try.isAgg37
  z72 := Try.sizeOf37
  v72 := Try.zeroValue37 }

def lays169_ren : Go.Shelf.Ren := ⟨fun | 169 => 16 | n => n, fun | 70 => 34 | 9 => 9 | 0 => 0 | 72 => 37 | 37 => 35 | 127 => 47 | 3 => 3 | 5 => 5 | n => n, fun | n => n⟩

theorem lays169 : Go.Proofs.Lays.n169 Try.prog lays169_ren := {
  mixed := by kernel_rfl
  f169 := Try.func16.trans (congrArg some (by kernel_rfl))
  t0 := Try.underlying0
  a0 := Try.isAgg0
  z0 := Try.sizeOf0
  v0 := Try.zeroValue0
  t3 := Try.underlying3
  a3 := Try.isAgg3
  z3 := Try.sizeOf3
  v3 := Try.zeroValue3
  t9 := Try.underlying9
  a9 := Try.isAgg9
  z9 := Try.sizeOf9
  v9 := Try.zeroValue9
  t37 := Try.underlying35
  a37 := Try.isAgg35
  z37 := Try.sizeOf35
  v37 := Try.zeroValue35
  t70 := Try.underlying34
  a70 := Try.isAgg34
  z70 := Try.sizeOf34
  v70 := Try.zeroValue34
  t72 := Try.underlying37
  a72 := Try.isAgg37
  z72 := Try.sizeOf37
  v72 := Try.zeroValue37
  t127 := Try.underlying47
  a127 := Try.isAgg47
  z127 := Try.sizeOf47
  v127 := Try.zeroValue47 }

theorem Builder_Extra_169 : Builder.Extra Try.prog lays169_ren := {
  sizeBuilder := by kernel_rfl
  liesBuilder := by kernel_rfl
  t5 := Try.underlying5
  a5 := Try.isAgg5
  z5 := Try.sizeOf5
  v5 := Try.zeroValue5
  infoByte := by kernel_rfl
  cellsByte := by kernel_rfl
  sizeByte := by kernel_rfl
  neB5 := by decide }

theorem Builder_Len_f (B b : Nat) (bs : List Value) (w : World) (h : Lib.IsBuilderF 37 5 B b bs w) :
    Calls Try.prog 19 #[.pointer (some ⟨b, 0, none⟩)] w fun e w' => e = .returned (.int .i64 bs.length) ∧ w' = w := Any.Builder_Len_f lays170 B b bs w h

theorem Builder_String_any_k (B b : Nat) (l : List UInt8) (w : World) (h : Lib.IsBuilderF 37 5 B b (Lib.byteCells l) w) (hBw : B ≤ w.heap.size) :
    Calls Try.prog 16 #[.pointer (some ⟨b, 0, none⟩)] w fun e w' => e = .returned (.string ⟨l.toArray⟩) ∧ (Lib.IsBuilderF 37 5 B b (Lib.byteCells l) w' ∧ Below B w w' ∧ Lib.OthersKept 5 (some b) w w') := Any.Builder_String_any_k lays169 Builder_Extra_169 B b l w h hBw

/-! copyCheck, WriteByte at this dump (its copyCheck bears a refused statement in the place of the panic, so the shelf's body is another one: walked here) -/
set_option maxHeartbeats 1000000 in
set_option maxRecDepth 100000 in
theorem copyCheck_used (b : Nat) (w : World) (h0 : w.cell? ⟨b, 0, none⟩ = some (.pointer (some ⟨b, 0, none⟩))) :
    Calls Try.prog 22 #[.pointer (some ⟨b, 0, none⟩)] w fun e w' => e = .returned (.tuple #[]) ∧ w' = w := by
  obtain ⟨j, hj, _⟩ := Option.map_eq_some_iff.1 Builder_Extra_169.sizeBuilder
  have hj' : Try.prog.info? 37 = some j := hj
  go_enter Try.func22, Try.ntmps22
  go_wp2
  rw [Lib.run_neq_ptr_same w _ Try.underlying34 hj']
  go_wp2
  go_end0
  exact ⟨rfl, rfl⟩

theorem to_raw (w : World) {e : TypeId} {j : TypeInfo} {cells : Nat} (a : Addr) (ht : Try.prog.info? 37 = some j) (hj : j.size ≠ 0)
    (hsh : w.shape? a.block = some (e, cells)) (hoff : a.off < cells) :
    (convert 34 49 (.pointer (some a))).run Try.prog w = .ok (.pointer (some a)) w := by
  have hs := Try.underlying34
  have hd := Try.underlying49
  generalize Try.prog = P at *
  simp [convert, run_underlying hs, run_underlying hd]
  show Sem.run P (underlying 34 >>= _) w = _
  simp [run_underlying hs, run_underlying hd, Conv.seenAt, viewAt, cellsIn, hsh, sizeOf, typeInfo, ht, hj]
  intro h
  omega
theorem from_raw (w : World) {e : TypeId} {j : TypeInfo} {cells : Nat} (a : Addr) (hu : Try.prog.info? 37 = some j)
    (hsh : w.shape? a.block = some (e, cells)) (hlies : liesAt Try.prog Try.prog.depth e (cells / Try.prog.cellsOf e) a.off 37 1 = true) :
    (convert 49 34 (.pointer (some a))).run Try.prog w = .ok (.pointer (some a)) w := by
  have hs := Try.underlying49
  have hd := Try.underlying34
  generalize Try.prog = P at *
  simp [convert, run_underlying hs, run_underlying hd]
  show Sem.run P (underlying 49 >>= _) w = _
  simp [run_underlying hs, run_underlying hd, Conv.seenAt, viewAt, hsh, variablesAt, hlies, sizeOf, typeInfo, hu]

set_option maxHeartbeats 1000000 in
set_option maxRecDepth 100000 in
theorem copyCheck_fresh (b : Nat) (w : World) (h0 : w.cell? ⟨b, 0, none⟩ = some (.pointer none)) (hsh : w.shape? b = some (37, 2)) (hfz : w.frozen? ⟨b, 0, none⟩ = false) :
    Calls Try.prog 22 #[.pointer (some ⟨b, 0, none⟩)] w fun e w' => e = .returned (.tuple #[]) ∧ w' = w.setCell ⟨b, 0, none⟩ (.pointer (some ⟨b, 0, none⟩)) := by
  obtain ⟨j, hj, hjs⟩ := Option.map_eq_some_iff.1 Builder_Extra_169.sizeBuilder
  have hj' : Try.prog.info? 37 = some j := hj
  go_enter Try.func22, Try.ntmps22
  go_wp2
  rw [to_raw w ⟨b, 0, none⟩ hj' (by rw [hjs]; decide) hsh (Nat.zero_lt_succ 1)]
  simp only [Result.andThen]
  rw [Oper.upon_value]
  go_wp2
  rw [run_callFunc_extern Try.func24 (by kernel_rfl) (by kernel_rfl) (by kernel_rfl) (e := Extern.AbiNoEscape.same) (by kernel_rfl)]
  rw [Lib.run_noEscape]
  simp only [Result.andThen]
  rw [Oper.upon_value]
  go_wp2
  rw [from_raw w ⟨b, 0, none⟩ hj' hsh Builder_Extra_169.liesBuilder]
  simp only [Result.andThen]
  rw [Oper.upon_value]
  go_wp2
  go_end0
  exact ⟨rfl, rfl⟩

theorem copyCheck_k (B b : Nat) (bs : List Value) (w : World) (h : Lib.IsBuilderF 37 5 B b bs w) :
    Calls Try.prog 22 #[.pointer (some ⟨b, 0, none⟩)] w fun e w' => e = .returned (.tuple #[]) ∧ (Lib.BuilderAtF 37 5 B b (.pointer (some ⟨b, 0, none⟩)) bs w' ∧ Below B w w' ∧ Lib.OthersKept 5 (some b) w w') := by
  rcases h with h | h
  · refine (copyCheck_fresh b w h.cell0 h.shape h.frozen0).mono ?_
    rintro e w' ⟨rfl, rfl⟩
    exact ⟨rfl, h.used _, (Below.refl B w).setCell (p := ⟨b, 0, none⟩) h.1 _, (Lib.OthersKept.refl _ _ w).setCell ⟨b, 0, none⟩ rfl _⟩
  · refine (copyCheck_used b w h.cell0).mono ?_
    rintro e w' ⟨rfl, rfl⟩
    exact ⟨rfl, h, Below.refl B _, Lib.OthersKept.refl _ _ _⟩

set_option maxHeartbeats 2000000 in
set_option maxRecDepth 100000 in
theorem WriteByte_k (B b : Nat) (bs : List Value) (c : Int) (w : World) (h : Lib.IsBuilderF 37 5 B b bs w) (hlen : bs.length + 1 ≤ 140737488355328) (hBw : B ≤ w.heap.size) :
    Calls Try.prog 20 #[.pointer (some ⟨b, 0, none⟩), .int .u8 c] w fun e w' => e = .returned .nilIface ∧ (Lib.BuilderAtF 37 5 B b (.pointer (some ⟨b, 0, none⟩)) (bs ++ [.int .u8 c]) w' ∧ Below B w w' ∧ Lib.OthersKept 5 (some b) w w') := by
  obtain ⟨i0, hi, hz0, hz1, hz2⟩ := info_parts Builder_Extra_169.infoByte
  have hi' : Try.prog.info? 5 = some i0 := hi
  clear hi
  go_enter Try.func20, Try.ntmps20
  go_wp2_with (go_at_call 22; refine (copyCheck_k B b bs _ h).mono ?_)
  rintro e w1 ⟨rfl, h1, hb1, hk1⟩
  obtain ⟨hB, v, hbk, hown, hne⟩ := h1
  have c0 : w1.cell? ⟨b, 0, none⟩ = some (.pointer (some ⟨b, 0, none⟩)) := by rw [Lib.cell_of_heap hbk]; rfl
  have c1 : w1.cell? ⟨b, 1, none⟩ = some v := by rw [Lib.cell_of_heap hbk]; rfl
  go_wp2_with (at_builtin; refine wpList_append_ownF _ rfl _ _ 35 rfl B 5 i0 (.int .u8 0) 1 1 Try.underlying35 hi' hz0 hz1 hz2 rfl (by decide) _ _ _ rfl (hown.alloc _) ⟨w1.heap.size, 0, none⟩ 1 1 [.int .u8 c] rfl rfl ?c1 ?c2 ?c3 ?c4 ?c5 ?_)
  case c1 =>
    intro j u hj
    match j, hj with
    | 0, hj => simp at hj; subst hj; simp [Addr.add]
  case c2 => intro u hu; simp at hu; subst hu; rfl
  case c3 => unfold maxLen; omega
  case c4 => omega
  case c5 => have := hb1.size; simp; omega
  intro v' w2 hown' hgrow _
  have hlt : b < w1.heap.size := by
    rcases Nat.lt_or_ge b w1.heap.size with h' | h'
    · exact h'
    · simp [Array.getElem?_eq_none h'] at hbk
  have hb2 : w2.heap[b]? = some (.cells #[.pointer (some ⟨b, 0, none⟩), v] 37 (0, 0)) := by
    rw [hgrow.block b (by simp; omega) (fun e => hne e.symm), Lib.alloc_old w1 _ b hlt]
    exact hbk
  have d0 : w2.cell? ⟨b, 0, none⟩ = some (.pointer (some ⟨b, 0, none⟩)) := by rw [Lib.cell_of_heap hb2]; rfl
  have d1 : w2.cell? ⟨b, 1, none⟩ = some v := by rw [Lib.cell_of_heap hb2]; rfl
  have f1 : w2.frozen? ⟨b, 1, none⟩ = false := Lib.frozen_of_heap hb2 1
  obtain ⟨g, cap, rfl⟩ : ∃ g cap, v' = .slice (some ⟨g, 0, none⟩) (bs.length + 1) cap := by
    rcases hown'.2 with ⟨_, h0⟩ | ⟨g, cap, cur, fz, hv, _⟩
    · omega
    · exact ⟨g, cap, hv⟩
  go_wp2
  go_ret
  refine ⟨rfl, ?_, ?_, ((hk1.alloc _).grown hgrow (Lib.ownsRowF_kind (hown.alloc _))).setCell ⟨b, 1, none⟩ rfl _⟩
  · exact Lib.BuilderAtF.put (T := 37) (e := 5) hB hb2 (bs' := bs ++ [.int .u8 c]) (by simpa using hown') (by decide)
  · exact ((hb1.alloc (by have := hb1.size; omega) _).grown hgrow (by have := hb1.size; simp; omega) (fun k hk => (hown.lt k hk).1)).setCell (p := ⟨b, 1, none⟩) hB _
end Go.Proofs.Qxb6605285a
