import Derived.Test.Qxb6003629aRows
import Derived.WalkKit
import Derived.ProofKit
import Derived.OpenShut
import Derived.Below
import Derived.WalkLawsBesides
import Derived.Deep.QuietTactic
import Derived.BigQuiet
import Derived.Deep.LoopGhost
import Derived.Deep.RegionWith
import Derived.BigRegion
import Derived.Test.Qxb6003629aCols
namespace Go.Proofs.Qxb6003629a
open Go.ChangeShapes Go.WideShapes Go.ChangeAt Go.RowKit

/-- the byte at place i -/
def zn (Z : List Nat) (i : Nat) : Nat := Z.getD i 0
/-- what 'at' answers -/
def atB (Z : List Nat) (nb : Bool) (i : Nat) : Nat := if i < Z.length then zn Z i else if nb then 255 else 0

/-- nothing but block c has turned -/
structure OnlyAt (c : Nat) (w w' : World) : Prop where
  os : w'.os = w.os
  tape : w'.tape = w.tape
  output : w'.output = w.output
  size : w'.heap.size = w.heap.size
  block : ∀ k, k ≠ c → w'.heap[k]? = w.heap[k]?

theorem OnlyAt.refl (c : Nat) (w : World) : OnlyAt c w w := ⟨rfl, rfl, rfl, rfl, fun _ _ => rfl⟩
theorem OnlyAt.trans {c : Nat} {a b d : World} (h : OnlyAt c a b) (k : OnlyAt c b d) : OnlyAt c a d :=
  ⟨k.os.trans h.os, k.tape.trans h.tape, k.output.trans h.output, k.size.trans h.size, fun i hi => (k.block i hi).trans (h.block i hi)⟩
theorem OnlyAt.drewN {c : Nat} {a w : World} (h : OnlyAt c a w) (n : Nat) : OnlyAt c a (w.drewN n) := ⟨h.os, h.tape, h.output, h.size, h.block⟩
theorem OnlyAt.setCell {c : Nat} {a w : World} (h : OnlyAt c a w) (j : Nat) (v : Value) : OnlyAt c a (w.setCell ⟨c, j, none⟩ v) :=
  h.trans ⟨rfl, rfl, rfl, by simp [World.setCell], fun k hk => Below.heap_setCell _ _ _ _ hk⟩
theorem OnlyAt.below {c B : Nat} {a w : World} (h : OnlyAt c a w) (hB : B ≤ c) : Below B a w :=
  ⟨h.os, h.tape, h.output, by rw [h.size]; exact Nat.le_refl _, fun k hk => h.block k (by omega)⟩
theorem OnlyAt.cell {c : Nat} {a w : World} (h : OnlyAt c a w) (k j : Nat) (hk : k ≠ c) : w.cell? ⟨k, j, none⟩ = a.cell? ⟨k, j, none⟩ :=
  World.cell?_of_block (h.block k hk)

/-- the cursor in block c, its tail in block t, the line's bytes Z behind the slice a, n, cap -/
structure Cur (c t : Nat) (a : Option Addr) (n cap : Nat) (Z : List Nat) (nb : Bool) (pos col fns fnc ind : Int) (bl : Bool) (w : World) : Prop where
  l : w.cell? ⟨c, 0, none⟩ = some (.slice a n cap)
  tl : w.cell? ⟨c, 1, none⟩ = some (.pointer (some ⟨t, 0, none⟩))
  p : w.cell? ⟨c, 2, none⟩ = some (.int .i64 pos)
  q : w.cell? ⟨c, 3, none⟩ = some (.int .i64 col)
  f : w.cell? ⟨c, 4, none⟩ = some (.int .i64 fns)
  g : w.cell? ⟨c, 5, none⟩ = some (.int .i64 fnc)
  i : w.cell? ⟨c, 6, none⟩ = some (.int .i64 ind)
  b : w.cell? ⟨c, 7, none⟩ = some (.bool bl)
  fr : ∀ j, w.frozen? ⟨c, j, none⟩ = false
  nb : w.cell? ⟨t, 6, none⟩ = some (.bool nb)
  ne : t ≠ c
  len : Z.length = n
  row : ∀ j, j < n → ∃ y, a = some ⟨y, 0, none⟩ ∧ y ≠ c ∧ w.cell? ⟨y, j, none⟩ = some (.int .u8 (zn Z j : Nat))

section
variable {c t : Nat} {a : Option Addr} {n cap : Nat} {Z : List Nat} {nb : Bool} {pos col fns fnc ind : Int} {bl : Bool} {w : World}

theorem Cur.drewN (h : Cur c t a n cap Z nb pos col fns fnc ind bl w) (m : Nat) : Cur c t a n cap Z nb pos col fns fnc ind bl (w.drewN m) :=
  ⟨h.l, h.tl, h.p, h.q, h.f, h.g, h.i, h.b, h.fr, h.nb, h.ne, h.len, h.row⟩

theorem setO (w : World) (c j k : Nat) (v : Value) (h : j ≠ k) : (w.setCell ⟨c, j, none⟩ v).cell? ⟨c, k, none⟩ = w.cell? ⟨c, k, none⟩ :=
  World.cell?_setCell_other _ _ _ _ (by intro e; injection e with _ e2; exact h e2)
theorem setB (w : World) (c d j k : Nat) (v : Value) (h : d ≠ c) : (w.setCell ⟨c, j, none⟩ v).cell? ⟨d, k, none⟩ = w.cell? ⟨d, k, none⟩ :=
  World.cell?_setCell_other _ _ _ _ (by intro e; injection e with e1; exact h e1.symm)

theorem Cur.setPos (h : Cur c t a n cap Z nb pos col fns fnc ind bl w) (x : Int) : Cur c t a n cap Z nb x col fns fnc ind bl (w.setCell ⟨c, 2, none⟩ (.int .i64 x)) :=
  ⟨(setO _ _ _ _ _ (by decide)).trans h.l, (setO _ _ _ _ _ (by decide)).trans h.tl, World.cell?_setCell_same _ _ _ h.p, (setO _ _ _ _ _ (by decide)).trans h.q, (setO _ _ _ _ _ (by decide)).trans h.f, (setO _ _ _ _ _ (by decide)).trans h.g, (setO _ _ _ _ _ (by decide)).trans h.i, (setO _ _ _ _ _ (by decide)).trans h.b,
    fun j => (World.frozen?_setCell _ _ _ _).trans (h.fr j), (setB _ _ _ _ _ _ h.ne).trans h.nb, h.ne, h.len, fun j hj => by obtain ⟨y, e, hy, hc⟩ := h.row j hj; exact ⟨y, e, hy, (setB _ _ _ _ _ _ hy).trans hc⟩⟩
theorem Cur.setCol (h : Cur c t a n cap Z nb pos col fns fnc ind bl w) (x : Int) : Cur c t a n cap Z nb pos x fns fnc ind bl (w.setCell ⟨c, 3, none⟩ (.int .i64 x)) :=
  ⟨(setO _ _ _ _ _ (by decide)).trans h.l, (setO _ _ _ _ _ (by decide)).trans h.tl, (setO _ _ _ _ _ (by decide)).trans h.p, World.cell?_setCell_same _ _ _ h.q, (setO _ _ _ _ _ (by decide)).trans h.f, (setO _ _ _ _ _ (by decide)).trans h.g, (setO _ _ _ _ _ (by decide)).trans h.i, (setO _ _ _ _ _ (by decide)).trans h.b,
    fun j => (World.frozen?_setCell _ _ _ _).trans (h.fr j), (setB _ _ _ _ _ _ h.ne).trans h.nb, h.ne, h.len, fun j hj => by obtain ⟨y, e, hy, hc⟩ := h.row j hj; exact ⟨y, e, hy, (setB _ _ _ _ _ _ hy).trans hc⟩⟩
theorem Cur.setFns (h : Cur c t a n cap Z nb pos col fns fnc ind bl w) (x : Int) : Cur c t a n cap Z nb pos col x fnc ind bl (w.setCell ⟨c, 4, none⟩ (.int .i64 x)) :=
  ⟨(setO _ _ _ _ _ (by decide)).trans h.l, (setO _ _ _ _ _ (by decide)).trans h.tl, (setO _ _ _ _ _ (by decide)).trans h.p, (setO _ _ _ _ _ (by decide)).trans h.q, World.cell?_setCell_same _ _ _ h.f, (setO _ _ _ _ _ (by decide)).trans h.g, (setO _ _ _ _ _ (by decide)).trans h.i, (setO _ _ _ _ _ (by decide)).trans h.b,
    fun j => (World.frozen?_setCell _ _ _ _).trans (h.fr j), (setB _ _ _ _ _ _ h.ne).trans h.nb, h.ne, h.len, fun j hj => by obtain ⟨y, e, hy, hc⟩ := h.row j hj; exact ⟨y, e, hy, (setB _ _ _ _ _ _ hy).trans hc⟩⟩
theorem Cur.setFnc (h : Cur c t a n cap Z nb pos col fns fnc ind bl w) (x : Int) : Cur c t a n cap Z nb pos col fns x ind bl (w.setCell ⟨c, 5, none⟩ (.int .i64 x)) :=
  ⟨(setO _ _ _ _ _ (by decide)).trans h.l, (setO _ _ _ _ _ (by decide)).trans h.tl, (setO _ _ _ _ _ (by decide)).trans h.p, (setO _ _ _ _ _ (by decide)).trans h.q, (setO _ _ _ _ _ (by decide)).trans h.f, World.cell?_setCell_same _ _ _ h.g, (setO _ _ _ _ _ (by decide)).trans h.i, (setO _ _ _ _ _ (by decide)).trans h.b,
    fun j => (World.frozen?_setCell _ _ _ _).trans (h.fr j), (setB _ _ _ _ _ _ h.ne).trans h.nb, h.ne, h.len, fun j hj => by obtain ⟨y, e, hy, hc⟩ := h.row j hj; exact ⟨y, e, hy, (setB _ _ _ _ _ _ hy).trans hc⟩⟩
theorem Cur.setInd (h : Cur c t a n cap Z nb pos col fns fnc ind bl w) (x : Int) : Cur c t a n cap Z nb pos col fns fnc x bl (w.setCell ⟨c, 6, none⟩ (.int .i64 x)) :=
  ⟨(setO _ _ _ _ _ (by decide)).trans h.l, (setO _ _ _ _ _ (by decide)).trans h.tl, (setO _ _ _ _ _ (by decide)).trans h.p, (setO _ _ _ _ _ (by decide)).trans h.q, (setO _ _ _ _ _ (by decide)).trans h.f, (setO _ _ _ _ _ (by decide)).trans h.g, World.cell?_setCell_same _ _ _ h.i, (setO _ _ _ _ _ (by decide)).trans h.b,
    fun j => (World.frozen?_setCell _ _ _ _).trans (h.fr j), (setB _ _ _ _ _ _ h.ne).trans h.nb, h.ne, h.len, fun j hj => by obtain ⟨y, e, hy, hc⟩ := h.row j hj; exact ⟨y, e, hy, (setB _ _ _ _ _ _ hy).trans hc⟩⟩
theorem Cur.setBl (h : Cur c t a n cap Z nb pos col fns fnc ind bl w) (x : Bool) : Cur c t a n cap Z nb pos col fns fnc ind x (w.setCell ⟨c, 7, none⟩ (.bool x)) :=
  ⟨(setO _ _ _ _ _ (by decide)).trans h.l, (setO _ _ _ _ _ (by decide)).trans h.tl, (setO _ _ _ _ _ (by decide)).trans h.p, (setO _ _ _ _ _ (by decide)).trans h.q, (setO _ _ _ _ _ (by decide)).trans h.f, (setO _ _ _ _ _ (by decide)).trans h.g, (setO _ _ _ _ _ (by decide)).trans h.i, World.cell?_setCell_same _ _ _ h.b,
    fun j => (World.frozen?_setCell _ _ _ _).trans (h.fr j), (setB _ _ _ _ _ _ h.ne).trans h.nb, h.ne, h.len, fun j hj => by obtain ⟨y, e, hy, hc⟩ := h.row j hj; exact ⟨y, e, hy, (setB _ _ _ _ _ _ hy).trans hc⟩⟩

set_option maxHeartbeats 400000 in
theorem at_calls (h : Cur c t a n cap Z nb pos col fns fnc ind bl w) (k : Nat) :
    Calls Try.prog 27 #[.pointer (some ⟨c, 0, none⟩), .int .i64 k] w fun e w' => e = .returned (.int .u8 (atB Z nb k : Nat)) ∧ w = w' := by
  have hl := h.l
  have htl := h.tl
  have hnb := h.nb
  have E : Hid (atB Z nb k = if k < n then zn Z k else if nb then 255 else 0) := by unfold Hid atB; rw [h.len]
  by_cases hk : k < n
  · obtain ⟨y, rfl, _, hc⟩ := h.row k hk
    have E2 : Hid (atB Z nb k = zn Z k) := E.out.trans (if_pos hk)
    clear h E
    go_enter Try.func27, Try.ntmps27
    go_wp2
    go_ret
    rw [E2.out]
    exact ⟨rfl, rfl⟩
  · have E2 : Hid (atB Z nb k = if nb then 255 else 0) := E.out.trans (if_neg hk)
    clear h E
    cases nb
    · go_enter Try.func27, Try.ntmps27
      go_wp2
      go_ret
      rw [E2.out]
      exact ⟨rfl, rfl⟩
    · go_enter Try.func27, Try.ntmps27
      go_wp2
      go_ret
      rw [E2.out]
      exact ⟨rfl, rfl⟩
end
end Go.Proofs.Qxb6003629a
