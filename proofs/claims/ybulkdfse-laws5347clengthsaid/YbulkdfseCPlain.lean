/-
  LawS5347CModel, LawS5347CLength: what lies in memory, told once; the plain functions.
-/
import Derived.Test.YbulkdfseRows
import Derived.WalkKit
import Derived.WalkSpells
import Derived.Deep.Upon
namespace Go.Proofs.Ybulkdfse.C
open Go.RowKit

/-! ### WHAT WAS THERE IS AS IT WAS ('Below' at the heap's own size, without the tape: 'Upon' says nothing of the tape) -/
structure Old (w w' : World) : Prop where
  os : w'.os = w.os
  output : w'.output = w.output
  size : w.heap.size ≤ w'.heap.size
  block : ∀ k, k < w.heap.size → w'.heap[k]? = w.heap[k]?

theorem Old.refl (w : World) : Old w w := ⟨rfl, rfl, Nat.le_refl _, fun _ _ => rfl⟩
theorem Old.trans {a b c : World} (h : Old a b) (k : Old b c) : Old a c :=
  ⟨k.os.trans h.os, k.output.trans h.output, Nat.le_trans h.size k.size, fun i hi => (k.block i (Nat.lt_of_lt_of_le hi h.size)).trans (h.block i hi)⟩
theorem Old.below {w w' : World} (h : Below w.heap.size w w') : Old w w' := ⟨h.os, h.output, h.size, h.block⟩
theorem Old.alloc {a w : World} (h : Old a w) (o : Obj) : Old a (w.alloc o) := h.trans (Old.below ((Below.refl _ w).alloc (Nat.le_refl _) o))
theorem Old.drew {a w : World} (h : Old a w) : Old a w.drew := ⟨h.os, h.output, h.size, h.block⟩
theorem Old.cell {w w' : World} (h : Old w w') {b o : Nat} (hb : b < w.heap.size) : w'.cell? ⟨b, o, none⟩ = w.cell? ⟨b, o, none⟩ := World.cell?_of_block (w := w) (a := ⟨b, o, none⟩) (h.block b hb)
theorem Old.frozen {w w' : World} (h : Old w w') {b o : Nat} (hb : b < w.heap.size) : w'.frozen? ⟨b, o, none⟩ = w.frozen? ⟨b, o, none⟩ := World.frozen?_of_block (w := w) (a := ⟨b, o, none⟩) (h.block b hb)
/-- A store into a block that was not there. -/
theorem Old.setCell {a w : World} (h : Old a w) {p : Addr} (hp : a.heap.size ≤ p.block) (u : Value) : Old a (w.setCell p u) :=
  ⟨h.os, h.output, by simpa using h.size, fun k hk => (Below.heap_setCell _ _ _ _ (by omega)).trans (h.block k hk)⟩
theorem Old.grown {a w w' : World} {row : Option Nat} (h : Old a w) (hg : w.grownBy w' row) (hr : ∀ k, row = some k → a.heap.size ≤ k) : Old a w' :=
  ⟨hg.os.trans h.os, hg.output.trans h.output, Nat.le_trans h.size hg.size, fun k hk => (hg.block k (Nat.lt_of_lt_of_le hk h.size) (fun e => by have := hr k e.symm; omega)).trans (h.block k hk)⟩

/-! ### A ROW OF INTEGERS, a slice's cells -/
def IntsAt (k : IntKind) (w : World) (a : Option Addr) (xs : List Int) : Prop :=
  0 < xs.length → ∃ b off, a = some ⟨b, off, none⟩ ∧ b < w.heap.size ∧ ∀ j, j < xs.length → w.cell? ⟨b, off + j, none⟩ = some (.int k (xs[j]?.getD 0))

theorem IntsAt.old {k : IntKind} {w w' : World} {a : Option Addr} {xs : List Int} (h : IntsAt k w a xs) (ho : Old w w') : IntsAt k w' a xs := fun hp => by
  obtain ⟨b, off, ha, hb, hc⟩ := h hp
  exact ⟨b, off, ha, Nat.lt_of_lt_of_le hb ho.size, fun j hj => (ho.cell hb).trans (hc j hj)⟩

/-- A ROW OF INTEGERS, its content by the index. -/
def FnAt (w : World) (a : Option Addr) (n : Nat) (f : Nat → Int) : Prop :=
  0 < n → ∃ b off, a = some ⟨b, off, none⟩ ∧ b < w.heap.size ∧ ∀ j, j < n → w.cell? ⟨b, off + j, none⟩ = some (.int .i64 (f j))

theorem FnAt.old {w w' : World} {a : Option Addr} {n : Nat} {f : Nat → Int} (h : FnAt w a n f) (ho : Old w w') : FnAt w' a n f := fun hp => by
  obtain ⟨b, off, ha, hb, hc⟩ := h hp
  exact ⟨b, off, ha, Nat.lt_of_lt_of_le hb ho.size, fun j hj => (ho.cell hb).trans (hc j hj)⟩

/-! ### A ROW OF PARTS: a string and a row of integers each -/
def PartsAt (k : IntKind) (w : World) (a : Option Addr) (n : Nat) (Tx : Nat → ByteArray) (Is : Nat → List Int) : Prop :=
  0 < n → ∃ b off, a = some ⟨b, off, none⟩ ∧ b < w.heap.size ∧ ∀ i, i < n → w.cell? ⟨b, off + i * 2, none⟩ = some (.string (Tx i)) ∧
    ∃ ga gc, w.cell? ⟨b, off + i * 2 + 1, none⟩ = some (.slice ga (Is i).length gc) ∧ IntsAt k w ga (Is i)

theorem PartsAt.old {k : IntKind} {w w' : World} {a : Option Addr} {n : Nat} {Tx : Nat → ByteArray} {Is : Nat → List Int} (h : PartsAt k w a n Tx Is) (ho : Old w w') : PartsAt k w' a n Tx Is := fun hp => by
  obtain ⟨b, off, ha, hb, hc⟩ := h hp
  refine ⟨b, off, ha, Nat.lt_of_lt_of_le hb ho.size, fun i hi => ⟨(ho.cell hb).trans (hc i hi).1, ?_⟩⟩
  obtain ⟨ga, gc, h1, h2⟩ := (hc i hi).2
  exact ⟨ga, gc, (ho.cell hb).trans h1, h2.old ho⟩

/-! ### A ROW OF SPANS -/
def SpansAt (w : World) (a : Option Addr) (n : Nat) (On : Nat → Bool) (A B : Nat → Int) : Prop :=
  0 < n → ∃ b off, a = some ⟨b, off, none⟩ ∧ b < w.heap.size ∧ ∀ i, i < n → w.cell? ⟨b, off + i * 3, none⟩ = some (.bool (On i)) ∧
    w.cell? ⟨b, off + i * 3 + 1, none⟩ = some (.int .u16 (A i)) ∧ w.cell? ⟨b, off + i * 3 + 2, none⟩ = some (.int .u16 (B i)) ∧ 0 ≤ A i ∧ A i ≤ 65535 ∧ 0 ≤ B i ∧ B i ≤ 65535

theorem SpansAt.old {w w' : World} {a : Option Addr} {n : Nat} {On : Nat → Bool} {A B : Nat → Int} (h : SpansAt w a n On A B) (ho : Old w w') : SpansAt w' a n On A B := fun hp => by
  obtain ⟨b, off, ha, hb, hc⟩ := h hp
  refine ⟨b, off, ha, Nat.lt_of_lt_of_le hb ho.size, fun i hi => ?_⟩
  obtain ⟨h1, h2, h3, h4⟩ := hc i hi
  exact ⟨(ho.cell hb).trans h1, (ho.cell hb).trans h2, (ho.cell hb).trans h3, h4⟩

/-! ### THE PLAIN FUNCTIONS -/
/-- A span's lower and upper end in a string of n bytes. -/
def loS (n : Nat) (a b : Int) : Int := if a % ((n : Int) + 1) ≤ b % ((n : Int) + 1) then a % ((n : Int) + 1) else b % ((n : Int) + 1)
def hiS (n : Nat) (a b : Int) : Int := if a % ((n : Int) + 1) ≤ b % ((n : Int) + 1) then b % ((n : Int) + 1) else a % ((n : Int) + 1)

theorem span_bd (n : Nat) (a b : Int) : 0 ≤ loS n a b ∧ loS n a b ≤ hiS n a b ∧ hiS n a b ≤ n := by
  have h1 := Int.emod_nonneg a (show (n : Int) + 1 ≠ 0 by omega)
  have h2 := Int.emod_lt_of_pos a (show (0 : Int) < (n : Int) + 1 by omega)
  have h3 := Int.emod_nonneg b (show (n : Int) + 1 ≠ 0 by omega)
  have h4 := Int.emod_lt_of_pos b (show (0 : Int) < (n : Int) + 1 by omega)
  unfold loS hiS
  split <;> omega

/-- The first of the groups that has a submatch in m, or -1. -/
def hit (m : Nat → Int) : List Int → Int
  | [] => -1
  | g :: r => if 0 ≤ m (2 * g).toNat then g else hit m r

end Go.Proofs.Ybulkdfse.C
