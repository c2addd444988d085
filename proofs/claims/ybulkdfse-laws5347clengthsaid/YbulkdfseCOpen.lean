/-
  LawS5347CModel, LawS5347CLength: the arguments opened.
-/
import Derived.Test.YbulkdfseCPlain
import Derived.ProofKit
import Derived.OpenShut
import Derived.ShutString
import Derived.Deep.SlicePairs
import Derived.Deep.Strs
namespace Go.Proofs.Ybulkdfse.C
open Go.ChangeShapes Go.WideShapes Go.ChangeAt Go.RowKit Go.Deep

theorem cells5 : Yba.prog.cellsOf 5 = 1 := by kernel_rfl
theorem cells4 : Yba.prog.cellsOf 4 = 1 := by kernel_rfl
theorem cells9 : Yba.prog.cellsOf 9 = 1 := by kernel_rfl
theorem cells22 : Yba.prog.cellsOf 22 = 1 := by kernel_rfl
theorem cells54 : Yba.prog.cellsOf 54 = 2 := by kernel_rfl
theorem cells55 : Yba.prog.cellsOf 55 = 1 := by kernel_rfl
theorem cells57 : Yba.prog.cellsOf 57 = 3 := by kernel_rfl

section
variable {H : Type} {enc : TypeId × Value → H} {w : World}

theorem addr_plain {a : Addr} {v : Value} (h : w.cell? (a.add 0) = some v) : a = ⟨a.block, a.off, none⟩ := by
  obtain ⟨b, off, spot⟩ := a
  have hspot : spot = none := by simpa [Addr.add] using World.cell?_spot h
  subst hspot
  rfl

/-- A slice of bytes. -/
theorem open_bytes {fuel : Nat} {v : Value} {x : DataW H × List MemPlace} (h : DataW.trod enc Yba.prog w 0 (fun _ => true) true fuel 22 [v] = some x) :
    ∃ (a : Option Addr) (c : Nat) (xs : List Int), v = .slice a xs.length c ∧ IntsAt .u8 w a xs ∧ ∀ j : Nat, 0 ≤ xs[j]?.getD 0 ∧ xs[j]?.getD 0 ≤ 255 := by
  rcases open_ints Yba.underlying22 Yba.underlying5 cells5 h with ⟨hcs, _⟩ | ⟨a, l, c, zs, hcs, _, hl, _, hz, _, hcell, hwz⟩
  · simp only [List.cons.injEq, and_true] at hcs
    exact ⟨none, 0, [], hcs, fun hp => absurd hp (Nat.lt_irrefl _), fun j => by simp⟩
  · simp only [List.cons.injEq, and_true] at hcs
    simp only [if_true] at hz
    have hlen : (zs.take l).length = l := by rw [List.length_take]; omega
    refine ⟨some a, c, zs.take l, by rw [hlen]; exact hcs, fun hp => ?_, range_u8 (fun n hn => hwz n (List.mem_of_mem_take hn))⟩
    rw [hlen] at hp ⊢
    obtain ⟨b, off, rfl, hc⟩ := ints_at hcell (by omega)
    refine ⟨b, off, rfl, World.block_lt_of_cell? _ _ (hc 0 (by omega)), fun j hj => ?_⟩
    rw [hc j (by omega), List.getElem?_take_of_lt hj]
    simp

/-- A slice of parts. -/
theorem open_parts {fuel : Nat} {v : Value} {x : DataW H × List MemPlace} (h : DataW.trod enc Yba.prog w 0 (fun _ => true) true fuel 44 [v] = some x) :
    ∃ (a : Option Addr) (n c : Nat) (Tx : Nat → ByteArray) (Is : Nat → List Int), v = .slice a n c ∧ PartsAt .u8 w a n Tx Is ∧ ∀ i, i < n → ∀ j : Nat, j < (Is i).length → 0 ≤ (Is i)[j]?.getD 0 ∧ (Is i)[j]?.getD 0 ≤ 255 := by
  rcases open_slice_pairs Yba.underlying44 Yba.underlying54 cells54 rfl rfl cells9 cells22 h with ⟨hcs, _⟩ | ⟨a, l, c, m, k, V0, V1, D0, D1, P0, P1, hcs, _, hl, _, hm, _, hx⟩
  · simp only [List.cons.injEq, and_true] at hcs
    exact ⟨none, 0, 0, fun _ => ByteArray.empty, fun _ => [], hcs, fun hp => absurd hp (Nat.lt_irrefl _), fun i hi => absurd hi (Nat.not_lt_zero _)⟩
  · simp only [List.cons.injEq, and_true] at hcs
    simp only [if_true] at hm
    have each : ∀ i, i < l → ∃ q : ByteArray × List Int, w.cell? (a.add (i * 2)) = some (.string q.1) ∧ (∃ ga gc, w.cell? (a.add (i * 2 + 1)) = some (.slice ga q.2.length gc) ∧ IntsAt .u8 w ga q.2) ∧ ∀ j : Nat, 0 ≤ q.2[j]?.getD 0 ∧ q.2[j]?.getD 0 ≤ 255 := by
      intro i hi
      obtain ⟨c0, c1, t0, t1⟩ := hx i (by omega)
      obtain ⟨s, hs, _, _⟩ := DataW.trod_string Yba.underlying9 t0
      simp only [List.cons.injEq, and_true] at hs
      obtain ⟨ga, gc, xs, hv, hi1, hr⟩ := open_bytes t1
      exact ⟨(s, xs), by rw [c0, hs], ⟨ga, gc, by rw [c1, hv], hi1⟩, hr⟩
    obtain ⟨q, hq⟩ := choose_lt each
    refine ⟨some a, l, c, fun i => (q i).1, fun i => (q i).2, hcs, fun hp => ?_, fun i hi j _ => (hq i hi).2.2 j⟩
    have h00 := (hq 0 hp).1
    rw [Nat.zero_mul] at h00
    have ha := addr_plain h00
    obtain ⟨b, off, spot⟩ := a
    simp only at ha
    obtain rfl : spot = none := by simpa using ha
    refine ⟨b, off, rfl, World.block_lt_of_cell? _ _ (by have := (hq 0 hp).1; rwa [add_plain] at this), fun i hi => ?_⟩
    obtain ⟨h1, ⟨ga, gc, h2, h3⟩, _⟩ := hq i hi
    rw [add_plain] at h1 h2
    exact ⟨h1, ga, gc, by rw [Nat.add_assoc]; exact h2, h3⟩

/-- A slice of spans. -/
theorem open_spans {fuel : Nat} {v : Value} {x : DataW H × List MemPlace} (h : DataW.trod enc Yba.prog w 0 (fun _ => true) true fuel 45 [v] = some x) :
    ∃ (a : Option Addr) (n c : Nat) (On : Nat → Bool) (A B : Nat → Int), v = .slice a n c ∧ SpansAt w a n On A B := by
  rcases open_slice Yba.underlying45 h with ⟨hcs, _⟩ | ⟨a, l, c, m, k, D, Pl, hcs, _, hl, _, hm, _, hx⟩
  · simp only [List.cons.injEq, and_true] at hcs
    exact ⟨none, 0, 0, fun _ => false, fun _ => 0, fun _ => 0, hcs, fun hp => absurd hp (Nat.lt_irrefl _)⟩
  · simp only [List.cons.injEq, and_true] at hcs
    simp only [if_true] at hm
    have each : ∀ i, i < l → ∃ q : Bool × Int × Int, w.cell? (a.add (i * 3)) = some (.bool q.1) ∧ w.cell? (a.add (i * 3 + 1)) = some (.int .u16 q.2.1) ∧ w.cell? (a.add (i * 3 + 2)) = some (.int .u16 q.2.2) ∧
        0 ≤ q.2.1 ∧ q.2.1 ≤ 65535 ∧ 0 ≤ q.2.2 ∧ q.2.2 ≤ 65535 := by
      intro i hi
      obtain ⟨cs', h1, h2⟩ := hx i (by omega)
      rw [cells57] at h1
      obtain ⟨_, hlen, hcell⟩ := World.cells?_some h1
      obtain ⟨y0, y1, y2, n, _, _, t0, t1, t2⟩ := trod_struct3 Yba.underlying57 h2
      match cs', hlen with
      | [x0, x1, x2], _ =>
        simp [cells4, cells55] at t0 t1 t2
        obtain ⟨on, e0, _⟩ := DataW.trod_bool Yba.underlying4 t0
        obtain ⟨p, e1, _, w1⟩ := DataW.trod_int Yba.underlying55 t1
        obtain ⟨r, e2, _, w2⟩ := DataW.trod_int Yba.underlying55 t2
        simp only [List.cons.injEq, and_true] at e0 e1 e2
        subst e0 e1 e2
        have g0 := hcell 0 (by omega)
        have g1 := hcell 1 (by omega)
        have g2 := hcell 2 (by omega)
        rw [add_add] at g0 g1 g2
        have b1 := bounds_u16 w1
        have b2 := bounds_u16 w2
        exact ⟨(on, p, r), by simpa using g0, by simpa using g1, by simpa using g2, b1.1, b1.2, b2.1, b2.2⟩
    obtain ⟨q, hq⟩ := choose_lt each
    refine ⟨some a, l, c, fun i => (q i).1, fun i => (q i).2.1, fun i => (q i).2.2, hcs, fun hp => ?_⟩
    have h00 := (hq 0 hp).1
    rw [Nat.zero_mul] at h00
    have ha := addr_plain h00
    obtain ⟨b, off, spot⟩ := a
    simp only at ha
    obtain rfl : spot = none := by simpa using ha
    refine ⟨b, off, rfl, World.block_lt_of_cell? _ _ (by have := (hq 0 hp).1; rwa [add_plain] at this), fun i hi => ?_⟩
    obtain ⟨h1, h2, h3, h4⟩ := hq i hi
    rw [add_plain] at h1 h2 h3
    exact ⟨h1, by rw [Nat.add_assoc]; exact h2, by rw [Nat.add_assoc]; exact h3, h4⟩

/-- AN ARGUMENT READS AS IT DID. -/
theorem Old.trod {t : TypeId} (hl : laidOutB Yba.prog = true) (hr : Yba.prog.readableRec t = true) (hrow : t < Yba.prog.types.size) {W W' : World} {v : Value} {d : DataW H} {ps : List MemPlace}
    (h : DataW.Trod enc Yba.prog W 0 (fun _ => true) true t v d ps) (hb : Old W W') (hlt : ∀ x ∈ ps, x.block < W.heap.size) :
    DataW.Trod enc Yba.prog W' 0 (fun b => decide (b < W.heap.size)) true t v d ps := by
  refine WideElems.Trod_stays hl hr hrow h (fun x hx => ?_) (fun x hx => by simpa using hlt x hx)
  have hp := hlt x hx
  cases x with
  | cell b o => exact World.cell?_of_block (w := W) (hb.block b hp)
  | map b => exact hb.block b hp

theorem Old.frame {W W' : World} (h : Old W W') (may : MemPlace → Prop) : W.keptBut W' may := by
  refine ⟨h.os, h.output, fun i hi => ?_⟩
  rw [h.block i hi]
  split <;> simp_all
end

theorem own : ownKnob Yba.prog.godebug = none := by kernel_rfl
theorem laidOut : laidOutB Yba.prog = true := by kernel_rfl

end Go.Proofs.Ybulkdfse.C
