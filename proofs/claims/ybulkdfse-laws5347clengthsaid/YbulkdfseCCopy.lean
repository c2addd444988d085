/-
  LawS5347CModel, LawS5347CLength: what both laws share: the guard at whatever sizes, the copy of out, string(b).
-/
import Derived.Test.YbulkdfseCLen
import Derived.Laws.CopyOwn
import Derived.Laws.BytesArg
namespace Go.Proofs.Ybulkdfse.C
open Go.RowKit

theorem guard_any (oa : Option Addr) (ol oc : Nat) (s : ByteArray) (pa : Option Addr) (np pc : Nat) (sa : Option Addr) (ns sc : Nat) (Tx : Nat → ByteArray) (Is : Nat → List Int) (w : World) (hp : PartsAt .u8 w pa np Tx Is) :
    Calls Yba.prog 9 #[.slice oa ol oc, .string s, .slice pa np pc, .slice sa ns sc] w (GuardEnd w ol s np ns Tx Is) := by
  by_cases h : 4096 < ol ∨ 4096 < s.size ∨ 300 < np ∨ 300 < ns
  · refine (guard_no oa ol oc s pa np pc sa ns sc w h).mono ?_
    rintro e w' ⟨rfl, rfl⟩
    exact guardEnd_no rfl (Old.refl _)
  · exact guard_yes oa ol oc s pa np pc sa ns sc Tx Is w (by omega) (by omega) (by omega) (by omega) hp

theorem size5 : (Yba.prog.info? 5).map (·.size) = some 1 := by kernel_rfl

/-- The bytes of a row, as cells. -/
def u8s (xs : List Int) : List Value := xs.map (Value.int .u8)
theorem u8s_length (xs : List Int) : (u8s xs).length = xs.length := by simp [u8s]
theorem u8s_one (xs : List Int) : ∀ v ∈ u8s xs, v.oneCell' = true := by
  intro v hv
  obtain ⟨_, _, rfl⟩ := List.mem_map.1 hv
  rfl

theorem ints_cells {w : World} {a : Option Addr} {xs : List Int} (h : IntsAt .u8 w a xs) : CellsAt w a (u8s xs) := fun hp => by
  rw [u8s_length] at hp
  obtain ⟨b, off, ha, hb, hc⟩ := h hp
  refine ⟨b, off, ha, hb, fun j hj => ?_⟩
  rw [u8s_length] at hj
  rw [hc j hj]
  simp [u8s, hj]

theorem CellsAt.old {w w' : World} {a : Option Addr} {xs : List Value} (h : CellsAt w a xs) (ho : Old w w') : CellsAt w' a xs := fun hp => by
  obtain ⟨b, off, ha, hb, hc⟩ := h hp
  exact ⟨b, off, ha, Nat.lt_of_lt_of_le hb ho.size, fun j hj => (ho.cell hb).trans (hc j hj)⟩

/-- string(b). -/
theorem conv_any (w : World) (a : Option Addr) (l c : Nat) (xs : List Int) (hl : xs.length = l) (h : CellsAt w a (u8s xs)) : (convert 22 9 (.slice a l c)).run Yba.prog w = .ok (.string (strOfNums xs)) w := by
  cases a with
  | none =>
    have h0 : xs = [] := by
      rcases Nat.eq_zero_or_pos xs.length with h0 | h0
      · exact List.eq_nil_of_length_eq_zero h0
      · obtain ⟨b, off, ha, _⟩ := h (by rw [u8s_length]; exact h0)
        cases ha
    subst h0
    exact run_convert_bytes_nil w 22 5 Yba.underlying22 Yba.underlying5 l c 9 Yba.underlying9
  | some ad =>
    have hld : (loadCells ad l).run Yba.prog w = .ok (xs.map (Value.int .u8)).toArray w := by
      have := run_loadCells_list (P := Yba.prog) w ad (u8s xs) (fun j v hj => by
        have hjl : j < (u8s xs).length := by
          rcases Nat.lt_or_ge j (u8s xs).length with h1 | h1
          · exact h1
          · rw [List.getElem?_eq_none h1] at hj; cases hj
        obtain ⟨b, off, ha, _, hc⟩ := h (by omega)
        simp only [Option.some.injEq] at ha
        subst ha
        rw [Addr.add_lit, hc j hjl]
        exact hj)
      rw [u8s_length, hl] at this
      exact this
    rw [run_convert_bytes_string w 22 9 5 _ l c Yba.underlying22 Yba.underlying5 Yba.underlying9, run_bytesToString w ad l c xs hld, foldl_push_bytes]
    simp [strOfNums, ByteArray.empty, ByteArray.emptyWithCapacity]
    rfl

/-- make and copy: the new row. -/
theorem splice_all (Z cs : List Value) (h : Z.length = cs.length) : splice Z 0 cs = cs := by
  simp [splice, ← h]

theorem zeros_list (n : Nat) : ∃ Z : List Value, Z.toArray = madeCells #[.int .u8 0] n ∧ Z.length = n :=
  ⟨(madeCells #[.int .u8 0] n).toList, by simp, by simp [size_madeCells]⟩

theorem row_came {w : World} {g : Nat} {cs : List Value} {n : Nat} (h : w.heap[g]? = some (.cells cs.toArray 5 (0, 0))) (hl : cs.length = n) : Came w 1 (some ⟨g, 0, none⟩) g 0 n n cs := by
  refine ⟨Nat.le_refl _, fun _ => rfl, fun _ => (Array.getElem?_eq_some_iff.1 h).1, by omega, fun j u hj => ?_, fun j hj => by simp at hj⟩
  simp only [World.cell?, Nat.zero_add, h]
  simpa using hj

theorem row_cells {w : World} {g : Nat} {cs : List Value} (h : w.heap[g]? = some (.cells cs.toArray 5 (0, 0))) : CellsAt w (some ⟨g, 0, none⟩) cs := fun hp => by
  refine ⟨g, 0, rfl, (Array.getElem?_eq_some_iff.1 h).1, fun j hj => ?_⟩
  simp only [World.cell?, Nat.zero_add, h]
  simp

theorem cells_src {w : World} {a : Option Addr} {xs : List Value} (h : CellsAt w a xs) (hp : 0 < xs.length) : ∃ ad, a = some ad ∧ ∀ j v, xs[j]? = some v → w.cell? (ad.add j) = some v := by
  obtain ⟨b, off, rfl, hb, hc⟩ := h hp
  refine ⟨_, rfl, fun j v hj => ?_⟩
  have hjl : j < xs.length := by
    rcases Nat.lt_or_ge j xs.length with h1 | h1
    · exact h1
    · rw [List.getElem?_eq_none h1] at hj; cases hj
  rw [Addr.add_lit, hc j hjl]
  exact hj

theorem u8s_append (a b : List Int) : u8s (a ++ b) = u8s a ++ u8s b := by simp [u8s]
theorem byteCells_u8s (s : ByteArray) : byteCells s = u8s (s.data.toList.map fun b => (b.toNat : Int)) := by simp [byteCells, u8s]
theorem cat_u8s (s : ByteArray) (m : Nat → Int) (Tx : Nat → ByteArray) (Xs : Nat → List Int) : ∀ k, ∃ ns : List Int, cat s m Tx Xs k = u8s ns
  | 0 => ⟨[], rfl⟩
  | k + 1 => by
    obtain ⟨ns, h⟩ := cat_u8s s m Tx Xs k
    exact ⟨ns ++ (pieceOf s m (Tx k) (Xs k)).data.toList.map fun b => (b.toNat : Int), by rw [u8s_append, ← byteCells_u8s, ← h]; rfl⟩

theorem heap_one (w : World) (c : Array Value) : (w.alloc (.cells c 5)).heap[w.heap.size]? = some (.cells c 5 (0, 0)) := by
  show (w.heap.push (.cells c 5))[w.heap.size]? = _
  simp
theorem heap_two (w : World) (o : Obj) (c : Array Value) : ((w.alloc o).alloc (.cells c 5)).heap[w.heap.size + 1]? = some (.cells c 5 (0, 0)) := by
  have h := heap_one (w.alloc o) c
  rwa [World.size_alloc] at h

/-- copy(dst, src), dst a new row as long as src. -/
theorem copy_run (w : World) (g : Nat) (oa : Option Addr) (ol oc : Nat) (Z cs : List Value) (hg : w.heap[g]? = some (.cells Z.toArray 5 (0, 0))) (hZ : Z.length = ol) (hl : cs.length = ol) (hc : CellsAt w oa cs) (h1 : ∀ v ∈ cs, v.oneCell' = true) :
    ∃ w', (Builtin.copy_ #[22, 22] 3 #[.slice (some ⟨g, 0, none⟩) ol ol, .slice oa ol oc]).run Yba.prog w = .ok (goInt ol) w' ∧ w'.heap[g]? = some (.cells cs.toArray 5 (0, 0)) ∧ Below g w w' := by
  rcases Nat.eq_zero_or_pos ol with h0 | h0
  · subst h0
    obtain rfl : cs = [] := List.eq_nil_of_length_eq_zero hl
    obtain rfl : Z = [] := List.eq_nil_of_length_eq_zero hZ
    exact ⟨w, run_copy_none (P := Yba.prog) w 22 22 3 5 _ oa 0 0 0 oc Yba.underlying22 size5 rfl, hg, Below.refl _ _⟩
  · obtain ⟨ad, rfl, hsrc⟩ := cells_src hc (by omega)
    have hrun := run_copy_row (P := Yba.prog) w 22 22 3 5 g 0 ol ol ad ol oc Z.toArray 5 cs Yba.underlying22 size5 hg (by rw [hl]; exact (Nat.min_self _).symm) hsrc (by simp; omega) h1
    have hrow : (Z.toArray.toList.take 0 ++ cs ++ Z.toArray.toList.drop (0 + cs.length)).toArray = cs.toArray := by
      simp [hl, ← hZ]
    rw [hrow, hl] at hrun
    exact ⟨_, hrun, setRow_heap w g _ _ 5 _ hg, below_setRow (Below.refl _ _) (Nat.le_refl _) _⟩

/-- THE TEMPLATE THAT build MAKES FITS. -/
theorem fits_of {s : ByteArray} {ol np ns : Nat} {Tx : Nat → ByteArray} {Is : Nat → List Int} {On : Nat → Bool} {A B : Nat → Int} (h : Small ol s np ns Tx Is) : Fits s np (2 * ns) Tx (Js ns Is) (mval s.size On A B) := by
  obtain ⟨_, h2, h3, h4, h5⟩ := h
  refine ⟨h2, h3, by omega, fun i hi => ?_, fun i hi x hx => ?_, fun i hi => (h5 i hi).2, fun k hk h0 => ?_⟩
  · unfold Js
    split
    · simp
    · rw [List.length_map]; exact (h5 i hi).1
  · unfold Js at hx
    by_cases hz : ns = 0
    · rw [if_pos hz] at hx; cases hx
    · rw [if_neg hz] at hx
      obtain ⟨g, _, rfl⟩ := List.mem_map.1 hx
      have h6 := Int.emod_nonneg g (show (ns : Int) ≠ 0 by omega)
      have h7 := Int.emod_lt_of_pos g (show (0 : Int) < (ns : Int) by omega)
      omega
  · rw [mval_even] at h0 ⊢
    rw [mval_odd]
    have hb := span_bd s.size (A k) (B k)
    cases hOn : On k with
    | true => simp only [if_true]; omega
    | false => rw [hOn] at h0; simp at h0

end Go.Proofs.Ybulkdfse.C
