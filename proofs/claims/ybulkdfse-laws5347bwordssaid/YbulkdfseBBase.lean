/-
  WALKS for LawS5347BWords: zzs5347bbase (6).
-/
import Derived.Test.YbulkdfseBNames
namespace Go.Proofs.Ybulkdfse.B
open Go.RowKit

/-- WHAT base(b) LEAVES. -/
def BaseEnd (w : World) (e : Ending) (w' : World) : Prop :=
  ∃ (n : Nat) (k : Int) (p : Option Addr) (s : ByteArray), e = .returned (.tuple #[.agg #[.int .u8 k, .pointer p], .string s]) ∧ n ≤ 1 ∧ Below w.heap.size w w' ∧ ∀ T, w'.heap.size ≤ T → NameIs w' T n k p s

theorem baseEnd_leaf {w w' : World} {e : Ending} (k : Int) (s : ByteArray) (he : e = .returned (.tuple #[.agg #[.int .u8 k, .pointer none], .string s])) (hk : 0 ≤ k ∧ k ≤ 255 ∧ k ≠ 4 ∧ k ≠ 5 ∧ k ≠ 6) (hs : s = leaf k) (hb : Below w.heap.size w w') : BaseEnd w e w' :=
  ⟨0, k, none, s, he, by omega, hb, fun _ _ => ⟨hk.1, hk.2.1, hk.2.2.1, hk.2.2.2.1, hk.2.2.2.2, hs⟩⟩

theorem baseEnd_coll {w w' : World} {e : Ending} (k : Int) (b : Nat) (s : ByteArray) (he : e = .returned (.tuple #[.agg #[.int .u8 k, .pointer (some ⟨b, 0, none⟩)], .string s])) (hk : k = 4 ∨ k = 5 ∨ k = 6) (hs : s = wordK k ++ leaf 0)
    (hb : Below w.heap.size w w') (hlt : b < w'.heap.size) (h0 : w'.cell? ⟨b, 0, none⟩ = some (.int .u8 0)) (h1 : w'.cell? ⟨b, 1, none⟩ = some (.pointer none)) : BaseEnd w e w' :=
  ⟨1, k, _, s, he, by omega, hb, fun T hT => ⟨b, 0, none, leaf 0, rfl, by omega, hlt, h0, h1, hk, hs, by decide, by decide, by decide, by decide, by decide, rfl⟩⟩

set_option maxHeartbeats 400000 in
theorem base_0 (w : World) : Calls Yba.prog 6 #[.int .u8 0] w (BaseEnd w) := by
  go_enter Yba.func6, Yba.ntmps6
  go_wp2
  refine bodyPost_ret (v := .tuple #[.agg #[.int .u8 0, .pointer none], .string ⟨#[97, 110, 121]⟩]) (by simp [results, Yba.results6, go_sem]) rfl ?_
  exact baseEnd_leaf 0 _ rfl (by decide) (by decide) ((Below.refl _ _).alloc (Nat.le_refl _) _)

set_option maxHeartbeats 400000 in
theorem base_1 (w : World) : Calls Yba.prog 6 #[.int .u8 1] w (BaseEnd w) := by
  go_enter Yba.func6, Yba.ntmps6
  go_wp2
  refine bodyPost_ret (v := .tuple #[.agg #[.int .u8 1, .pointer none], .string ⟨#[115, 116, 114, 105, 110, 103]⟩]) (by simp [results, Yba.results6, go_sem]) rfl ?_
  exact baseEnd_leaf 1 _ rfl (by decide) (by decide) ((Below.refl _ _).alloc (Nat.le_refl _) _)

set_option maxHeartbeats 400000 in
theorem base_2 (w : World) : Calls Yba.prog 6 #[.int .u8 2] w (BaseEnd w) := by
  go_enter Yba.func6, Yba.ntmps6
  go_wp2
  refine bodyPost_ret (v := .tuple #[.agg #[.int .u8 2, .pointer none], .string ⟨#[110, 117, 109, 98, 101, 114]⟩]) (by simp [results, Yba.results6, go_sem]) rfl ?_
  exact baseEnd_leaf 2 _ rfl (by decide) (by decide) ((Below.refl _ _).alloc (Nat.le_refl _) _)

set_option maxHeartbeats 400000 in
theorem base_3 (w : World) : Calls Yba.prog 6 #[.int .u8 3] w (BaseEnd w) := by
  go_enter Yba.func6, Yba.ntmps6
  go_wp2
  refine bodyPost_ret (v := .tuple #[.agg #[.int .u8 3, .pointer none], .string ⟨#[98, 111, 111, 108]⟩]) (by simp [results, Yba.results6, go_sem]) rfl ?_
  exact baseEnd_leaf 3 _ rfl (by decide) (by decide) ((Below.refl _ _).alloc (Nat.le_refl _) _)

set_option maxHeartbeats 400000 in
theorem base_4 (w : World) : Calls Yba.prog 6 #[.int .u8 4] w (BaseEnd w) := by
  go_enter Yba.func6, Yba.ntmps6
  go_wp2
  refine bodyPost_ret (v := .tuple #[.agg #[.int .u8 4, .pointer (some ⟨w.heap.size + 1, 0, none⟩)], .string ⟨#[108, 105, 115, 116, 32, 111, 102, 32, 97, 110, 121]⟩]) (by simp [results, Yba.results6, go_sem]) rfl ?_
  exact baseEnd_coll 4 (w.heap.size + 1) _ rfl (by decide) (by decide) (((Below.refl _ _).alloc (Nat.le_refl _) _).alloc (by simp) _) (by simp) (by simp) (by simp)

set_option maxHeartbeats 400000 in
theorem base_5 (w : World) : Calls Yba.prog 6 #[.int .u8 5] w (BaseEnd w) := by
  go_enter Yba.func6, Yba.ntmps6
  go_wp2
  refine bodyPost_ret (v := .tuple #[.agg #[.int .u8 5, .pointer (some ⟨w.heap.size + 1, 0, none⟩)], .string ⟨#[109, 97, 112, 32, 111, 102, 32, 97, 110, 121]⟩]) (by simp [results, Yba.results6, go_sem]) rfl ?_
  exact baseEnd_coll 5 (w.heap.size + 1) _ rfl (by decide) (by decide) (((Below.refl _ _).alloc (Nat.le_refl _) _).alloc (by simp) _) (by simp) (by simp) (by simp)

set_option maxHeartbeats 400000 in
theorem base_6 (w : World) : Calls Yba.prog 6 #[.int .u8 6] w (BaseEnd w) := by
  go_enter Yba.func6, Yba.ntmps6
  go_wp2
  refine bodyPost_ret (v := .tuple #[.agg #[.int .u8 6, .pointer (some ⟨w.heap.size + 1, 0, none⟩)], .string ⟨#[115, 101, 116, 32, 111, 102, 32, 97, 110, 121]⟩]) (by simp [results, Yba.results6, go_sem]) rfl ?_
  exact baseEnd_coll 6 (w.heap.size + 1) _ rfl (by decide) (by decide) (((Below.refl _ _).alloc (Nat.le_refl _) _).alloc (by simp) _) (by simp) (by simp) (by simp)

set_option maxHeartbeats 400000 in
theorem base_7 (w : World) : Calls Yba.prog 6 #[.int .u8 7] w (BaseEnd w) := by
  go_enter Yba.func6, Yba.ntmps6
  go_wp2
  refine bodyPost_ret (v := .tuple #[.agg #[.int .u8 7, .pointer none], .string ⟨#[116, 117, 112, 108, 101]⟩]) (by simp [results, Yba.results6, go_sem]) rfl ?_
  exact baseEnd_leaf 7 _ rfl (by decide) (by decide) ((Below.refl _ _).alloc (Nat.le_refl _) _)

set_option maxHeartbeats 400000 in
theorem base_8 (w : World) : Calls Yba.prog 6 #[.int .u8 8] w (BaseEnd w) := by
  go_enter Yba.func6, Yba.ntmps6
  go_wp2
  refine bodyPost_ret (v := .tuple #[.agg #[.int .u8 8, .pointer none], .string ⟨#[111, 98, 106, 101, 99, 116]⟩]) (by simp [results, Yba.results6, go_sem]) rfl ?_
  exact baseEnd_leaf 8 _ rfl (by decide) (by decide) ((Below.refl _ _).alloc (Nat.le_refl _) _)

set_option maxHeartbeats 400000 in
theorem base_9 (w : World) : Calls Yba.prog 6 #[.int .u8 9] w (BaseEnd w) := by
  go_enter Yba.func6, Yba.ntmps6
  go_wp2
  refine bodyPost_ret (v := .tuple #[.agg #[.int .u8 9, .pointer none], .string ⟨#[97, 110, 121]⟩]) (by simp [results, Yba.results6, go_sem]) rfl ?_
  exact baseEnd_leaf 9 _ rfl (by decide) (by decide) ((Below.refl _ _).alloc (Nat.le_refl _) _)

set_option maxHeartbeats 400000 in
theorem base_10 (w : World) : Calls Yba.prog 6 #[.int .u8 10] w (BaseEnd w) := by
  go_enter Yba.func6, Yba.ntmps6
  go_wp2
  refine bodyPost_ret (v := .tuple #[.agg #[.int .u8 10, .pointer none], .string ⟨#[97, 110, 121]⟩]) (by simp [results, Yba.results6, go_sem]) rfl ?_
  exact baseEnd_leaf 10 _ rfl (by decide) (by decide) ((Below.refl _ _).alloc (Nat.le_refl _) _)

set_option maxHeartbeats 400000 in
theorem base_11 (w : World) : Calls Yba.prog 6 #[.int .u8 11] w (BaseEnd w) := by
  go_enter Yba.func6, Yba.ntmps6
  go_wp2
  refine bodyPost_ret (v := .tuple #[.agg #[.int .u8 11, .pointer none], .string ⟨#[97, 110, 121]⟩]) (by simp [results, Yba.results6, go_sem]) rfl ?_
  exact baseEnd_leaf 11 _ rfl (by decide) (by decide) ((Below.refl _ _).alloc (Nat.le_refl _) _)

theorem base_any (z : Int) (w : World) (h0 : 0 ≤ z) (h1 : z < 12) : Calls Yba.prog 6 #[.int .u8 z] w (BaseEnd w) := by
  rcases (show z = 0 ∨ z = 1 ∨ z = 2 ∨ z = 3 ∨ z = 4 ∨ z = 5 ∨ z = 6 ∨ z = 7 ∨ z = 8 ∨ z = 9 ∨ z = 10 ∨ z = 11 by omega) with rfl | rfl | rfl | rfl | rfl | rfl | rfl | rfl | rfl | rfl | rfl | rfl
  · exact base_0 w
  · exact base_1 w
  · exact base_2 w
  · exact base_3 w
  · exact base_4 w
  · exact base_5 w
  · exact base_6 w
  · exact base_7 w
  · exact base_8 w
  · exact base_9 w
  · exact base_10 w
  · exact base_11 w

end Go.Proofs.Ybulkdfse.B
