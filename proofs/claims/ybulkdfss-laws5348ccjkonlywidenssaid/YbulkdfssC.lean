/-
  LawS5348CExact, LawS5348CCjkOnlyWidens: the contracts of zzs5348cedge (8), breakRange.columnsIn (9), zzs5348cwide (10).
-/
import Derived.Test.YbulkdfssRows
import Derived.WalkKit
import Derived.WalkSpells
namespace Go.Proofs.Ybulkdfss.C
open Go.RowKit

/-- The code point that a pick makes of a raw one. -/
def edge (raw pick : Int) : Int :=
  if pick % 12 = 0 then 160 else if pick % 12 = 1 then 161 else if pick % 12 = 2 then 8360 else if pick % 12 = 3 then 8361 else if pick % 12 = 4 then 8362 else if pick % 12 = 5 then 65376
  else if pick % 12 = 6 then 65377 else if pick % 12 = 7 then 12288 else if pick % 12 = 8 then 65 else raw

set_option maxHeartbeats 800000 in
theorem edge_any (raw pick : Int) (w : World) (h0 : 0 ≤ pick) (h1 : pick ≤ 255) :
    Calls Yba.prog 8 #[.int .i32 raw, .int .u8 pick] w fun e w' => e = .returned (.int .i32 (edge raw pick)) ∧ w' = w := by
  have hc : pick % 12 = 0 ∨ pick % 12 = 1 ∨ pick % 12 = 2 ∨ pick % 12 = 3 ∨ pick % 12 = 4 ∨ pick % 12 = 5 ∨ pick % 12 = 6 ∨ pick % 12 = 7 ∨ pick % 12 = 8 ∨ pick % 12 = 9 ∨ pick % 12 = 10 ∨ pick % 12 = 11 := by omega
  rcases hc with h | h | h | h | h | h | h | h | h | h | h | h
  all_goals
    have he : edge raw pick = edge raw pick := rfl
    conv at he => rhs; simp [edge, h]
    rw [he]
    clear he
    go_enter Yba.func8, Yba.ntmps8
    go_wp2
    go_ret
    exact ⟨rfl, rfl⟩

/-- The columns that a code point takes. -/
def cols (cjk : Bool) (c r : Int) : Int := if cjk = true ∧ c = 1 ∧ 161 ≤ r ∧ r < 65377 ∧ r ≠ 8361 then 2 else c

set_option maxHeartbeats 800000 in
theorem cols_any (b : Nat) (c r bc : Int) (cjk : Bool) (w : World) (hb : b < w.heap.size) (hc : w.cell? ⟨b, 3, none⟩ = some (.int .i64 c)) :
    Calls Yba.prog 9 #[.pointer (some ⟨b, 0, none⟩), .int .i32 r, .agg #[.nilFunc, .bool cjk, .int .i64 bc]] w fun e w' => e = .returned (.int .i64 (cols cjk c r)) ∧ w' = w.alloc (.cells #[.nilFunc, .bool cjk, .int .i64 bc] 35) := by
  cases cjk with
  | false =>
    have he : cols false c r = c := by simp [cols]
    rw [he]
    clear he
    go_enter Yba.func9, Yba.ntmps9
    go_wp2
    go_ret
    exact ⟨rfl, rfl⟩
  | true =>
    by_cases h1 : c = 1
    · subst h1
      by_cases h2 : 161 ≤ r
      · by_cases h3 : r < 65377
        · by_cases h4 : r = 8361
          · subst h4
            have he : cols true 1 8361 = 1 := by simp [cols]
            rw [he]
            clear he
            go_enter Yba.func9, Yba.ntmps9
            go_wp2
            go_ret
            exact ⟨rfl, rfl⟩
          · have he : cols true 1 r = 2 := by simp [cols, h2, h3, h4]
            rw [he]
            clear he
            go_enter Yba.func9, Yba.ntmps9
            go_wp2
            go_ret
            exact ⟨rfl, rfl⟩
        · have he : cols true 1 r = 1 := by simp [cols, h3]
          rw [he]
          clear he
          go_enter Yba.func9, Yba.ntmps9
          go_wp2
          go_ret
          exact ⟨rfl, rfl⟩
      · have he : cols true 1 r = 1 := by simp [cols, h2]
        rw [he]
        clear he
        go_enter Yba.func9, Yba.ntmps9
        go_wp2
        go_ret
        exact ⟨rfl, rfl⟩
    · have he : cols true c r = c := by simp [cols, h1]
      rw [he]
      clear he
      go_enter Yba.func9, Yba.ntmps9
      go_wp2
      go_ret
      exact ⟨rfl, rfl⟩

theorem box_one (w : World) (x0 x1 x2 x3 : Value) : (w.alloc (.cells #[x0, x1, x2, x3] 32)).cell? ⟨w.heap.size, 3, none⟩ = some x3 := by simp
theorem box_two (w : World) (x0 x1 x2 x3 : Value) (o : Obj) : ((w.alloc (.cells #[x0, x1, x2, x3] 32)).alloc o).cell? ⟨w.heap.size, 3, none⟩ = some x3 :=
  (World.cell?_alloc_lt _ _ _ (by simp)).trans (box_one w x0 x1 x2 x3)

/-- Is it one of the characters that count two? -/
def wide (r : Int) : Bool := decide (161 ≤ r ∧ r ≤ 65376 ∧ r ≠ 8361)

theorem wide_any (r : Int) (w : World) : Calls Yba.prog 10 #[.int .i32 r] w fun e w' => e = .returned (.bool (wide r)) ∧ w' = w := by
  by_cases h4 : r = 8361
  · subst h4
    have he : wide 8361 = false := by decide
    rw [he]
    go_enter Yba.func10, Yba.ntmps10
    go_wp2
    go_ret
    exact ⟨rfl, rfl⟩
  by_cases h2 : 161 ≤ r
  · by_cases h3 : r ≤ 65376
    · have he : wide r = true := by simp [wide, h2, h3, h4]
      rw [he]
      clear he
      go_enter Yba.func10, Yba.ntmps10
      go_wp2
      go_ret
      exact ⟨rfl, rfl⟩
    · have he : wide r = false := by simp [wide, h3]
      rw [he]
      clear he
      go_enter Yba.func10, Yba.ntmps10
      go_wp2
      go_ret
      exact ⟨rfl, rfl⟩
  · have he : wide r = false := by simp [wide, h2]
    rw [he]
    clear he
    go_enter Yba.func10, Yba.ntmps10
    go_wp2
    go_ret
    exact ⟨rfl, rfl⟩

end Go.Proofs.Ybulkdfss.C
