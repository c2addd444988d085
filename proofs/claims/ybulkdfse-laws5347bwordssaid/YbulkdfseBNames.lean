/-
  WALKS for LawS5347BWords: zzs5347bwrap (7), Type.Name (8), zzs5347bbase (6).
-/
import Derived.Test.YbulkdfseRows
import Derived.WalkKit
import Derived.WalkSpells
namespace Go.Proofs.Ybulkdfse.B
open Go.RowKit

/-- The collection's kind that a selector picks. -/
def kOf (z : Int) : Int := if z % 3 = 0 then 4 else if z % 3 = 1 then 5 else 6
/-- The words of a collection's kind. -/
def wordK (k : Int) : ByteArray :=
  if k = 4 then ⟨#[108, 105, 115, 116, 32, 111, 102, 32]⟩ else if k = 5 then ⟨#[109, 97, 112, 32, 111, 102, 32]⟩ else ⟨#[115, 101, 116, 32, 111, 102, 32]⟩
def wordOf (z : Int) : ByteArray := wordK (kOf z)
/-- The name of a kind without parts. -/
def leaf (k : Int) : ByteArray :=
  if k = 1 then ⟨#[115, 116, 114, 105, 110, 103]⟩ else if k = 2 then ⟨#[110, 117, 109, 98, 101, 114]⟩ else if k = 3 then ⟨#[98, 111, 111, 108]⟩
  else if k = 7 then ⟨#[116, 117, 112, 108, 101]⟩ else if k = 8 then ⟨#[111, 98, 106, 101, 99, 116]⟩ else ⟨#[97, 110, 121]⟩

set_option maxHeartbeats 400000 in
theorem wrap_any (z : Int) (w : World) (hz : 0 ≤ z) (hz2 : z ≤ 255) :
    Calls Yba.prog 7 #[.int .u8 z] w fun e w' => e = .returned (.tuple #[.int .u8 (kOf z), .string (wordOf z)]) ∧ w' = w := by
  have hc : z % 3 = 0 ∨ z % 3 = 1 ∨ z % 3 = 2 := by omega
  rcases hc with h | h | h
  all_goals
    go_enter Yba.func7, Yba.ntmps7
    go_wp2
    go_ret2
    exact ⟨by simp [kOf, wordOf, wordK, h], rfl⟩

/-- THE TYPE (k, p) LIES IN w, n COLLECTIONS DEEP, NONE OF ITS PARTS IN BLOCK T, AND IS NAMED s. -/
def NameIs (w : World) (T : Nat) : Nat → Int → Option Addr → ByteArray → Prop
  | 0, k, _, s => 0 ≤ k ∧ k ≤ 255 ∧ k ≠ 4 ∧ k ≠ 5 ∧ k ≠ 6 ∧ s = leaf k
  | n + 1, k, p, s => ∃ (b : Nat) (k' : Int) (p' : Option Addr) (s' : ByteArray), p = some ⟨b, 0, none⟩ ∧ b ≠ T ∧ b < w.heap.size ∧ w.cell? ⟨b, 0, none⟩ = some (.int .u8 k') ∧ w.cell? ⟨b, 1, none⟩ = some (.pointer p') ∧
      (k = 4 ∨ k = 5 ∨ k = 6) ∧ s = wordK k ++ s' ∧ NameIs w T n k' p' s'

theorem NameIs.carry {w w' : World} {T T' : Nat} (hs : w.heap.size ≤ w'.heap.size) (hT : ∀ b, b < w.heap.size → b ≠ T → b ≠ T') (hc : ∀ b o, b < w.heap.size → b ≠ T → w'.cell? ⟨b, o, none⟩ = w.cell? ⟨b, o, none⟩) :
    ∀ (n : Nat) (k : Int) (p : Option Addr) (s : ByteArray), NameIs w T n k p s → NameIs w' T' n k p s := by
  intro n
  induction n with
  | zero => intro k p s h; exact h
  | succ n ih =>
    rintro k p s ⟨b, k', p', s', h1, h2, h3, h4, h5, h6, h7, h8⟩
    exact ⟨b, k', p', s', h1, hT b h3 h2, by omega, (hc b 0 h3 h2).trans h4, (hc b 1 h3 h2).trans h5, h6, h7, ih _ _ _ h8⟩

theorem wordK_size (k : Int) : (wordK k).size ≤ 8 := by
  unfold wordK
  split
  · decide
  · split <;> decide
theorem leaf_size (k : Int) : (leaf k).size ≤ 6 := by
  unfold leaf
  repeat' split
  all_goals decide

theorem NameIs.size {w : World} {T : Nat} : ∀ (n : Nat) (k : Int) (p : Option Addr) (s : ByteArray), NameIs w T n k p s → s.size ≤ 8 * n + 6 := by
  intro n
  induction n with
  | zero => rintro k p s ⟨_, _, _, _, _, rfl⟩; have := leaf_size k; omega
  | succ n ih =>
    rintro k p s ⟨b, k', p', s', h1, h2, h3, h4, h5, h6, rfl, h8⟩
    have := ih _ _ _ h8
    have := wordK_size k
    rw [ByteArray.size_append]
    omega

set_option maxHeartbeats 800000 in
theorem name_any (n : Nat) : ∀ (k : Int) (p : Option Addr) (s : ByteArray) (T : Nat) (w : World), n ≤ 2000 → NameIs w T n k p s →
    Calls Yba.prog 8 #[.agg #[.int .u8 k, .pointer p]] w fun e w' => e = .returned (.string s) ∧ Below w.heap.size w w' := by
  induction n with
  | zero =>
    rintro k p s T w _ ⟨hk0, hk1, h4, h5, h6, rfl⟩
    by_cases c1 : k = 1
    · subst c1; go_enter Yba.func8, Yba.ntmps8; go_wp2_with fail; go_ret; exact ⟨rfl, (Below.refl _ _).alloc (Nat.le_refl _) _⟩
    by_cases c2 : k = 2
    · subst c2; go_enter Yba.func8, Yba.ntmps8; go_wp2_with fail; go_ret; exact ⟨rfl, (Below.refl _ _).alloc (Nat.le_refl _) _⟩
    by_cases c3 : k = 3
    · subst c3; go_enter Yba.func8, Yba.ntmps8; go_wp2_with fail; go_ret; exact ⟨rfl, (Below.refl _ _).alloc (Nat.le_refl _) _⟩
    by_cases c7 : k = 7
    · subst c7; go_enter Yba.func8, Yba.ntmps8; go_wp2_with fail; go_ret; exact ⟨rfl, (Below.refl _ _).alloc (Nat.le_refl _) _⟩
    by_cases c8 : k = 8
    · subst c8; go_enter Yba.func8, Yba.ntmps8; go_wp2_with fail; go_ret; exact ⟨rfl, (Below.refl _ _).alloc (Nat.le_refl _) _⟩
    have hl : leaf k = ⟨#[97, 110, 121]⟩ := by simp [leaf, c1, c2, c3, c7, c8]
    rw [hl]
    clear hl
    go_enter Yba.func8, Yba.ntmps8
    go_wp2_with fail
    go_ret
    exact ⟨rfl, (Below.refl _ _).alloc (Nat.le_refl _) _⟩
  | succ n ih =>
    rintro k p s T w hn ⟨b, k', p', s', rfl, h2, h3, h4, h5, h6, rfl, h8⟩
    have hsz := h8.size
    have hN : ∀ o, NameIs (w.alloc o) T n k' p' s' := fun o => h8.carry (by simp) (fun _ _ h => h) (fun b' o' hb _ => ((Below.refl _ w).alloc (Nat.le_refl _) o).cell (p := ⟨b', o', none⟩) hb)
    clear h8
    rcases h6 with rfl | rfl | rfl
    · go_enter Yba.func8, Yba.ntmps8
      go_wp2_with (go_at_call 8; refine (ih k' p' s' T _ (by omega) (hN _)).mono ?_; rintro e w' ⟨rfl, hb⟩)
      go_ret
      exact ⟨rfl, ((Below.refl _ w).alloc (Nat.le_refl _) _).trans (hb.mono (by simp))⟩
    · go_enter Yba.func8, Yba.ntmps8
      go_wp2_with (go_at_call 8; refine (ih k' p' s' T _ (by omega) (hN _)).mono ?_; rintro e w' ⟨rfl, hb⟩)
      go_ret
      exact ⟨rfl, ((Below.refl _ w).alloc (Nat.le_refl _) _).trans (hb.mono (by simp))⟩
    · go_enter Yba.func8, Yba.ntmps8
      go_wp2_with (go_at_call 8; refine (ih k' p' s' T _ (by omega) (hN _)).mono ?_; rintro e w' ⟨rfl, hb⟩)
      go_ret
      exact ⟨rfl, ((Below.refl _ w).alloc (Nat.le_refl _) _).trans (hb.mono (by simp))⟩

end Go.Proofs.Ybulkdfse.B
