/-
  LawS5347CModel, LawS5347CLength: the contract of zzs5347cbuild (10).
-/
import Derived.Test.YbulkdfseCSmall
import Derived.Deep.OwnRows
namespace Go.Proofs.Ybulkdfse.C
open Go.RowKit

theorem info3 : (Yba.prog.info? 3).map (fun i => (i.zero, i.size, i.bytes)) = some (some (.int .i64 0), 1, 8) := by kernel_rfl
theorem info63 : (Yba.prog.info? 63).map (fun i => (i.zero, i.size, i.bytes)) = some (some (.agg #[.string ByteArray.empty, .slice none 0 0]), 2, 40) := by kernel_rfl

/-- WHAT m HOLDS at place j. -/
def mval (n : Nat) (On : Nat → Bool) (A B : Nat → Int) (j : Nat) : Int :=
  if On (j / 2) then (if j % 2 = 0 then loS n (A (j / 2)) (B (j / 2)) else hiS n (A (j / 2)) (B (j / 2))) else -1

/-- m behind k rounds. -/
def mrow (n : Nat) (On : Nat → Bool) (A B : Nat → Int) (k : Nat) (j : Nat) : Value := .int .i64 (if j < 2 * k then mval n On A B j else 0)

theorem mrow_step {w : World} {M N n k : Nat} {On : Nat → Bool} {A B : Nat → Int} (h : w.rowIs M 3 N (mrow n On A B k)) {x y : Int} (hx : x = mval n On A B (2 * k)) (hy : y = mval n On A B (2 * k + 1)) :
    ((w.setCell ⟨M, 2 * k, none⟩ (.int .i64 x)).setCell ⟨M, 2 * k + 1, none⟩ (.int .i64 y)).rowIs M 3 N (mrow n On A B (k + 1)) := by
  refine ((h.set (2 * k) (.int .i64 x)).set (2 * k + 1) (.int .i64 y)).congr (fun j hj => ?_)
  simp only [mrow]
  by_cases h1 : j = 2 * k + 1
  · subst h1
    rw [if_pos rfl, if_pos (by omega), hy]
  · rw [if_neg h1]
    by_cases h2 : j = 2 * k
    · subst h2
      rw [if_pos rfl, if_pos (by omega), hx]
    · rw [if_neg h2]
      by_cases h3 : j < 2 * k
      · rw [if_pos h3, if_pos (by omega)]
      · rw [if_neg h3, if_neg (by omega)]

theorem mval_even (n : Nat) (On : Nat → Bool) (A B : Nat → Int) (k : Nat) : mval n On A B (2 * k) = if On k then loS n (A k) (B k) else -1 := by
  simp [mval, show 2 * k / 2 = k by omega, show 2 * k % 2 = 0 by omega]
theorem mval_odd (n : Nat) (On : Nat → Bool) (A B : Nat → Int) (k : Nat) : mval n On A B (2 * k + 1) = if On k then hiS n (A k) (B k) else -1 := by
  simp [mval, show (2 * k + 1) / 2 = k by omega, show (2 * k + 1) % 2 = 1 by omega]

/-- The groups of part i as the template has them. -/
def Js (ns : Nat) (Is : Nat → List Int) (i : Nat) : List Int := if ns = 0 then [] else (Is i).map (fun g => g % (ns : Int))

/-- A row of integers that lies in another block than TP. -/
def OutAt (w : World) (TP : Nat) (a : Option Addr) (xs : List Int) : Prop :=
  0 < xs.length → ∃ b off, a = some ⟨b, off, none⟩ ∧ b < w.heap.size ∧ TP < b ∧ ∀ j, j < xs.length → w.cell? ⟨b, off + j, none⟩ = some (.int .i64 (xs[j]?.getD 0))

/-- The template's cells behind k rounds. -/
def TplIn (w : World) (TP ns : Nat) (Tx : Nat → ByteArray) (Is : Nat → List Int) (k : Nat) (cs : List Value) : Prop :=
  ∀ i, i < k → cs[i * 2]? = some (.string (Tx i)) ∧ ∃ ga gc, cs[i * 2 + 1]? = some (.slice ga (Js ns Is i).length gc) ∧ OutAt w TP ga (Js ns Is i)

theorem OutAt.carry {w w' : World} {TP : Nat} {a : Option Addr} {xs : List Int} (h : OutAt w TP a xs) (hs : w.heap.size ≤ w'.heap.size) (hb : ∀ b, b < w.heap.size → b ≠ TP → w'.heap[b]? = w.heap[b]?) : OutAt w' TP a xs := fun hp => by
  obtain ⟨b, off, ha, h1, h2, hc⟩ := h hp
  exact ⟨b, off, ha, by omega, h2, fun j hj => (World.cell?_of_block (w := w) (a := ⟨b, off + j, none⟩) (hb b h1 (by omega))).trans (hc j hj)⟩

theorem TplIn.carry {w w' : World} {TP ns : Nat} {Tx : Nat → ByteArray} {Is : Nat → List Int} {k : Nat} {cs : List Value} (h : TplIn w TP ns Tx Is k cs) (hs : w.heap.size ≤ w'.heap.size) (hb : ∀ b, b < w.heap.size → b ≠ TP → w'.heap[b]? = w.heap[b]?) : TplIn w' TP ns Tx Is k cs := fun i hi => by
  obtain ⟨h1, ga, gc, h2, h3⟩ := h i hi
  exact ⟨h1, ga, gc, h2, h3.carry hs hb⟩

theorem TplIn.snoc {w : World} {TP ns : Nat} {Tx : Nat → ByteArray} {Is : Nat → List Int} {k : Nat} {cs : List Value} (h : TplIn w TP ns Tx Is k cs) (hl : cs.length = k * 2) {a : Option Addr} {c : Nat} (ho : OutAt w TP a (Js ns Is k)) :
    TplIn w TP ns Tx Is (k + 1) (cs ++ [.string (Tx k), .slice a (Js ns Is k).length c]) := fun i hi => by
  by_cases hk : i < k
  · obtain ⟨h1, ga, gc, h2, h3⟩ := h i hk
    exact ⟨by rw [List.getElem?_append_left (by omega)]; exact h1, ga, gc, by rw [List.getElem?_append_left (by omega)]; exact h2, h3⟩
  · obtain rfl : i = k := by omega
    refine ⟨by rw [List.getElem?_append_right (by omega), hl]; simp, a, c, ?_, ho⟩
    rw [List.getElem?_append_right (by omega), hl, show i * 2 + 1 - i * 2 = 1 by omega]
    rfl

/-- A slice that the call has built by append, told by its cells. -/
theorem owns_out {w : World} {base TP n : Nat} {v : Value} {xs : List Int} (h : w.ownsRow base 3 1 v n (xs.map (Value.int .i64))) (hT : TP < base) : n = xs.length ∧ ∃ a c, v = .slice a n c ∧ OutAt w TP a xs := by
  obtain ⟨hl, h2⟩ := h
  have hn : n = xs.length := by simpa using hl.symm
  refine ⟨hn, ?_⟩
  rcases h2 with ⟨rfl, h0⟩ | ⟨g, cap, cur, rfl, hg, hh, h3, h4, h5, h6⟩
  · exact ⟨none, 0, by rw [h0], fun hp => by omega⟩
  · refine ⟨_, cap, rfl, fun hp => ⟨g, 0, rfl, ?_, by omega, fun j hj => ?_⟩⟩
    · obtain ⟨hlt, _⟩ := Array.getElem?_eq_some_iff.1 hh
      exact hlt
    · have e : (cur.toList.take (n * 1))[j]? = cur[j]? := by rw [List.getElem?_take_of_lt (by omega), Array.getElem?_toList]
      rw [h6] at e
      simp only [World.cell?, Nat.zero_add, hh]
      simp [← e, hj]

theorem two_new (w : World) (t : TypeId) (x y : Value) (n : Nat) (hn : n = w.heap.size) : ∀ (j : Nat) (u : Value), [x, y][j]? = some u → (w.alloc (.cells #[x, y] t)).cell? (Addr.add ⟨n, 0, none⟩ j) = some u := by
  intro j u hj
  subst hn
  match j, hj with
  | 0, hj => simp at hj; subst hj; simp [Addr.add]
  | 1, hj => simp at hj; subst hj; simp [Addr.add]

theorem two_one (x y : Value) (hx : x.oneCell' = true) (hy : y.oneCell' = true) : ∀ u ∈ [x, y], u.oneCell' = true := by
  intro u hu
  simp at hu
  rcases hu with rfl | rfl
  · exact hx
  · exact hy

theorem TplIn.alloc {w : World} {TP ns : Nat} {Tx : Nat → ByteArray} {Is : Nat → List Int} {k : Nat} {cs : List Value} (h : TplIn w TP ns Tx Is k cs) (o : Obj) : TplIn (w.alloc o) TP ns Tx Is k cs :=
  h.carry (by simp) (fun b hb _ => Below.heap_alloc _ _ _ hb)
theorem OutAt.alloc {w : World} {TP : Nat} {a : Option Addr} {xs : List Int} (h : OutAt w TP a xs) (o : Obj) : OutAt (w.alloc o) TP a xs :=
  h.carry (by simp) (fun b hb _ => Below.heap_alloc _ _ _ hb)
theorem owns_old {w w' : World} {base : Nat} {e : TypeId} {size : Nat} {v : Value} {n : Nat} {xs : List Value} (h : w.ownsRow base e size v n xs) (ho : Old w w') : w'.ownsRow base e size v n xs := by
  refine ⟨h.1, ?_⟩
  rcases h.2 with h2 | ⟨g, cap, cur, h1, h2, h3, h4⟩
  · exact .inl h2
  · exact .inr ⟨g, cap, cur, h1, h2, (ho.block g (Array.getElem?_eq_some_iff.1 h3).1).trans h3, h4⟩
theorem owns_block {w : World} {base : Nat} {e : TypeId} {size : Nat} {v : Value} {n : Nat} {xs : List Value} (h : w.ownsRow base e size v n xs) : ∀ k, v.ownBlock = some k → base ≤ k := by
  intro k hk
  rcases h.2 with ⟨rfl, _⟩ | ⟨g, cap, cur, rfl, hg, _⟩
  · cases hk
  · simp only [Value.ownBlock, Option.some.injEq] at hk
    omega

/-- WHAT THE ROUND's append DOES TO THE RELATION. -/
theorem tpl_step {w2 wy w5 : World} {ns np k : Nat} {Tx : Nat → ByteArray} {Is : Nat → List Int} {cs : List Value} {a : Option Addr} {c : Nat}
    (hown : wy.ownsRow w2.heap.size 63 2 (.slice (some ⟨w2.heap.size, 0, none⟩) k np) k cs) (hT : TplIn wy w2.heap.size ns Tx Is k cs) (hO : Old w2 wy) (ho : OutAt wy w2.heap.size a (Js ns Is k))
    (hown5 : w5.ownsRow w2.heap.size 63 2 (.slice (some ⟨w2.heap.size, 0, none⟩) (k + 1) np) (k + 1) (cs ++ [.string (Tx k), .slice a (Js ns Is k).length c])) (hg : wy.grownBy w5 (some w2.heap.size)) :
    w5.ownsRow w2.heap.size 63 2 (.slice (some ⟨w2.heap.size, 0, none⟩) (k + 1) np) (k + 1) (cs ++ [.string (Tx k), .slice a (Js ns Is k).length c]) ∧
    TplIn w5 w2.heap.size ns Tx Is (k + 1) (cs ++ [.string (Tx k), .slice a (Js ns Is k).length c]) ∧ Old w2 w5 := by
  have hb5 : ∀ b, b < wy.heap.size → b ≠ w2.heap.size → w5.heap[b]? = wy.heap[b]? := fun b hb hne => hg.block b hb (by simpa using hne)
  refine ⟨hown5, ((hT.snoc hown.1 (c := c) ho).carry hg.size hb5), hO.grown hg (fun k h => ?_)⟩
  simp at h
  omega

/-- The cells of the groups behind j rounds of the inner loop. -/
def gcells (ns : Nat) (xs : List Int) (j : Nat) : List Value := ((xs.map (fun g => g % (ns : Int))).take j).map (Value.int .i64)
theorem gcells_succ (xs : List Int) (ns j : Nat) (h : j < xs.length) : gcells ns xs (j + 1) = gcells ns xs j ++ [.int .i64 ((xs[j]?.getD 0) % (ns : Int))] := by
  unfold gcells
  rw [List.take_succ_eq_append_getElem (by simpa using h)]
  simp [h]

/-- WHAT build LEAVES. -/
def BuildEnd (w : World) (np ns : Nat) (s : ByteArray) (Tx : Nat → ByteArray) (Is : Nat → List Int) (On : Nat → Bool) (A B : Nat → Int) (e : Ending) (w' : World) : Prop :=
  ∃ ta ma, e = .returned (.tuple #[.agg #[.slice ta np np, .int .i64 0], .slice ma (2 * ns) (2 * ns)]) ∧ Old w w' ∧ PartsAt .i64 w' ta np Tx (Js ns Is) ∧ FnAt w' ma (2 * ns) (mval s.size On A B)

theorem cell_two_set (w : World) (R : Nat) (x y : Value) {b o : Nat} (h : b ≠ R) : ((w.setCell ⟨R, 0, none⟩ x).setCell ⟨R, 1, none⟩ y).cell? ⟨b, o, none⟩ = w.cell? ⟨b, o, none⟩ := by
  rw [World.cell?_setCell_other _ _ _ _ (fun e => h (congrArg Addr.block e).symm), World.cell?_setCell_other _ _ _ _ (fun e => h (congrArg Addr.block e).symm)]

theorem owns_cells {w : World} {base TP n cap : Nat} {cs : List Value} (h : w.ownsRow base 63 2 (.slice (some ⟨TP, 0, none⟩) n cap) n cs) : TP < w.heap.size ∧ ∀ j, j < n * 2 → w.cell? ⟨TP, j, none⟩ = cs[j]? := by
  rcases h.2 with ⟨hv, _⟩ | ⟨g, cap', cur, hv, hg, hh, h3, h4, h5, h6⟩
  · cases hv
  · simp only [Value.slice.injEq, Option.some.injEq, Addr.mk.injEq] at hv
    obtain ⟨⟨rfl, _, _⟩, _, rfl⟩ := hv
    refine ⟨(Array.getElem?_eq_some_iff.1 hh).1, fun j hj => ?_⟩
    rw [← h6, List.getElem?_take_of_lt hj, Array.getElem?_toList]
    simp [World.cell?, hh]

theorem build_end {w w2 wr : World} {np ns : Nat} {s : ByteArray} {Tx : Nat → ByteArray} {Is : Nat → List Int} {On : Nat → Bool} {A B : Nat → Int} {cs : List Value} (hOw : Old w wr) (hO2 : Old w2 wr) (hw2 : w.heap.size + 1 < w2.heap.size)
    (hrow : w2.rowIs (w.heap.size + 1) 3 (2 * ns) (mrow s.size On A B ns)) (hown : wr.ownsRow w2.heap.size 63 2 (.slice (some ⟨w2.heap.size, 0, none⟩) np np) np cs) (hT : TplIn wr w2.heap.size ns Tx Is np cs) (x y : Value) :
    BuildEnd w np ns s Tx Is On A B (.returned (.tuple #[.agg #[.slice (some ⟨w2.heap.size, 0, none⟩) np np, .int .i64 0], .slice (some ⟨w.heap.size + 1, 0, none⟩) (2 * ns) (2 * ns)])) ((wr.setCell ⟨w.heap.size, 0, none⟩ x).setCell ⟨w.heap.size, 1, none⟩ y) := by
  have hs2 := hO2.size
  obtain ⟨hTP, hcs⟩ := owns_cells hown
  refine ⟨_, _, rfl, (hOw.setCell (Nat.le_refl _) _).setCell (Nat.le_refl _) _, fun hp => ⟨w2.heap.size, 0, rfl, by simpa using hTP, fun i hi => ?_⟩, fun hp => ⟨w.heap.size + 1, 0, rfl, by simp; omega, fun j hj => ?_⟩⟩
  · obtain ⟨h1, ga, gc, h2, h3⟩ := hT i hi
    refine ⟨?_, ga, gc, ?_, fun hp => ?_⟩
    · rw [cell_two_set _ _ _ _ (by omega), Nat.zero_add, hcs _ (by omega)]; exact h1
    · rw [cell_two_set _ _ _ _ (by omega), Nat.zero_add, hcs _ (by omega)]; exact h2
    · obtain ⟨b, off, ha, hb, hlt, hc⟩ := h3 hp
      exact ⟨b, off, ha, by simpa using hb, fun j hj => by rw [cell_two_set _ _ _ _ (by omega)]; exact hc j hj⟩
  · rw [cell_two_set _ _ _ _ (by omega), hO2.cell (by omega), Nat.zero_add, hrow.cell hj]
    simp [mrow, hj]

set_option maxHeartbeats 1000000 in
theorem build_any (pa : Option Addr) (np pc : Nat) (sa : Option Addr) (ns sc : Nat) (s : ByteArray) (Tx : Nat → ByteArray) (Is : Nat → List Int) (On : Nat → Bool) (A B : Nat → Int) (w : World)
    (h2 : s.size ≤ 4096) (h3 : np ≤ 300) (h4 : ns ≤ 300) (hI : Hid (∀ i, i < np → (Is i).length ≤ 300)) (hB : Hid (∀ i, i < np → ∀ j : Nat, j < (Is i).length → 0 ≤ (Is i)[j]?.getD 0 ∧ (Is i)[j]?.getD 0 ≤ 255))
    (HP : Hid (PartsAt .u8 w pa np Tx Is)) (HS : Hid (SpansAt w sa ns On A B)) :
    Calls Yba.prog 10 #[.slice pa np pc, .slice sa ns sc, .string s] w (BuildEnd w np ns s Tx Is On A B) := by
  have hmk := run_make_row' (P := Yba.prog) 50 3 (.int .i64 0) 8 Yba.underlying50 info3 rfl .i64 .i64 (2 * ns) (by omega) (by omega)
  have ec : ((2 * ns : Nat) : Int) = 2 * (ns : Int) := by omega
  rw [ec] at hmk
  clear ec
  go_enter Yba.func10, Yba.ntmps10
  go_wp2_with fail
  obtain ⟨w1, hw1⟩ : ∃ w1, w1 = w.alloc (.cells #[.slice none 0 0, .int .i64 0] 49) := ⟨_, rfl⟩
  have hsz1 : w1.heap.size = w.heap.size + 1 := by rw [hw1]; simp
  go_loopw [25] (fun i wr => ∃ k : Nat, k ≤ ns ∧ i = .int .i64 k ∧ wr.rowIs (w.heap.size + 1) 3 (2 * ns) (mrow s.size On A B k) ∧ Old w1 wr) (fun i _ => ns - (intOf i).toNat)
  case atStart =>
    refine ⟨0, Nat.zero_le _, rfl, ?_, ?_⟩
    · rw [← hw1, ← hsz1]
      exact (World.rowIs_made w1 (.int .i64 0) (2 * ns) 3).congr (fun j hj => by simp [mrow])
    · rw [← hw1]
      exact (Old.refl w1).alloc _
  case round =>
    obtain ⟨k, hk, rfl, hrow, hO⟩ := hrel
    by_cases hlt : k < ns
    · obtain ⟨b, off, rfl, hb, hc⟩ := HS.out (by omega)
      obtain ⟨c0, c1, c2, a0, a1, b0, b1⟩ := hc k hlt
      have hO' : Old w wr := Old.trans (by rw [hw1]; exact (Old.refl w).alloc _) hO
      have d0 := (hO'.cell hb).trans c0
      have d1 := (hO'.cell hb).trans c1
      have d2 := (hO'.cell hb).trans c2
      have hbr : b < wr.heap.size := Nat.lt_of_lt_of_le hb hO'.size
      have r0 := hrow.cell (i := 2 * k) (by omega)
      have r1 := hrow.cell (i := 2 * k + 1) (by omega)
      have f0 := hrow.frozen (2 * k)
      have f1 := hrow.frozen (2 * k + 1)
      have hMr := hrow.lt
      have hMr1 : w.heap.size + 1 < wr.heap.size + 1 := by omega
      have hMr2 : w.heap.size + 1 < wr.heap.size + 1 + 1 := by omega
      clear hc c0 c1 c2
      cases hOn : On k with
      | true =>
        rw [hOn] at d0
        go_wp2_with (go_at_call 11; refine (span_any _ _ _ _ _ a0 a1 b0 b1 h2).mono ?_; rintro e w' ⟨rfl, rfl⟩)
        have hs1 := mrow_step hrow (mval_even s.size On A B k).symm (mval_odd s.size On A B k).symm
        simp only [hOn, if_true] at hs1
        go_roundw
        case rel => exact ⟨k + 1, by omega, by go_num, (hs1.alloc _).alloc _, (((hO.setCell (by rw [hsz1]; exact Nat.le_refl _) _).setCell (by rw [hsz1]; exact Nat.le_refl _) _).alloc _).alloc _⟩
        case measure => simp [intOf]; omega
      | false =>
        rw [hOn] at d0
        go_wp2_with fail
        have hs1 := mrow_step hrow (mval_even s.size On A B k).symm (mval_odd s.size On A B k).symm
        simp only [hOn] at hs1
        go_roundw
        case rel => exact ⟨k + 1, by omega, by go_num, hs1.alloc _, ((hO.setCell (by rw [hsz1]; exact Nat.le_refl _) _).setCell (by rw [hsz1]; exact Nat.le_refl _) _).alloc _⟩
        case measure => simp [intOf]; omega
    · obtain rfl : ns = k := by omega
      clear hlt hk
      obtain ⟨i63, j1, j2, j3, j4⟩ := info_parts info63
      go_wp2_with (at_make; refine wpList_make_own _ rfl (.const (.int .i64 0)) (.tmp 60) 47 rfl wr.heap.size 63 i63 (.agg #[.string ByteArray.empty, .slice none 0 0]) 2 Yba.underlying47 j1 j2 j3 .i64 .i64 _ np rfl rfl rfl (by rw [j4]; omega) (by unfold maxLen; omega) (Nat.le_refl _) ?_; intro w3 hown3 hgr3)
      generalize hw2 : wr = w2 at *
      clear hw2
      have hO3 : Old w2 w3 := (Old.refl w2).grown hgr3 (fun k h => by cases h)
      have hT3 : Hid (TplIn w3 w2.heap.size ns Tx Is 0 []) := fun i hi => absurd hi (Nat.not_lt_zero _)
      clear hgr3
      go_loopw [13, 64] (fun v i wx => ∃ (k : Nat) (cs : List Value), k ≤ np ∧ i = .int .i64 k ∧ v = .slice (some ⟨w2.heap.size, 0, none⟩) k np ∧ wx.ownsRow w2.heap.size 63 2 (.slice (some ⟨w2.heap.size, 0, none⟩) k np) k cs ∧
          Hid (TplIn wx w2.heap.size ns Tx Is k cs) ∧ Old w2 wx) (fun _ i _ => np - (intOf i).toNat)
      case atStart => exact ⟨0, [], Nat.zero_le _, rfl, rfl, hown3, hT3, hO3⟩
      case round =>
        obtain ⟨k, cs, hk, rfl, rfl, hown, hT, hO2⟩ := hrel
        clear hown3 hT3 hO3
        have hOw2 : Old w w2 := Old.trans (by rw [hw1]; exact (Old.refl w).alloc _) hO
        have hOw : Old w wr := hOw2.trans hO2
        by_cases hlt : k < np
        · obtain ⟨b, off, rfl, hb, hc⟩ := HP.out (by omega)
          obtain ⟨c0, ga, gc, c1, hints⟩ := hc k hlt
          have d0 := (hOw.cell hb).trans c0
          have d1 := (hOw.cell hb).trans c1
          have hbr : b < wr.heap.size := Nat.lt_of_lt_of_le hb hOw.size
          clear hc c0 c1
          rcases Nat.eq_zero_or_pos ns with hns | hns
          · have HN : Hid (ns = 0) := hns
            have hle : (ns : Int) ≤ 0 := by omega
            clear hns
            go_wp2_with (at_builtin; refine wpList_append_fits _ rfl (.tmp 87) (.tmp 92) 47 rfl w2.heap.size 63 i63 2 Yba.underlying47 j1 j3 w2.heap.size k np cs rfl ((hown.alloc _).alloc _) ⟨wr.heap.size + 1, 0, none⟩ 1 1 [.string (Tx k), .slice none 0 0] rfl rfl ?c1 ?c2 (by omega) ?_)
            case c1 => exact two_new _ _ _ _ _ (by simp)
            case c2 => exact two_one _ _ rfl rfl
            · intro w5 hown5 hgr5
              go_wp2_with fail
              have hJ : Js ns Is k = [] := by simp [Js, HN.out]
              have R := tpl_step ((hown.alloc _).alloc _) ((hT.out.alloc _).alloc _) ((hO2.alloc _).alloc _) (a := none) (c := 0) (by rw [hJ]; exact fun h => absurd h (Nat.lt_irrefl _)) (by rw [hJ]; exact hown5) hgr5
              go_roundw
              case rel => exact ⟨k + 1, _, by omega, by go_num, rfl, R.1, R.2.1, R.2.2⟩
              case measure => simp [intOf]; omega
          · go_wp2_with fail
            obtain ⟨wc, hwc⟩ : ∃ wc, wc = wr.alloc (.cells #[.string (Tx k), .slice ga (Is k).length gc] 54) := ⟨_, rfl⟩
            have HW : Hid (wc = wr.alloc (.cells #[.string (Tx k), .slice ga (Is k).length gc] 54)) := hwc
            have HSZ : Hid (wc.heap.size = wr.heap.size + 1) := by rw [hwc]; exact World.size_alloc _ _
            have hOwc : Old w wc := by rw [hwc]; exact hOw.alloc _
            have hO2c : Old w2 wc := by rw [hwc]; exact hO2.alloc _
            have tc0 : wc.cell? ⟨wr.heap.size, 0, none⟩ = some (.string (Tx k)) := by rw [hwc]; simp
            have hownc : wc.ownsRow w2.heap.size 63 2 (.slice (some ⟨w2.heap.size, 0, none⟩) k np) k cs := by rw [hwc]; exact hown.alloc _
            have hTc : Hid (TplIn wc w2.heap.size ns Tx Is k cs) := by
              rw [hwc]
              exact hT.out.carry (by simp) (fun b hb _ => Below.heap_alloc _ _ _ hb)
            have hIk := hI.out k hlt
            have HBk : Hid (∀ j : Nat, j < (Is k).length → 0 ≤ (Is k)[j]?.getD 0 ∧ (Is k)[j]?.getD 0 ≤ 255) := hB.out k hlt
            have HInt : Hid (IntsAt .u8 w ga (Is k)) := hints
            have hw2c : w2.heap.size < wc.heap.size := by have := hO2.size; have := HSZ.out; omega
            obtain ⟨i3, l1, l2, l3, l4⟩ := info_parts info3
            rw [← hwc]
            clear hwc hints hown hT hO2 hOw d0 d1
            go_loopw [16, 74] (fun v i wi => ∃ j : Nat, j ≤ (Is k).length ∧ i = .int .i64 j ∧ wi.ownsRow wc.heap.size 3 1 v j (gcells ns (Is k) j) ∧ Old wc wi) (fun _ i _ => (Is k).length - (intOf i).toNat)
            case atStart => exact ⟨0, Nat.zero_le _, rfl, World.ownsRow_nil _ _ _ _, Old.refl _⟩
            case round =>
              obtain ⟨j, hj, rfl, howni, hOi⟩ := hrel
              by_cases hjl : j < (Is k).length
              · obtain ⟨bg, og, rfl, hbg, hcg⟩ := HInt.out (by omega)
                have hcj : wr.cell? ⟨bg, og + j, none⟩ = some (.int .u8 ((Is k)[j]?.getD 0)) := ((hOwc.trans hOi).cell hbg).trans (hcg j hjl)
                obtain ⟨x0, x1⟩ := HBk.out j hjl
                have HTM := gcells_succ (Is k) ns j hjl
                clear hcg
                obtain ⟨x, hx⟩ : ∃ x, (Is k)[j]?.getD 0 = x := ⟨_, rfl⟩
                rw [hx] at hcj x0 x1 HTM
                have HM : Hid (gcells ns (Is k) (j + 1) = gcells ns (Is k) j ++ [.int .i64 (x % (ns : Int))]) := HTM
                clear hx HTM
                have hwi := hOi.size
                go_wp2_with (at_builtin; refine wpList_append_own _ rfl (.tmp 78) (.tmp 84) 50 rfl wc.heap.size 3 i3 (.int .i64 0) 1 8 Yba.underlying50 l1 l2 l3 l4 rfl (by decide) _ j _ rfl (howni.alloc _) ⟨wr.heap.size, 0, none⟩ 1 1 [.int .i64 (x % (ns : Int))] rfl rfl ?q1 ?q2 ?q3 ?q4 ?q5 ?_)
                case q1 => exact cell_one_new _ _ _
                case q2 => intro u hu; simp at hu; subst hu; rfl
                case q3 => unfold maxLen; omega
                case q4 => omega
                case q5 => simp; omega
                · intro v' w6 hown6 hgr6 _
                  go_wp2_with fail
                  go_roundw
                  case rel => exact ⟨j + 1, by omega, by go_num, by rw [HM.out]; exact hown6, (hOi.alloc _).grown hgr6 (owns_block howni)⟩
                  case measure => simp [intOf]; omega
              · have hj' : j = (Is k).length := by omega
                have hJ : Js ns Is k = (Is k).map (fun g => g % (ns : Int)) := by simp [Js, Nat.ne_of_gt hns]
                have hJl : (Js ns Is k).length = (Is k).length := by rw [hJ, List.length_map]
                have hgc : gcells ns (Is k) j = (Js ns Is k).map (Value.int .i64) := by rw [hJ]; unfold gcells; rw [List.take_of_length_le (by rw [List.length_map]; omega)]
                rw [hgc] at howni
                clear hgc
                obtain ⟨_, ga', gc', hv, hout⟩ := owns_out howni hw2c
                rw [hj'] at hv
                subst hv
                have ht0 := (hOi.cell (by rw [HSZ.out]; omega)).trans tc0
                have hownw := owns_old hownc hOi
                have hTw : Hid (TplIn wr w2.heap.size ns Tx Is k cs) := hTc.out.carry hOi.size (fun b hb _ => hOi.block b hb)
                have hO2w : Old w2 wr := hO2c.trans hOi
                have HJ : Hid ((Js ns Is k).length = (Is k).length) := hJl
                have HOut : Hid (OutAt wr w2.heap.size ga' (Js ns Is k)) := hout
                have hlt2 : w2.heap.size < wr.heap.size := by have := hOi.size; omega
                clear hJ hJl hj' howni hownc hout
                go_wp2_with (at_builtin; refine wpList_append_fits _ rfl (.tmp 87) (.tmp 92) 47 rfl w2.heap.size 63 i63 2 Yba.underlying47 j1 j3 w2.heap.size k np cs rfl (hownw.alloc _) ⟨wr.heap.size, 0, none⟩ 1 1 [.string (Tx k), .slice ga' (Is k).length gc'] rfl rfl ?p1 ?p2 (by omega) ?_)
                case p1 => exact two_new _ _ _ _ _ rfl
                case p2 => exact two_one _ _ rfl rfl
                · intro w5 hown5 hgr5
                  go_wp2_with fail
                  have R := tpl_step (hownw.alloc _) (hTw.out.alloc _) (hO2w.alloc _) (a := ga') (c := gc') (HOut.out.alloc _) (by rw [HJ.out]; exact hown5) hgr5
                  go_roundw
                  case rel => exact ⟨k + 1, _, by omega, by go_num, rfl, R.1, R.2.1, R.2.2⟩
                  case measure => simp [intOf]; omega
        · obtain rfl : np = k := by omega
          clear hlt hk
          have hO1 : Old w1 wr := hO.trans hO2
          have hb1 : w.heap.size < w1.heap.size := by omega
          have e0 : wr.cell? ⟨w.heap.size, 0, none⟩ = some (.slice none 0 0) := (hO1.cell hb1).trans (by rw [hw1]; simp)
          have e1 : wr.cell? ⟨w.heap.size, 1, none⟩ = some (.int .i64 0) := (hO1.cell hb1).trans (by rw [hw1]; simp)
          have g0 : wr.frozen? ⟨w.heap.size, 0, none⟩ = false := (hO1.frozen hb1).trans (by rw [hw1]; exact World.frozen?_alloc_new _ _ _ _)
          have g1 : wr.frozen? ⟨w.heap.size, 1, none⟩ = false := (hO1.frozen hb1).trans (by rw [hw1]; exact World.frozen?_alloc_new _ _ _ _)
          have hw1' : Hid (w1 = w.alloc (.cells #[.slice none 0 0, .int .i64 0] 49)) := hw1
          clear hw1
          go_wp2_with fail
          refine bodyPost_ret (v := .tuple #[.agg #[.slice (some ⟨w2.heap.size, 0, none⟩) np np, .int .i64 0], .slice (some ⟨w.heap.size + 1, 0, none⟩) (2 * ns) (2 * ns)]) (by simp [results, Yba.results10, go_sem, e0, e1]) rfl ?_
          exact build_end ((Old.trans (by rw [hw1'.out]; exact (Old.refl w).alloc _) hO).trans hO2) hO2 hrow.lt hrow hown hT.out _ _

end Go.Proofs.Ybulkdfse.C
