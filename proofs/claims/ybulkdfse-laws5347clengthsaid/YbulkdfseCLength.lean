/-
  THE WALK of LawS5347CLength (5).
-/
import Derived.Test.YbulkdfseCCopy
namespace Go.Proofs.Ybulkdfse.C
open Go.RowKit

theorem came_nil (w : World) : Came w 1 none 0 0 0 0 [] :=
  ⟨Nat.le_refl _, fun h => absurd h (Nat.lt_irrefl _), fun h => absurd h (Nat.lt_irrefl _), rfl, fun j u hj => by simp at hj, fun j hj => by simp at hj⟩

set_option maxHeartbeats 2000000 in
theorem clength_any (oa : Option Addr) (ol oc : Nat) (ozs : List Int) (s : ByteArray) (pa : Option Addr) (np pc : Nat) (sa : Option Addr) (ns sc : Nat) (Tx : Nat → ByteArray) (Is : Nat → List Int) (On : Nat → Bool) (A B : Nat → Int) (w : World)
    (hB : Hid (∀ i, i < np → ∀ j : Nat, j < (Is i).length → 0 ≤ (Is i)[j]?.getD 0 ∧ (Is i)[j]?.getD 0 ≤ 255))
    (HO : Hid (IntsAt .u8 w oa ozs)) (HL : Hid (ozs.length = ol)) (HP : Hid (PartsAt .u8 w pa np Tx Is)) (HS : Hid (SpansAt w sa ns On A B)) :
    Calls Yba.prog 5 #[.slice oa ol oc, .string s, .slice pa np pc, .slice sa ns sc] w fun e w' => e = .returned (.bool true) ∧ Old w w' := by
  go_enter Yba.func5, Yba.ntmps5
  go_wp2_with fail
  refine (guard_any oa ol oc s pa np pc sa ns sc Tx Is w HP.out).mono ?_
  rintro e w1 ⟨r, rfl, hO1, hsm⟩
  cases r with
  | false =>
    go_wp2_with fail
    go_ret
    exact ⟨rfl, hO1⟩
  | true =>
    have HSm : Hid (Small ol s np ns Tx Is) := hsm rfl
    clear hsm
    obtain ⟨z1, z2, z3, z4, z5⟩ := HSm.out
    have hmk := run_make_row' (P := Yba.prog) 22 5 (.int .u8 0) 1 Yba.underlying22 info5 rfl .i64 .i64 ol (by omega) (by omega)
    have HP1 : Hid (PartsAt .u8 w1 pa np Tx Is) := HP.out.old hO1
    have HS1 : Hid (SpansAt w1 sa ns On A B) := HS.out.old hO1
    have HI : Hid (∀ i, i < np → (Is i).length ≤ 300) := fun i hi => (z5 i hi).1
    clear z5
    obtain ⟨Z, hZ1, hZ2⟩ := zeros_list ol
    obtain ⟨cs, hcs⟩ : ∃ cs, cs = u8s ozs := ⟨_, rfl⟩
    have HZ : Hid (Z.toArray = madeCells #[.int .u8 0] ol ∧ Z.length = ol ∧ cs = u8s ozs ∧ cs.length = ol) := ⟨hZ1, hZ2, hcs, by rw [hcs, u8s_length]; exact HL.out⟩
    clear hZ1 hZ2 hcs
    go_wp2_with fail
    refine (build_any pa np pc sa ns sc s Tx Is On A B _ z2 z3 z4 HI hB HP1 HS1).mono ?_
    rintro e w2 ⟨ta, ma, rfl, hO2, hPT, hFM⟩
    have hOw2 : Old w w2 := hO1.trans hO2
    have HPT : Hid (PartsAt .i64 w2 ta np Tx (Js ns Is)) := hPT
    have HFM : Hid (FnAt w2 ma (2 * ns) (mval s.size On A B)) := hFM
    clear hPT hFM HP1 HS1
    have HC0 : Hid (CellsAt w2 oa cs) := by rw [HZ.out.2.2.1]; exact (ints_cells HO.out).old hOw2
    have h1c : Hid (∀ v ∈ cs, v.oneCell' = true) := by rw [HZ.out.2.2.1]; exact u8s_one _
    obtain ⟨w3, run3, hG3, hB3⟩ := copy_run ((w2.alloc (.cells #[.slice ta np np, .int .i64 0] 49)).alloc (.cells (madeCells #[.int .u8 0] ol) 5)) (w2.heap.size + 1) oa ol oc Z cs (by rw [HZ.out.1]; exact heap_two _ _ _) HZ.out.2.1 HZ.out.2.2.2 (HC0.out.old (((Old.refl _).alloc _).alloc _)) h1c.out
    have hOt : Old w2 (w2.alloc (.cells #[.slice ta np np, .int .i64 0] 49)) := (Old.refl _).alloc _
    have hO3 : Old (w2.alloc (.cells #[.slice ta np np, .int .i64 0] 49)) w3 := by
      refine (Old.below ?_)
      refine Below.trans (b := (w2.alloc (.cells #[.slice ta np np, .int .i64 0] 49)).alloc (.cells (madeCells #[.int .u8 0] ol) 5)) ((Below.refl _ _).alloc (Nat.le_refl _) _) ?_
      simpa using hB3
    have HG3 : Hid (w3.heap[w2.heap.size + 1]? = some (.cells cs.toArray 5 (0, 0))) := hG3
    clear hG3 hB3 HC0
    obtain ⟨m, hm⟩ : ∃ m, m = mval s.size On A B := ⟨_, rfl⟩
    have HFits : Hid (Fits s np (2 * ns) Tx (Js ns Is) m) := by rw [hm]; exact fits_of HSm.out
    rw [← hm] at HFM
    clear hm
    have hO2r : Old w2 w3 := hOt.trans hO3
    have t0 : w3.cell? ⟨w2.heap.size, 0, none⟩ = some (.slice ta np np) := (hO3.cell (by simp)).trans (by simp)
    have t1 : w3.cell? ⟨w2.heap.size, 1, none⟩ = some (.int .i64 0) := (hO3.cell (by simp)).trans (by simp)
    have hcoc : Came w3 1 (some ⟨w2.heap.size + 1, 0, none⟩) (w2.heap.size + 1) 0 ol ol cs := row_came HG3.out HZ.out.2.2.2
    have HPr : Hid (PartsAt .i64 w3 ta np Tx (Js ns Is)) := HPT.out.old hO2r
    have HFr : Hid (FnAt w3 ma (2 * ns) m) := HFM.out.old hO2r
    have hOw3 : Old w w3 := hOw2.trans hO2r
    have hlt2 : w2.heap.size < w3.heap.size := by have := hO3.size; simp at this; omega
    obtain ⟨nsum, hns⟩ := cat_u8s s m Tx (Js ns Is) np
    have hcat := HFits.out.cat np (Nat.le_refl _)
    rw [hns, u8s_length] at hcat
    have HN : Hid (cat s m Tx (Js ns Is) np = u8s nsum ∧ cs = u8s ozs ∧ cs.length = ol) := ⟨hns, HZ.out.2.2.1, HZ.out.2.2.2⟩
    clear hns
    go_wp2_with fail
    refine (expand_any ta np np 0 (some ⟨w2.heap.size + 1, 0, none⟩) (w2.heap.size + 1) 0 ol cs s ma (2 * ns) (2 * ns) Tx (Js ns Is) m w3 HFits.out z1 hcoc HPr HFr).mono ?_
    rintro e w5 ⟨ya, yc, hy, hyl, _, hO5, hcy, hya⟩
    rw [HN.out.2.2, HN.out.1, u8s_length] at hy hyl
    rw [HN.out.1, HN.out.2.1, ← u8s_append] at hcy
    subst hy
    have hya' : ∃ b off, ya = some ⟨b, off, none⟩ := by
      rcases hya with h | h
      · exact ⟨_, _, h⟩
      · exact h
    obtain ⟨yb, yo, rfl⟩ := hya'
    clear hya run3 hmk
    have u0 := (hO5.cell hlt2).trans t0
    have u1 := (hO5.cell hlt2).trans t1
    have HP5 : Hid (PartsAt .i64 w5 ta np Tx (Js ns Is)) := HPr.out.old hO5
    have HF5 : Hid (FnAt w5 ma (2 * ns) m) := HFr.out.old hO5
    have hlt5 : w2.heap.size < w5.heap.size := Nat.lt_of_lt_of_le hlt2 hO5.size
    go_wp2_with fail
    refine (expand_any ta np np 0 none 0 0 0 [] s ma (2 * ns) (2 * ns) Tx (Js ns Is) m w5 HFits.out (Nat.zero_le _) (came_nil w5) HP5 HF5).mono ?_
    rintro e w6 ⟨za, zc, hz, _, _, hO6, hcz, _⟩
    rw [HN.out.1, u8s_length, List.length_nil, Nat.zero_add] at hz
    rw [HN.out.1, List.nil_append] at hcz
    subst hz
    have v0 := (hO6.cell hlt5).trans u0
    have v1 := (hO6.cell hlt5).trans u1
    have HP6 : Hid (PartsAt .i64 w6 ta np Tx (Js ns Is)) := HP5.out.old hO6
    have HF6 : Hid (FnAt w6 ma (2 * ns) m) := HF5.out.old hO6
    have hlt6 : w2.heap.size < w6.heap.size := Nat.lt_of_lt_of_le hlt5 hO6.size
    go_wp2_with fail
    refine (length_any ta np np 0 s ma (2 * ns) (2 * ns) Tx (Js ns Is) m w6 HFits.out HP6 HF6).mono ?_
    rintro e w7 ⟨he, hO7⟩
    rw [HN.out.1, u8s_length] at he
    subst he
    have x0 := (hO7.cell hlt6).trans v0
    have x1 := (hO7.cell hlt6).trans v1
    have HP7 : Hid (PartsAt .i64 w7 ta np Tx (Js ns Is)) := HP6.out.old hO7
    have HF7 : Hid (FnAt w7 ma (2 * ns) m) := HF6.out.old hO7
    go_wp2_with fail
    refine (length_any ta np np 0 s ma (2 * ns) (2 * ns) Tx (Js ns Is) m w7 HFits.out HP7 HF7).mono ?_
    rintro e w8 ⟨he, hO8⟩
    rw [HN.out.1, u8s_length] at he
    subst he
    go_wp2_with fail
    have hO68 : Old w6 w8 := hO7.trans hO8
    have hO58 : Old w5 w8 := hO6.trans hO68
    have hlo : ozs.length = ol := HL.out
    have k2 := fun n => conv_any (w8.drewN n) za nsum.length zc nsum rfl (hcz.old (hO68.drewN n))
    by_cases hyc : yc = ol
    · have hn0 : nsum = [] := List.eq_nil_of_length_eq_zero (by omega)
      subst hn0
      subst hyc
      have k1 := fun n => conv_any (w8.drewN n) (some ⟨yb, yo, none⟩) 0 0 [] rfl (fun hp => absurd hp (Nat.lt_irrefl _))
      simp only [List.length_nil] at k2
      clear hcy hcz hyl
      go_quiet (fail)
      go_wp2_with fail
      go_ret
      exact ⟨rfl, (hOw3.trans (hO5.trans hO58)).drewN _⟩
    · have hyt : CellsAt w5 (some ⟨yb, yo + ol, none⟩) (u8s nsum) := fun hp => by
        rw [u8s_length] at hp
        obtain ⟨b, off, ha, hb, hc⟩ := hcy (by rw [u8s_length, List.length_append]; omega)
        simp only [Option.some.injEq, Addr.mk.injEq] at ha
        obtain ⟨rfl, rfl, _⟩ := ha
        refine ⟨yb, yo + ol, rfl, hb, fun j hj => ?_⟩
        rw [u8s_length] at hj
        have h := hc (ol + j) (by rw [u8s_length, List.length_append]; omega)
        rw [u8s_append, List.getElem?_append_right (by rw [u8s_length]; omega), u8s_length, hlo, show ol + j - ol = j by omega] at h
        rw [show yo + ol + j = yo + (ol + j) by omega]
        exact h
      have k1 := fun n => conv_any (w8.drewN n) (some ⟨yb, yo + ol, none⟩) nsum.length (yc - ol) nsum rfl (hyt.old (hO58.drewN n))
      clear hyt hcy hcz
      go_quiet (fail)
      go_wp2_with fail
      go_ret
      exact ⟨rfl, (hOw3.trans (hO5.trans hO58)).drewN _⟩

end Go.Proofs.Ybulkdfse.C
