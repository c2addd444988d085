/-
  THE WALK of LawS5347CModel (4).
-/
import Derived.Test.YbulkdfseCCopy
namespace Go.Proofs.Ybulkdfse.C
open Go.RowKit

set_option maxHeartbeats 2000000 in
theorem model_any (oa : Option Addr) (ol oc : Nat) (ozs : List Int) (s : ByteArray) (pa : Option Addr) (np pc : Nat) (sa : Option Addr) (ns sc : Nat) (Tx : Nat → ByteArray) (Is : Nat → List Int) (On : Nat → Bool) (A B : Nat → Int) (w : World)
    (hB : Hid (∀ i, i < np → ∀ j : Nat, j < (Is i).length → 0 ≤ (Is i)[j]?.getD 0 ∧ (Is i)[j]?.getD 0 ≤ 255))
    (HO : Hid (IntsAt .u8 w oa ozs)) (HL : Hid (ozs.length = ol)) (HP : Hid (PartsAt .u8 w pa np Tx Is)) (HS : Hid (SpansAt w sa ns On A B)) :
    Calls Yba.prog 4 #[.slice oa ol oc, .string s, .slice pa np pc, .slice sa ns sc] w fun e w' => e = .returned (.bool true) ∧ Old w w' := by
  go_enter Yba.func4, Yba.ntmps4
  go_wp2_with fail
  refine (guard_any oa ol oc s pa np pc sa ns sc Tx Is w HP.out).mono ?_
  rintro e w1 ⟨r, rfl, hO1, hsm⟩
  cases r with
  | false =>
    go_wp2_with fail
    go_ret
    exact ⟨rfl, hO1⟩
  | true =>
    have HSm : Hid (Small ol s np ns Tx Is) := hsm rfl
    clear hsm
    obtain ⟨z1, z2, z3, z4, z5⟩ := HSm.out
    have hmk := run_make_row' (P := Yba.prog) 22 5 (.int .u8 0) 1 Yba.underlying22 info5 rfl .i64 .i64 ol (by omega) (by omega)
    have HP1 : Hid (PartsAt .u8 w1 pa np Tx Is) := HP.out.old hO1
    have HS1 : Hid (SpansAt w1 sa ns On A B) := HS.out.old hO1
    have HI : Hid (∀ i, i < np → (Is i).length ≤ 300) := fun i hi => (z5 i hi).1
    have HTx : Hid (∀ i, i < np → (Tx i).size ≤ 4096) := fun i hi => (z5 i hi).2
    clear z5
    obtain ⟨Z, hZ1, hZ2⟩ := zeros_list ol
    obtain ⟨cs, hcs⟩ : ∃ cs, cs = u8s ozs := ⟨_, rfl⟩
    have HZ : Hid (Z.toArray = madeCells #[.int .u8 0] ol ∧ Z.length = ol ∧ cs = u8s ozs ∧ cs.length = ol) := ⟨hZ1, hZ2, hcs, by rw [hcs, u8s_length]; exact HL.out⟩
    clear hZ1 hZ2 hcs
    go_wp2_with fail
    refine (build_any pa np pc sa ns sc s Tx Is On A B _ z2 z3 z4 HI hB HP1 HS1).mono ?_
    rintro e w2 ⟨ta, ma, rfl, hO2, hPT, hFM⟩
    have hOw2 : Old w w2 := hO1.trans hO2
    have HPT : Hid (PartsAt .i64 w2 ta np Tx (Js ns Is)) := hPT
    have HFM : Hid (FnAt w2 ma (2 * ns) (mval s.size On A B)) := hFM
    clear hPT hFM HP1 HS1
    have HC0 : Hid (CellsAt w2 oa cs) := by rw [HZ.out.2.2.1]; exact (ints_cells HO.out).old hOw2
    have h1c : Hid (∀ v ∈ cs, v.oneCell' = true) := by rw [HZ.out.2.2.1]; exact u8s_one _
    obtain ⟨w3, run3, hG3, hB3⟩ := copy_run ((w2.alloc (.cells #[.slice ta np np, .int .i64 0] 49)).alloc (.cells (madeCells #[.int .u8 0] ol) 5)) (w2.heap.size + 1) oa ol oc Z cs (by rw [HZ.out.1]; exact heap_two _ _ _) HZ.out.2.1 HZ.out.2.2.2 (HC0.out.old (((Old.refl _).alloc _).alloc _)) h1c.out
    have hOt : Old w2 (w2.alloc (.cells #[.slice ta np np, .int .i64 0] 49)) := (Old.refl _).alloc _
    have hO3 : Old (w2.alloc (.cells #[.slice ta np np, .int .i64 0] 49)) w3 := by
      refine (Old.below ?_)
      refine Below.trans (b := (w2.alloc (.cells #[.slice ta np np, .int .i64 0] 49)).alloc (.cells (madeCells #[.int .u8 0] ol) 5)) ((Below.refl _ _).alloc (Nat.le_refl _) _) ?_
      simpa using hB3
    have HC3 : Hid (CellsAt w3 oa cs) := HC0.out.old (hOt.trans hO3)
    obtain ⟨w4, run4, hG4, hB4⟩ := copy_run (w3.alloc (.cells (madeCells #[.int .u8 0] ol) 5)) w3.heap.size oa ol oc Z cs (by rw [HZ.out.1]; exact heap_one _ _) HZ.out.2.1 HZ.out.2.2.2 (HC3.out.old ((Old.refl _).alloc _)) h1c.out
    have hO4 : Old w3 w4 := Old.below (Below.trans (b := w3.alloc (.cells (madeCells #[.int .u8 0] ol) 5)) ((Below.refl _ _).alloc (Nat.le_refl _) _) hB4)
    have HG3 : Hid (w3.heap[w2.heap.size + 1]? = some (.cells cs.toArray 5 (0, 0))) := hG3
    have HG4 : Hid (w4.heap[w3.heap.size]? = some (.cells cs.toArray 5 (0, 0))) := hG4
    clear hG3 hG4 hB3 hB4 HC0
    go_wp2_with fail
    clear run3 run4 hmk
    obtain ⟨m, hm⟩ : ∃ m, m = mval s.size On A B := ⟨_, rfl⟩
    have HFits : Hid (Fits s np (2 * ns) Tx (Js ns Is) m) := by rw [hm]; exact fits_of HSm.out
    have HMe : Hid (∀ k, m (2 * k) = if On k then loS s.size (A k) (B k) else -1) := by rw [hm]; exact mval_even s.size On A B
    have HMo : Hid (∀ k, m (2 * k + 1) = if On k then hiS s.size (A k) (B k) else -1) := by rw [hm]; exact mval_odd s.size On A B
    rw [← hm] at HFM
    clear hm
    have hcW : Came w4 1 (some ⟨w3.heap.size, 0, none⟩) w3.heap.size 0 ol ol cs := row_came HG4.out HZ.out.2.2.2
    have hOw4 : Old w w4 := (hOw2.trans (hOt.trans hO3)).trans hO4
    obtain ⟨i5, l1, l2, l3, l4⟩ := info_parts info5
    go_loopw [12, 49] (fun v i wr => ∃ k r : Nat, k ≤ np ∧ i = .int .i64 k ∧ Upon w4 5 1 (some ⟨w3.heap.size, 0, none⟩) w3.heap.size 0 ol ol cs wr v (cat s m Tx (Js ns Is) k).length (cat s m Tx (Js ns Is) k) r) (fun _ i _ => np - (intOf i).toNat)
    case atStart => exact ⟨0, 0, Nat.zero_le _, rfl, Upon.start hcW⟩
    case round =>
      obtain ⟨k, r, hk, rfl, hup⟩ := hrel
      have hOr : Old w wr := hOw4.trans (upon_old hup)
      by_cases hlt : k < np
      · obtain ⟨pb, po, rfl, hpb, hpc⟩ := HP.out (by omega)
        obtain ⟨c0, ga, gc, c1, hints⟩ := hpc k hlt
        have d0 := (hOr.cell hpb).trans c0
        have d1 := (hOr.cell hpb).trans c1
        have hbr : pb < wr.heap.size := Nat.lt_of_lt_of_le hpb hOr.size
        have HInt : Hid (IntsAt .u8 wr ga (Is k)) := hints.old hOr
        have hIk := HI.out k hlt
        have HBk : Hid (∀ j : Nat, j < (Is k).length → 0 ≤ (Is k)[j]?.getD 0 ∧ (Is k)[j]?.getD 0 ≤ 255) := hB.out k hlt
        have HCat := HFits.out.cat k (by omega)
        have HTk := HTx.out k hlt
        clear hpc c0 c1 hints
        rcases Nat.eq_zero_or_pos ns with hns | hns
        · have HC : Hid (cat s m Tx (Js ns Is) (k + 1) = cat s m Tx (Js ns Is) k ++ byteCells (Tx k)) := by
            have hJ : Js ns Is k = [] := by simp [Js, hns]
            show cat s m Tx (Js ns Is) k ++ byteCells (pieceOf s m (Tx k) (Js ns Is k)) = _
            rw [hJ]
            rfl
          have hle : (ns : Int) ≤ 0 := by omega
          clear hns
          go_wp2_with (at_builtin; refine wpList_append_upon _ rfl (.tmp 92) (.tmp 94) 22 9 rfl hcW i5 (.int .u8 0) 1 Yba.underlying22 l1 l2 l3 l4 rfl rfl (hup.alloc hcW _) (.string (Tx k)) (Tx k).size (byteCells (Tx k)) rfl (Src.ofString _ Yba.underlying9 _) (by unfold maxLen; omega) (by omega) ?_; intro v' w5 hup5)
          go_roundw
          case rel => exact ⟨k + 1, _, by omega, by go_num, by rw [HC.out, List.length_append, byteCells_length]; exact hup5⟩
          case measure => simp [intOf]; omega
        · obtain ⟨G, hG⟩ : ∃ G, hit m (Js ns Is k) = G := ⟨_, rfl⟩
          have HJ : Hid (Js ns Is k = (Is k).map (fun g => g % (ns : Int))) := by
            show Js ns Is k = _
            simp [Js, Nat.ne_of_gt hns]
          have HG0 : Hid (hit m ((Js ns Is k).drop 0) = G) := hG
          have HPc : Hid (pieceOf s m (Tx k) (Js ns Is k) = if 0 ≤ G then s.extract (m (2 * G.toNat)).toNat (m (2 * G.toNat + 1)).toNat else Tx k) := by
            show _ = _
            unfold pieceOf
            rw [hG]
          clear hG
          go_wp2_with fail
          go_loop [15, 59] (fun c i => ∃ j : Nat, j ≤ (Is k).length ∧ i = .int .i64 j ∧ c = .int .i64 (-1) ∧ Hid (hit m ((Js ns Is k).drop j) = G)) (fun _ i => (Is k).length - (intOf i).toNat)
          case atStart => exact ⟨0, Nat.zero_le _, rfl, rfl, HG0⟩
          case round =>
            obtain ⟨j, hj, rfl, rfl, HR⟩ := hrel
            by_cases hjl : j < (Is k).length
            · obtain ⟨gb, go, rfl, hgb, hgc⟩ := HInt.out (by omega)
              have hcj := hgc j hjl
              obtain ⟨x0, x1⟩ := HBk.out j hjl
              clear hgc
              have HD := hit_drop m (Js ns Is k) j (by rw [HJ.out, List.length_map]; exact hjl)
              have hJj : (Js ns Is k)[j]?.getD 0 = ((Is k)[j]?.getD 0) % (ns : Int) := by rw [HJ.out]; simp [hjl]
              rw [hJj] at HD
              obtain ⟨x, hx⟩ : ∃ x, (Is k)[j]?.getD 0 = x := ⟨_, rfl⟩
              rw [hx] at hcj x0 x1 HD
              clear hx hJj
              have y0 := Int.emod_nonneg x (show (ns : Int) ≠ 0 by omega)
              have y1 := Int.emod_lt_of_pos x (show (0 : Int) < (ns : Int) by omega)
              obtain ⟨X, hX⟩ : ∃ X : Nat, x % (ns : Int) = X := ⟨(x % (ns : Int)).toNat, by omega⟩
              rw [hX] at HD y1
              rw [show (2 * (X : Int)).toNat = 2 * X by omega, HMe.out X] at HD
              have HD2 : Hid ((if 0 ≤ (if On X then loS s.size (A X) (B X) else -1) then (X : Int) else hit m ((Js ns Is k).drop (j + 1))) = G) := by
                have h := HR.out
                rw [HD] at h
                exact h
              clear HD HR y0
              obtain ⟨sb, so, rfl, hsb, hsc⟩ := HS.out hns
              obtain ⟨s0, s1, s2, a0, a1, b0, b1⟩ := hsc X (by omega)
              have e0 := (hOr.cell hsb).trans s0
              have e1 := (hOr.cell hsb).trans s1
              have e2 := (hOr.cell hsb).trans s2
              have hsbr : sb < wr.heap.size := Nat.lt_of_lt_of_le hsb hOr.size
              clear hsc s0 s1 s2
              cases hOn : On X with
              | true =>
                rw [hOn] at e0
                have hbd := span_bd s.size (A X) (B X)
                have hGX : G = X := by
                  have h := HD2.out
                  rw [hOn, if_pos rfl, if_pos hbd.1] at h
                  exact h.symm
                have HE := HMe.out X
                have HO' := HMo.out X
                rw [hOn, if_pos rfl] at HE HO'
                obtain ⟨L, hL⟩ : ∃ L : Nat, loS s.size (A X) (B X) = L := ⟨(loS s.size (A X) (B X)).toNat, by omega⟩
                obtain ⟨R, hR⟩ : ∃ R : Nat, hiS s.size (A X) (B X) = R := ⟨(hiS s.size (A X) (B X)).toNat, by omega⟩
                rw [hL] at HE
                rw [hR] at HO'
                rw [hL, hR] at hbd
                have hp := HPc.out
                rw [hGX, if_pos (by omega), Int.toNat_natCast, HE, HO', Int.toNat_natCast, Int.toNat_natCast] at hp
                have HC : Hid (cat s m Tx (Js ns Is) (k + 1) = cat s m Tx (Js ns Is) k ++ byteCells (s.extract L R)) := by
                  show cat s m Tx (Js ns Is) k ++ byteCells (pieceOf s m (Tx k) (Js ns Is k)) = _
                  rw [hp]
                have hxs : (s.extract L R).size ≤ 4096 := by rw [ByteArray.size_extract]; omega
                clear hp HE HO' hGX HD2 HPc
                go_wp2_with (first | (go_at_call 11; refine (span_any _ _ _ _ _ a0 a1 b0 b1 z2).mono ?_; rintro e w' ⟨rfl, rfl⟩) | (at_builtin; refine wpList_append_upon _ rfl (.tmp 86) (.tmp 90) 22 9 rfl hcW i5 (.int .u8 0) 1 Yba.underlying22 l1 l2 l3 l4 rfl rfl ((hup.alloc hcW _).alloc hcW _) (.string (s.extract L R)) (s.extract L R).size (byteCells (s.extract L R)) rfl (Src.ofString _ Yba.underlying9 _) (by unfold maxLen; omega) (by omega) ?_; intro v' w5 hup5))
                go_roundw
                case rel => exact ⟨k + 1, _, by omega, by go_num, by rw [HC.out, List.length_append, byteCells_length]; exact hup5⟩
                case measure => simp [intOf]; omega
              | false =>
                rw [hOn] at e0
                have hGX : Hid (hit m ((Js ns Is k).drop (j + 1)) = G) := by
                  have h := HD2.out
                  rw [hOn] at h
                  show hit m ((Js ns Is k).drop (j + 1)) = G
                  simpa using h
                clear HD2
                go_wp2_with fail
                go_round
                case rel => exact ⟨j + 1, by omega, by go_num, rfl, hGX⟩
                case measure => simp [intOf]; omega
            · have hG1 : G = -1 := by
                have h := HR.out
                rw [List.drop_of_length_le (by rw [HJ.out, List.length_map]; omega)] at h
                exact h.symm
              have hp := HPc.out
              rw [hG1, if_neg (by omega)] at hp
              have HC : Hid (cat s m Tx (Js ns Is) (k + 1) = cat s m Tx (Js ns Is) k ++ byteCells (Tx k)) := by
                show cat s m Tx (Js ns Is) k ++ byteCells (pieceOf s m (Tx k) (Js ns Is k)) = _
                rw [hp]
              clear hp hG1 HPc HR HG0
              go_wp2_with (at_builtin; refine wpList_append_upon _ rfl (.tmp 92) (.tmp 94) 22 9 rfl hcW i5 (.int .u8 0) 1 Yba.underlying22 l1 l2 l3 l4 rfl rfl (hup.alloc hcW _) (.string (Tx k)) (Tx k).size (byteCells (Tx k)) rfl (Src.ofString _ Yba.underlying9 _) (by unfold maxLen; omega) (by omega) ?_; intro v' w5 hup5)
              go_roundw
              case rel => exact ⟨k + 1, _, by omega, by go_num, by rw [HC.out, List.length_append, byteCells_length]; exact hup5⟩
              case measure => simp [intOf]; omega
      · obtain rfl : np = k := by omega
        clear hlt hk
        have hOW : Old w4 wr := upon_old hup
        have hO2r : Old w2 wr := (hOt.trans hO3).trans (hO4.trans hOW)
        have hO3r : Old w3 wr := hO4.trans hOW
        have hOtr : Old (w2.alloc (.cells #[.slice ta np np, .int .i64 0] 49)) wr := hO3.trans hO3r
        have t0 : wr.cell? ⟨w2.heap.size, 0, none⟩ = some (.slice ta np np) := (hOtr.cell (by simp)).trans (by simp)
        have t1 : wr.cell? ⟨w2.heap.size, 1, none⟩ = some (.int .i64 0) := (hOtr.cell (by simp)).trans (by simp)
        have HGoc : Hid (wr.heap[w2.heap.size + 1]? = some (.cells cs.toArray 5 (0, 0))) := (hO3r.block _ (Array.getElem?_eq_some_iff.1 HG3.out).1).trans HG3.out
        have hcoc : Came wr 1 (some ⟨w2.heap.size + 1, 0, none⟩) (w2.heap.size + 1) 0 ol ol cs := row_came HGoc.out HZ.out.2.2.2
        have HPr : Hid (PartsAt .i64 wr ta np Tx (Js ns Is)) := HPT.out.old hO2r
        have HFr : Hid (FnAt wr ma (2 * ns) m) := HFM.out.old hO2r
        obtain ⟨nsum, hns⟩ := cat_u8s s m Tx (Js ns Is) np
        obtain ⟨xa, xc, hv, _, _, _, hcx, _⟩ := expand_end hcW (Old.refl _) (by unfold maxLen; omega) hup
        simp only [Ending.returned.injEq] at hv
        have HZ' := HZ.out
        have hcl : cs.length = ol := HZ'.2.2.2
        rw [hcl, hns, u8s_length] at hv
        rw [hns, HZ'.2.2.1, ← u8s_append] at hcx
        have HCx : Hid (CellsAt wr xa (u8s (ozs ++ nsum))) := hcx
        have HN : Hid (cat s m Tx (Js ns Is) np = u8s nsum ∧ cs = u8s ozs ∧ cs.length = ol) := ⟨hns, HZ'.2.2.1, hcl⟩
        clear hcx hns hcl HZ' hup
        subst hv
        go_wp2_with fail
        refine (expand_any ta np np 0 (some ⟨w2.heap.size + 1, 0, none⟩) (w2.heap.size + 1) 0 ol cs s ma (2 * ns) (2 * ns) Tx (Js ns Is) m wr HFits.out z1 hcoc HPr HFr).mono ?_
        rintro e w9 ⟨ya, yc, hy, _, _, hO9, hcy, _⟩
        rw [HN.out.2.2, HN.out.1, u8s_length] at hy
        rw [HN.out.1, HN.out.2.1, ← u8s_append] at hcy
        subst hy
        have hlo : ozs.length = ol := HL.out
        have k1 := conv_any w9 ya (ol + nsum.length) yc (ozs ++ nsum) (by rw [List.length_append, hlo]) hcy
        have k2 := conv_any w9 xa (ol + nsum.length) xc (ozs ++ nsum) (by rw [List.length_append, hlo]) (HCx.out.old hO9)
        have k3 := conv_any w9 (some ⟨w2.heap.size + 1, 0, none⟩) ol ol ozs hlo (CellsAt.old (by rw [← HN.out.2.1]; exact row_cells HGoc.out) hO9)
        have k4 := conv_any w9 oa ol oc ozs hlo ((ints_cells HO.out).old (hOr.trans hO9))
        clear hlo hcy
        go_wp2_with fail
        go_ret
        exact ⟨rfl, hOr.trans hO9⟩

end Go.Proofs.Ybulkdfse.C
