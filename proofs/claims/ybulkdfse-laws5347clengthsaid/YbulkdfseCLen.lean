/-
  LawS5347CLength: the contract of template.length (13).
-/
import Derived.Test.YbulkdfseCExpand
import Derived.BigQuiet
namespace Go.Proofs.Ybulkdfse.C
open Go.RowKit

theorem wrap_mid (x : Int) (h0 : 0 ≤ x) (h1 : x ≤ 100000000) : IntKind.i64.wrap x = x := by
  rw [IntKind.wrap_i64]
  omega

theorem Old.drewN {a w : World} (h : Old a w) (n : Nat) : Old a (w.drewN n) := ⟨h.os, h.output, h.size, h.block⟩

set_option maxHeartbeats 1000000 in
theorem length_any (ta : Option Addr) (np tc : Nat) (wk : Int) (s : ByteArray) (ma : Option Addr) (ml mc : Nat) (Tx : Nat → ByteArray) (Xs : Nat → List Int) (m : Nat → Int) (w : World)
    (hF : Fits s np ml Tx Xs m) (HP : Hid (PartsAt .i64 w ta np Tx Xs)) (HM : Hid (FnAt w ma ml m)) :
    Calls Yba.prog 13 #[.agg #[.slice ta np tc, .int .i64 wk], .slice ma ml mc] w fun e w' => e = .returned (.int .i64 ((cat s m Tx Xs np).length : Int)) ∧ Old w w' := by
  have hs := hF.hs
  have hnp := hF.hnp
  have hml := hF.hml
  have HF : Hid (Fits s np ml Tx Xs m) := hF
  clear hF
  go_enter Yba.func13, Yba.ntmps13
  go_wp2_with fail
  obtain ⟨W, hW⟩ : ∃ W, W = w.alloc (.cells #[.slice ta np tc, .int .i64 wk] 49) := ⟨_, rfl⟩
  have hOW : Old w W := by rw [hW]; exact (Old.refl w).alloc _
  rw [← hW]
  clear hW
  go_loopw [5, 12] (fun v i wr => ∃ k : Nat, k ≤ np ∧ i = .int .i64 k ∧ v = .int .i64 ((cat s m Tx Xs k).length : Int) ∧ Old w wr) (fun _ i _ => np - (intOf i).toNat)
  case atStart => exact ⟨0, Nat.zero_le _, rfl, rfl, hOW⟩
  case round =>
    obtain ⟨k, hk, rfl, rfl, hOr⟩ := hrel
    by_cases hlt : k < np
    · obtain ⟨pb, po, rfl, hpb, hpc⟩ := HP.out (by omega)
      obtain ⟨c0, ga, gc, c1, hints⟩ := hpc k hlt
      have d0 := (hOr.cell hpb).trans c0
      have d1 := (hOr.cell hpb).trans c1
      have hbr : pb < wr.heap.size := Nat.lt_of_lt_of_le hpb hOr.size
      have HInt : Hid (IntsAt .i64 (wr.alloc (.cells #[.string (Tx k), .slice ga (Xs k).length gc] 63)) ga (Xs k)) := (hints.old hOr).old ((Old.refl wr).alloc _)
      have HMr : Hid (FnAt (wr.alloc (.cells #[.string (Tx k), .slice ga (Xs k).length gc] 63)) ma ml m) := (HM.out.old hOr).old ((Old.refl wr).alloc _)
      have hlen := HF.out.hlen k hlt
      have HX : Hid (∀ j : Nat, j < (Xs k).length → 0 ≤ (Xs k)[j]?.getD 0 ∧ 2 * ((Xs k)[j]?.getD 0) + 1 < (ml : Int)) := fun j hj => by
        rw [List.getElem?_eq_getElem hj]
        exact HF.out.hmem k hlt _ (List.getElem_mem hj)
      clear hpc c0 c1 hints
      have HCat := HF.out.cat k (by omega)
      have HPc := HF.out.piece hlt
      have HC0 : Hid ((cat s m Tx Xs (k + 1)).length = (cat s m Tx Xs k).length + (pieceOf s m (Tx k) (Xs k)).size) := by
        show (cat s m Tx Xs k ++ byteCells (pieceOf s m (Tx k) (Xs k))).length = _
        rw [List.length_append, byteCells_length]
      obtain ⟨N, hN⟩ : ∃ N, (cat s m Tx Xs k).length = N := ⟨_, rfl⟩
      rw [hN] at HCat HC0
      rw [hN]
      clear hN
      by_cases hsel : 0 ≤ hit m (Xs k)
      · obtain ⟨X, hX⟩ : ∃ X : Nat, hit m (Xs k) = X := ⟨(hit m (Xs k)).toNat, by omega⟩
        obtain ⟨hb1, hb2⟩ := hit_bd m (Xs k) ml (HF.out.hmem k hlt) hsel
        rw [hX, Int.toNat_natCast] at hb1 hb2
        obtain ⟨hb3, hb4⟩ := HF.out.hm X hb1 hb2
        obtain ⟨L, hL⟩ : ∃ L : Nat, m (2 * X) = L := ⟨(m (2 * X)).toNat, by omega⟩
        obtain ⟨R, hR⟩ : ∃ R : Nat, m (2 * X + 1) = R := ⟨(m (2 * X + 1)).toNat, by omega⟩
        rw [hL, hR] at hb3
        rw [hR] at hb4
        have hpiece : pieceOf s m (Tx k) (Xs k) = s.extract L R := by
          unfold pieceOf
          rw [if_pos hsel, hX, Int.toNat_natCast, hL, hR, Int.toNat_natCast, Int.toNat_natCast]
        have HC : Hid ((((cat s m Tx Xs (k + 1)).length : Nat) : Int) = (N : Int) + ((R : Int) - (L : Int))) := by
          have h := HC0.out
          rw [hpiece, ByteArray.size_extract] at h
          show (((cat s m Tx Xs (k + 1)).length : Nat) : Int) = _
          omega
        obtain ⟨mb, mo, rfl, hmb, hmc⟩ := HM.out (by omega)
        have q0 := hmc (2 * X) (by omega)
        have q1 := hmc (2 * X + 1) hb1
        rw [hL] at q0
        rw [hR] at q1
        clear hmc hpiece hL hR hb2 hsel HC0 HPc
        go_wp2_with (go_at_call 14; refine (matched_any _ _ _ _ _ _ _ m _ HInt.out HMr.out hlen hml HX.out).mono ?_; rintro e w4 ⟨rfl, hO4⟩)
        have hO4r : Old wr w4 := ((Old.refl wr).alloc _).trans hO4
        have hO4w : Old w w4 := hOr.trans hO4r
        have p0 := (hO4w.cell hmb).trans q0
        have p1 := (hO4w.cell hmb).trans q1
        clear q0 q1 HInt HMr HX hX
        have w0 : IntKind.i64.wrap (2 * (X : Int)) = 2 * (X : Int) := wrap_small _ (by omega) (by omega)
        have w1 : IntKind.i64.wrap (2 * (X : Int) + 1) = 2 * (X : Int) + 1 := wrap_small _ (by omega) (by omega)
        have w2 : IntKind.i64.wrap ((R : Int) - (L : Int)) = (R : Int) - (L : Int) := wrap_small _ (by omega) (by omega)
        have w3 : IntKind.i64.wrap ((N : Int) + ((R : Int) - (L : Int))) = (N : Int) + ((R : Int) - (L : Int)) := wrap_mid _ (by omega) (by omega)
        have n0 : (2 * (X : Int)).toNat = 2 * X := by omega
        have n1 : (2 * (X : Int) + 1).toNat = 2 * X + 1 := by omega
        have t0 : 0 ≤ 2 * (X : Int) := by omega
        have t1 : 2 * (X : Int) < (ml : Int) := by omega
        have t2 : 0 ≤ 2 * (X : Int) + 1 := by omega
        have t3 : 2 * (X : Int) + 1 < (ml : Int) := by omega
        go_quiet (fail)
        go_wp2_with fail
        go_roundw
        case rel => exact ⟨k + 1, by omega, by go_num, by rw [HC.out], hO4w.drewN nq⟩
        case measure => simp [intOf]; omega
      · have hneg := hit_neg m (Xs k) hsel (fun x hx => (HF.out.hmem k hlt x hx).1)
        have hpiece : pieceOf s m (Tx k) (Xs k) = Tx k := by
          unfold pieceOf
          rw [if_neg hsel]
        have HC : Hid ((((cat s m Tx Xs (k + 1)).length : Nat) : Int) = (N : Int) + ((Tx k).size : Int)) := by
          have h := HC0.out
          rw [hpiece] at h
          show (((cat s m Tx Xs (k + 1)).length : Nat) : Int) = _
          omega
        rw [hpiece] at HPc
        clear hpiece hsel HC0
        go_wp2_with (go_at_call 14; refine (matched_any _ _ _ _ _ _ _ m _ HInt.out HMr.out hlen hml HX.out).mono ?_; rintro e w4 ⟨rfl, hO4⟩; have ht4 := tx_cell hO4)
        have hO4w : Old w w4 := hOr.trans (((Old.refl wr).alloc _).trans hO4)
        go_roundw
        case rel => exact ⟨k + 1, by omega, by go_num, by rw [HC.out], hO4w⟩
        case measure => simp [intOf]; omega
    · obtain rfl : np = k := by omega
      go_wp2_with fail
      go_ret
      exact ⟨rfl, hOr⟩

end Go.Proofs.Ybulkdfse.C
