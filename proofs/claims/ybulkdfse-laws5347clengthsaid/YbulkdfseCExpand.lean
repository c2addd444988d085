/-
  LawS5347CModel, LawS5347CLength: the contracts of template.expand (12), template.length (13).
-/
import Derived.Test.YbulkdfseCBuild
import Derived.Deep.RegionLaw
namespace Go.Proofs.Ybulkdfse.C
open Go.RowKit

theorem info5 : (Yba.prog.info? 5).map (fun i => (i.zero, i.size, i.bytes)) = some (some (.int .u8 0), 1, 1) := by kernel_rfl

/-- 'append' ONTO A SLICE UNDER 'Upon', as one step of a region that draws its order. -/
theorem step_append_upon {P : Program} {ops : Array Oper} {o : Oper} {a : Act} {w : World} {K : Act → World → Prop} {Q : Exit → Act → World → Prop} {E : Prop}
    (hgd : o.guard = none) (s x : Operand) (t tx : TypeId) (ho : o.op = .call { callee := .builtin .append, args := #[s, x], argTypes := #[t, tx] })
    {W : World} {e : TypeId} {size : Nat} {ao : Option Addr} {b off len cap : Nat} {olds : List Value} (hc : Came W size ao b off len cap olds)
    (i : TypeInfo) (z : Value) (bytes : Nat) (ht : P.underlying t = some (.slice e)) (hi : P.info? e = some i) (hz : i.zero = some z) (hsize : i.size = size) (hby : i.bytes = bytes) (hzs : z.cells.size = size)
    {v : Value} {m : Nat} {ks : List Value} {r : Nat} (hv : a.eval s = v) (h : Upon W e size ao b off len cap olds w v m ks r)
    (xv : Value) (n : Nat) (news : List Value) (hx : a.eval x = xv) (hs : Src P size tx xv n news w) (h63 : len + m + n ≤ maxLen) (hbytes : (len + m + n) * bytes ≤ 140737488355328)
    (hK : ∀ v' w', Upon W e size ao b off len cap olds w' v' (m + n) (ks ++ news) (Upon.next len cap size m r n) → K (a.put o.dst v') w') :
    if Region.wanted o (yielded ops a.tmps) = true then Oper.wp P o a w K Q else E := by
  have hw : Region.wanted o (yielded ops a.tmps) = true := by simp [Region.wanted, hgd]
  rw [if_pos hw]
  obtain ⟨v', w', hrun, r'⟩ := run_append_upon (P := P) hc t tx o.type i z bytes ht hi hz hsize hby hzs h xv n news hs h63 hbytes
  unfold Oper.wp
  simp [execOp, ho, resolve, invoke, builtin, hv, hx, hrun, Result.andThen]
  exact hK v' w' r'

theorem upon_old {W : World} {e : TypeId} {size : Nat} {ao : Option Addr} {b off len : Nat} {olds : List Value} {w : World} {v : Value} {m : Nat} {ks : List Value} {r : Nat} (h : Upon W e size ao b off len len olds w v m ks r) : Old W w := by
  have hr : r = 0 := by have := h.rFit; simp at this; exact this
  subst hr
  exact ⟨h.kept.1, h.kept.2.1, h.kept.size, fun k hk => h.kept.block hk (fun _ hp _ => by obtain ⟨j, hj, _⟩ := hp; exact absurd hj (Nat.not_lt_zero _))⟩

theorem upon_carry {W : World} {e : TypeId} {size : Nat} {ao : Option Addr} {b off len cap : Nat} {olds : List Value} {w w' : World} {v : Value} {m : Nat} {ks : List Value} {r : Nat} (h : Upon W e size ao b off len cap olds w v m ks r)
    (hc : Came W size ao b off len cap olds) (ho : Old w w') : Upon W e size ao b off len cap olds w' v m ks r :=
  h.carry hc ho.os ho.output (fun i hi => ho.block i (Nat.lt_of_lt_of_le hi h.kept.size)) (fun g _ hg => ho.block g hg)

theorem came_old {W W' : World} {size : Nat} {ao : Option Addr} {b off len cap : Nat} {olds : List Value} (h : Came W size ao b off len cap olds) (ho : Old W W') (hcap : cap = len) : Came W' size ao b off len cap olds := by
  subst hcap
  refine ⟨h.le, h.addr, fun hp => Nat.lt_of_lt_of_le (h.lt hp) ho.size, h.oldsLen, fun j u hj => ?_, fun j hj => by simp at hj⟩
  have hp : 0 < cap := by
    rcases Nat.eq_zero_or_pos cap with h0 | h0
    · have := h.oldsLen
      rw [h0, Nat.zero_mul] at this
      rw [List.eq_nil_of_length_eq_zero this] at hj
      cases hj
    · exact h0
  exact (ho.cell (h.lt hp)).trans (h.olds j u hj)

/-- THE PIECE that a part gives. -/
def pieceOf (s : ByteArray) (m : Nat → Int) (tx : ByteArray) (xs : List Int) : ByteArray :=
  if 0 ≤ hit m xs then s.extract (m (2 * (hit m xs).toNat)).toNat (m (2 * (hit m xs).toNat + 1)).toNat else tx

/-- The cells of the first k pieces. -/
def cat (s : ByteArray) (m : Nat → Int) (Tx : Nat → ByteArray) (Xs : Nat → List Int) : Nat → List Value
  | 0 => []
  | k + 1 => cat s m Tx Xs k ++ byteCells (pieceOf s m (Tx k) (Xs k))

theorem hit_bd (m : Nat → Int) (xs : List Int) (ml : Nat) (h : ∀ x ∈ xs, 0 ≤ x ∧ 2 * x + 1 < (ml : Int)) (h0 : 0 ≤ hit m xs) : 2 * (hit m xs).toNat + 1 < ml ∧ 0 ≤ m (2 * (hit m xs).toNat) := by
  induction xs with
  | nil => simp [hit] at h0
  | cons g r ih =>
    have hg := h g (by simp)
    unfold hit at h0 ⊢
    by_cases hc : 0 ≤ m (2 * g).toNat
    · rw [if_pos hc] at h0 ⊢
      rw [show (2 * g).toNat = 2 * g.toNat by omega] at hc
      exact ⟨by omega, hc⟩
    · rw [if_neg hc] at h0 ⊢
      exact ih (fun x hx => h x (by simp [hx])) h0

theorem hit_neg (m : Nat → Int) (xs : List Int) (h0 : ¬ 0 ≤ hit m xs) (h : ∀ x ∈ xs, 0 ≤ x) : hit m xs = -1 := by
  induction xs with
  | nil => rfl
  | cons g r ih =>
    have hg := h g (by simp)
    unfold hit at h0 ⊢
    by_cases hc : 0 ≤ m (2 * g).toNat
    · rw [if_pos hc] at h0; omega
    · rw [if_neg hc] at h0 ⊢
      exact ih h0 (fun x hx => h x (by simp [hx]))

/-- WHAT expand AND length ASK OF A TEMPLATE AND A MATCH. -/
structure Fits (s : ByteArray) (np ml : Nat) (Tx : Nat → ByteArray) (Xs : Nat → List Int) (m : Nat → Int) : Prop where
  hs : s.size ≤ 4096
  hnp : np ≤ 300
  hml : ml ≤ 600
  hlen : ∀ i, i < np → (Xs i).length ≤ 300
  hmem : ∀ i, i < np → ∀ x ∈ Xs i, 0 ≤ x ∧ 2 * x + 1 < (ml : Int)
  htx : ∀ i, i < np → (Tx i).size ≤ 4096
  hm : ∀ k, 2 * k + 1 < ml → 0 ≤ m (2 * k) → m (2 * k) ≤ m (2 * k + 1) ∧ m (2 * k + 1) ≤ s.size

theorem Fits.piece {s : ByteArray} {np ml : Nat} {Tx : Nat → ByteArray} {Xs : Nat → List Int} {m : Nat → Int} (h : Fits s np ml Tx Xs m) {i : Nat} (hi : i < np) : (pieceOf s m (Tx i) (Xs i)).size ≤ 4096 := by
  unfold pieceOf
  split
  · have := h.hs
    rw [ByteArray.size_extract]
    omega
  · exact h.htx i hi

theorem Fits.cat {s : ByteArray} {np ml : Nat} {Tx : Nat → ByteArray} {Xs : Nat → List Int} {m : Nat → Int} (h : Fits s np ml Tx Xs m) : ∀ k, k ≤ np → (cat s m Tx Xs k).length ≤ 4096 * k := by
  intro k
  induction k with
  | zero => intro _; simp [C.cat]
  | succ k ih =>
    intro hk
    have h1 := ih (by omega)
    have h2 := h.piece (i := k) (by omega)
    simp only [C.cat, List.length_append, byteCells_length]
    omega

/-- A slice's cells. -/
def CellsAt (w : World) (a : Option Addr) (xs : List Value) : Prop :=
  0 < xs.length → ∃ b off, a = some ⟨b, off, none⟩ ∧ b < w.heap.size ∧ ∀ j, j < xs.length → w.cell? ⟨b, off + j, none⟩ = xs[j]?

/-- WHAT expand LEAVES. -/
def ExpandEnd (w : World) (oa : Option Addr) (olds ks : List Value) (e : Ending) (w' : World) : Prop :=
  ∃ a c, e = .returned (.slice a (olds.length + ks.length) c) ∧ olds.length + ks.length ≤ c ∧ c ≤ maxLen ∧ Old w w' ∧ CellsAt w' a (olds ++ ks) ∧ (a = oa ∨ ∃ b off, a = some ⟨b, off, none⟩)

theorem expand_end {w W w' : World} {oa : Option Addr} {b off ol : Nat} {olds ks : List Value} {v : Value} {r : Nat} (hc : Came W 1 oa b off ol ol olds) (hO : Old w W) (hm : ol ≤ maxLen) (h : Upon W 5 1 oa b off ol ol olds w' v ks.length ks r) :
    ExpandEnd w oa olds ks (.returned v) w' := by
  have hol : olds.length = ol := by have := hc.oldsLen; omega
  by_cases hp : 0 < ol ∨ 0 < ks.length
  · obtain ⟨g, o', c', rfl, h1, h2, h3⟩ := h.value hc hm hp
    refine ⟨_, c', by rw [hol], by omega, h2, hO.trans (upon_old h), fun hx => ⟨g, o', rfl, ?_, fun j hj => ?_⟩, .inr ⟨_, _, rfl⟩⟩
    · have hx' : 0 < (olds ++ ks).length := hx
      have := h3 0 (by rw [List.length_append] at hx'; omega)
      rw [List.getElem?_eq_getElem hx'] at this
      exact World.block_lt_of_cell? _ _ this
    · exact h3 j (by rw [List.length_append] at hj; omega)
  · have h0 : ol = 0 := by omega
    have h1 : ks.length = 0 := by omega
    have hv := h.bare hc h0 h1
    subst hv
    refine ⟨oa, 0, by rw [hol, h0, h1], by omega, Nat.zero_le _, hO.trans (upon_old h), fun hx => ?_, .inl rfl⟩
    rw [List.length_append] at hx
    omega

theorem wrap_small (x : Int) (h0 : 0 ≤ x) (h1 : x ≤ 1000000) : IntKind.i64.wrap x = x := by
  rw [IntKind.wrap_i64]
  omega

theorem tx_cell {w w4 : World} {x y : Value} {t : TypeId} (h : Old (w.alloc (.cells #[x, y] t)) w4) : w4.cell? ⟨w.heap.size, 0, none⟩ = some x :=
  (h.cell (by simp)).trans (by simp)

set_option maxHeartbeats 1000000 in
theorem expand_any (ta : Option Addr) (np tc : Nat) (wk : Int) (oa : Option Addr) (b off ol : Nat) (olds : List Value) (s : ByteArray) (ma : Option Addr) (ml mc : Nat) (Tx : Nat → ByteArray) (Xs : Nat → List Int) (m : Nat → Int) (w : World)
    (hF : Fits s np ml Tx Xs m) (hol : ol ≤ 4096) (hcame : Came w 1 oa b off ol ol olds) (HP : Hid (PartsAt .i64 w ta np Tx Xs)) (HM : Hid (FnAt w ma ml m)) :
    Calls Yba.prog 12 #[.agg #[.slice ta np tc, .int .i64 wk], .slice oa ol ol, .string s, .slice ma ml mc] w (ExpandEnd w oa olds (cat s m Tx Xs np)) := by
  obtain ⟨i5, l1, l2, l3, l4⟩ := info_parts info5
  have hs := hF.hs
  have hnp := hF.hnp
  have hml := hF.hml
  have HF : Hid (Fits s np ml Tx Xs m) := hF
  clear hF
  go_enter Yba.func12, Yba.ntmps12
  go_wp2_with fail
  obtain ⟨W, hW⟩ : ∃ W, W = w.alloc (.cells #[.slice ta np tc, .int .i64 wk] 49) := ⟨_, rfl⟩
  have hOW : Old w W := by rw [hW]; exact (Old.refl w).alloc _
  have hc : Came W 1 oa b off ol ol olds := came_old hcame hOW rfl
  rw [← hW]
  clear hW hcame
  go_loopw [1, 15] (fun v i wr => ∃ k r : Nat, k ≤ np ∧ i = .int .i64 k ∧ Upon W 5 1 oa b off ol ol olds wr v (cat s m Tx Xs k).length (cat s m Tx Xs k) r) (fun _ i _ => np - (intOf i).toNat)
  case atStart => exact ⟨0, 0, Nat.zero_le _, rfl, Upon.start hc⟩
  case round =>
    obtain ⟨k, r, hk, rfl, hup⟩ := hrel
    have hOr : Old w wr := hOW.trans (upon_old hup)
    by_cases hlt : k < np
    · obtain ⟨pb, po, rfl, hpb, hpc⟩ := HP.out (by omega)
      obtain ⟨c0, ga, gc, c1, hints⟩ := hpc k hlt
      have d0 := (hOr.cell hpb).trans c0
      have d1 := (hOr.cell hpb).trans c1
      have hbr : pb < wr.heap.size := Nat.lt_of_lt_of_le hpb hOr.size
      have HInt : Hid (IntsAt .i64 (wr.alloc (.cells #[.string (Tx k), .slice ga (Xs k).length gc] 63)) ga (Xs k)) := (hints.old hOr).old ((Old.refl wr).alloc _)
      have HMr : Hid (FnAt (wr.alloc (.cells #[.string (Tx k), .slice ga (Xs k).length gc] 63)) ma ml m) := (HM.out.old hOr).old ((Old.refl wr).alloc _)
      have hlen := HF.out.hlen k hlt
      have HX : Hid (∀ j : Nat, j < (Xs k).length → 0 ≤ (Xs k)[j]?.getD 0 ∧ 2 * ((Xs k)[j]?.getD 0) + 1 < (ml : Int)) := fun j hj => by
        rw [List.getElem?_eq_getElem hj]
        exact HF.out.hmem k hlt _ (List.getElem_mem hj)
      clear hpc c0 c1 hints
      have HCat := HF.out.cat k (by omega)
      have HPc := HF.out.piece hlt
      by_cases hsel : 0 ≤ hit m (Xs k)
      · obtain ⟨X, hX⟩ : ∃ X : Nat, hit m (Xs k) = X := ⟨(hit m (Xs k)).toNat, by omega⟩
        obtain ⟨hb1, hb2⟩ := hit_bd m (Xs k) ml (HF.out.hmem k hlt) hsel
        rw [hX, Int.toNat_natCast] at hb1 hb2
        obtain ⟨hb3, hb4⟩ := HF.out.hm X hb1 hb2
        obtain ⟨L, hL⟩ : ∃ L : Nat, m (2 * X) = L := ⟨(m (2 * X)).toNat, by omega⟩
        obtain ⟨R, hR⟩ : ∃ R : Nat, m (2 * X + 1) = R := ⟨(m (2 * X + 1)).toNat, by omega⟩
        rw [hL, hR] at hb3
        rw [hR] at hb4
        have hpiece : pieceOf s m (Tx k) (Xs k) = s.extract L R := by
          unfold pieceOf
          rw [if_pos hsel, hX, Int.toNat_natCast, hL, hR, Int.toNat_natCast, Int.toNat_natCast]
        have HC : Hid (cat s m Tx Xs (k + 1) = cat s m Tx Xs k ++ byteCells (s.extract L R)) := by
          show cat s m Tx Xs k ++ byteCells (pieceOf s m (Tx k) (Xs k)) = _
          rw [hpiece]
        rw [hpiece] at HPc
        obtain ⟨mb, mo, rfl, hmb, hmc⟩ := HM.out (by omega)
        have q0 := hmc (2 * X) (by omega)
        have q1 := hmc (2 * X + 1) hb1
        rw [hL] at q0
        rw [hR] at q1
        clear hmc hpiece hL hR hb2 hsel
        go_wp2_with (go_at_call 14; refine (matched_any _ _ _ _ _ _ _ m _ HInt.out HMr.out hlen hml HX.out).mono ?_; rintro e w4 ⟨rfl, hO4⟩)
        have hO4r : Old wr w4 := ((Old.refl wr).alloc _).trans hO4
        have hO4w : Old w w4 := hOr.trans hO4r
        have p0 := (hO4w.cell hmb).trans q0
        have p1 := (hO4w.cell hmb).trans q1
        have hup4 := upon_carry hup hc hO4r.drew
        clear q0 q1 HInt HMr HX hX
        have w0 : IntKind.i64.wrap (2 * (X : Int)) = 2 * (X : Int) := wrap_small _ (by omega) (by omega)
        have w1 : IntKind.i64.wrap (2 * (X : Int) + 1) = 2 * (X : Int) + 1 := wrap_small _ (by omega) (by omega)
        have n0 : (2 * (X : Int)).toNat = 2 * X := by omega
        have n1 : (2 * (X : Int) + 1).toNat = 2 * X + 1 := by omega
        have t0 : 0 ≤ 2 * (X : Int) := by omega
        have t1 : 2 * (X : Int) < (ml : Int) := by omega
        have t2 : 0 ≤ 2 * (X : Int) + 1 := by omega
        have t3 : 2 * (X : Int) + 1 < (ml : Int) := by omega
        go_region_law (refine step_append_upon rfl (.tmp 24) (.tmp 37) 22 9 rfl hc i5 (.int .u8 0) 1 Yba.underlying22 l1 l2 l3 l4 rfl (by simp [Act.eval, Act.put]) hup4 (.string (s.extract L R)) (s.extract L R).size (byteCells (s.extract L R)) (by simp [Act.eval, Act.put]) (Src.ofString _ Yba.underlying9 _) (by unfold maxLen; omega) (by omega) ?_; intro v' w5 hup5)
        all_goals
          go_wp2_with fail
          go_roundw
          case rel => exact ⟨k + 1, _, by omega, by go_num, by rw [HC.out, List.length_append, byteCells_length]; exact hup5⟩
          case measure => simp [intOf]; omega
      · have hneg := hit_neg m (Xs k) hsel (fun x hx => (HF.out.hmem k hlt x hx).1)
        have hpiece : pieceOf s m (Tx k) (Xs k) = Tx k := by
          unfold pieceOf
          rw [if_neg hsel]
        have HC : Hid (cat s m Tx Xs (k + 1) = cat s m Tx Xs k ++ byteCells (Tx k)) := by
          show cat s m Tx Xs k ++ byteCells (pieceOf s m (Tx k) (Xs k)) = _
          rw [hpiece]
        rw [hpiece] at HPc
        clear hpiece hsel
        go_wp2_with (first | (go_at_call 14; refine (matched_any _ _ _ _ _ _ _ m _ HInt.out HMr.out hlen hml HX.out).mono ?_; rintro e w4 ⟨rfl, hO4⟩; have ht4 := tx_cell hO4; have hup4 := upon_carry hup hc (((Old.refl wr).alloc _).trans hO4)) | (at_builtin; refine wpList_append_upon _ rfl (.tmp 39) (.tmp 41) 22 9 rfl hc i5 (.int .u8 0) 1 Yba.underlying22 l1 l2 l3 l4 rfl rfl (by assumption) (.string (Tx k)) (Tx k).size (byteCells (Tx k)) rfl (Src.ofString _ Yba.underlying9 _) (by unfold maxLen; omega) (by omega) ?_; intro v' w5 hup5))
        go_roundw
        case rel => exact ⟨k + 1, _, by omega, by go_num, by rw [HC.out, List.length_append, byteCells_length]; exact hup5⟩
        case measure => simp [intOf]; omega
    · obtain rfl : np = k := by omega
      go_wp2_with fail
      go_ret
      exact expand_end hc hOW (by unfold maxLen; omega) hup

end Go.Proofs.Ybulkdfse.C
