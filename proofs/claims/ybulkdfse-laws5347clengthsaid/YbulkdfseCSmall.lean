/-
  LawS5347CModel, LawS5347CLength: the contracts of zzs5347cspan (11), templatePart.matched (14), zzs5347cguard (9).
-/
import Derived.Test.YbulkdfseCPlain
namespace Go.Proofs.Ybulkdfse.C
open Go.RowKit

theorem ret_int {k : IntKind} {a b : Int} (h : a = b) : Ending.returned (.int k a) = .returned (.int k b) := by rw [h]

set_option maxHeartbeats 400000 in
theorem span_any (on : Bool) (a b : Int) (s : ByteArray) (w : World) (ha0 : 0 ≤ a) (ha1 : a ≤ 65535) (hb0 : 0 ≤ b) (hb1 : b ≤ 65535) (hs : s.size ≤ 4096) :
    Calls Yba.prog 11 #[.agg #[.bool on, .int .u16 a, .int .u16 b], .string s] w fun e w' => e = .returned (.tuple #[.int .i64 (loS s.size a b), .int .i64 (hiS s.size a b)]) ∧ w' = w.alloc (.cells #[.bool on, .int .u16 a, .int .u16 b] 57) := by
  by_cases h : a % ((s.size : Int) + 1) ≤ b % ((s.size : Int) + 1)
  · have hl : loS s.size a b = a % ((s.size : Int) + 1) := by simp [loS, h]
    have hh : hiS s.size a b = b % ((s.size : Int) + 1) := by simp [hiS, h]
    rw [hl, hh]
    clear hl hh
    go_enter Yba.func11, Yba.ntmps11
    go_wp2
    go_ret2
    exact ⟨rfl, rfl⟩
  · have hl : loS s.size a b = b % ((s.size : Int) + 1) := by simp [loS, h]
    have hh : hiS s.size a b = a % ((s.size : Int) + 1) := by simp [hiS, h]
    rw [hl, hh]
    clear hl hh
    go_enter Yba.func11, Yba.ntmps11
    go_wp2
    go_ret2
    exact ⟨rfl, rfl⟩

theorem hit_drop (m : Nat → Int) (xs : List Int) (j : Nat) (h : j < xs.length) : hit m (xs.drop j) = if 0 ≤ m (2 * (xs[j]?.getD 0)).toNat then xs[j]?.getD 0 else hit m (xs.drop (j + 1)) := by
  rw [List.drop_eq_getElem_cons h, hit]
  simp [h]

set_option maxHeartbeats 400000 in
theorem matched_any (tx : ByteArray) (ga : Option Addr) (gc : Nat) (xs : List Int) (ma : Option Addr) (ml mc : Nat) (m : Nat → Int) (w : World) (hg : IntsAt .i64 w ga xs) (hm : FnAt w ma ml m) (hxl : xs.length ≤ 300) (hml : ml ≤ 600)
    (hx : ∀ j : Nat, j < xs.length → 0 ≤ xs[j]?.getD 0 ∧ 2 * (xs[j]?.getD 0) + 1 < (ml : Int)) :
    Calls Yba.prog 14 #[.agg #[.string tx, .slice ga xs.length gc], .slice ma ml mc] w fun e w' => e = .returned (.int .i64 (hit m xs)) ∧ Old w w' := by
  have HG : Hid (IntsAt .i64 w ga xs) := hg
  have HM : Hid (FnAt w ma ml m) := hm
  have HX : Hid (∀ j : Nat, j < xs.length → 0 ≤ xs[j]?.getD 0 ∧ 2 * (xs[j]?.getD 0) + 1 < (ml : Int)) := hx
  clear hg hm hx
  obtain ⟨G, hG⟩ : ∃ G, hit m xs = G := ⟨_, rfl⟩
  rw [hG]
  have HGG : Hid (hit m (xs.drop 0) = G) := hG
  clear hG
  go_enter Yba.func14, Yba.ntmps14
  go_wp2
  go_loop [10] (fun i => ∃ j : Nat, j ≤ xs.length ∧ i = .int .i64 j ∧ Hid (hit m (xs.drop j) = G)) (fun i => xs.length - (intOf i).toNat)
  case atStart => exact ⟨0, Nat.zero_le _, rfl, HGG⟩
  case round =>
    obtain ⟨j, hj, rfl, HR⟩ := hrel
    by_cases hlt : j < xs.length
    · obtain ⟨b, off, rfl, hb, hc⟩ := HG.out (by omega)
      obtain ⟨x0, x1⟩ := HX.out j hlt
      have hcx : w.cell? ⟨b, off + j, none⟩ = some (.int .i64 (xs[j]?.getD 0)) := hc j hlt
      clear hc
      obtain ⟨x, hxx⟩ : ∃ x, xs[j]?.getD 0 = x := ⟨_, rfl⟩
      have HS := hit_drop m xs j hlt
      rw [hxx] at hcx x0 x1 HS
      clear hxx
      obtain ⟨X, rfl⟩ : ∃ X : Nat, x = X := ⟨x.toNat, by omega⟩
      obtain ⟨b2, off2, rfl, hb2, hc2⟩ := HM.out (by omega)
      have hcm : w.cell? ⟨b2, off2 + 2 * X, none⟩ = some (.int .i64 (m (2 * X))) := hc2 (2 * X) (by omega)
      clear hc2
      rw [show (2 * (X : Int)).toNat = 2 * X by omega] at HS
      have HS' := Hid.out HR
      rw [HS] at HS'
      have H2 : Hid ((if 0 ≤ m (2 * X) then (X : Int) else hit m (xs.drop (j + 1))) = G) := HS'
      clear HS HS' HR
      go_wp2
      · go_ret
        have hp : 0 ≤ m (2 * X) := by assumption
        have h := H2.out
        rw [if_pos hp] at h
        exact ⟨ret_int h, (Old.refl _).alloc _⟩
      · go_round
        case rel => exact ⟨j + 1, by omega, by go_num, by have h := H2.out; rw [if_neg (by omega)] at h; exact h⟩
        case measure => simp [intOf]; omega
    · have hG : G = -1 := by have h := HR.out; rw [List.drop_of_length_le (by omega)] at h; exact h.symm
      subst hG
      go_wp2
      go_ret
      exact ⟨rfl, (Old.refl _).alloc _⟩

/-- WHAT A 'true' OF THE GUARD SAYS. -/
def Small (ol : Nat) (s : ByteArray) (np ns : Nat) (Tx : Nat → ByteArray) (Is : Nat → List Int) : Prop :=
  ol ≤ 4096 ∧ s.size ≤ 4096 ∧ np ≤ 300 ∧ ns ≤ 300 ∧ ∀ i, i < np → (Is i).length ≤ 300 ∧ (Tx i).size ≤ 4096

set_option maxHeartbeats 400000 in
theorem guard_no (oa : Option Addr) (ol oc : Nat) (s : ByteArray) (pa : Option Addr) (np pc : Nat) (sa : Option Addr) (ns sc : Nat) (w : World) (h : 4096 < ol ∨ 4096 < s.size ∨ 300 < np ∨ 300 < ns) :
    Calls Yba.prog 9 #[.slice oa ol oc, .string s, .slice pa np pc, .slice sa ns sc] w fun e w' => e = .returned (.bool false) ∧ w' = w := by
  by_cases h1 : 4096 < ol
  · go_enter Yba.func9, Yba.ntmps9; go_wp2; go_ret; exact ⟨rfl, rfl⟩
  by_cases h2 : 4096 < s.size
  · go_enter Yba.func9, Yba.ntmps9; go_wp2; go_ret; exact ⟨rfl, rfl⟩
  by_cases h3 : 300 < np
  · go_enter Yba.func9, Yba.ntmps9; go_wp2; go_ret; exact ⟨rfl, rfl⟩
  have h4 : 300 < ns := by omega
  clear h
  go_enter Yba.func9, Yba.ntmps9; go_wp2; go_ret; exact ⟨rfl, rfl⟩

def GuardEnd (w : World) (ol : Nat) (s : ByteArray) (np ns : Nat) (Tx : Nat → ByteArray) (Is : Nat → List Int) (e : Ending) (w' : World) : Prop :=
  ∃ r, e = .returned (.bool r) ∧ Old w w' ∧ (r = true → Small ol s np ns Tx Is)
theorem guardEnd_no {w : World} {ol : Nat} {s : ByteArray} {np ns : Nat} {Tx : Nat → ByteArray} {Is : Nat → List Int} {e : Ending} {w' : World} (he : e = .returned (.bool false)) (ho : Old w w') : GuardEnd w ol s np ns Tx Is e w' :=
  ⟨false, he, ho, fun h => by cases h⟩

set_option maxHeartbeats 400000 in
theorem guard_yes (oa : Option Addr) (ol oc : Nat) (s : ByteArray) (pa : Option Addr) (np pc : Nat) (sa : Option Addr) (ns sc : Nat) (Tx : Nat → ByteArray) (Is : Nat → List Int) (w : World) (h1 : ol ≤ 4096) (h2 : s.size ≤ 4096) (h3 : np ≤ 300) (h4 : ns ≤ 300)
    (hp : PartsAt .u8 w pa np Tx Is) :
    Calls Yba.prog 9 #[.slice oa ol oc, .string s, .slice pa np pc, .slice sa ns sc] w (GuardEnd w ol s np ns Tx Is) := by
  have HP : Hid (PartsAt .u8 w pa np Tx Is) := hp
  clear hp
  go_enter Yba.func9, Yba.ntmps9
  go_wp2
  go_loopw [31] (fun i wr => ∃ j : Nat, j ≤ np ∧ i = .int .i64 j ∧ Old w wr ∧ Hid (∀ i, i < j → (Is i).length ≤ 300 ∧ (Tx i).size ≤ 4096)) (fun i _ => np - (intOf i).toNat)
  case atStart => exact ⟨0, Nat.zero_le _, rfl, Old.refl _, fun i hi => absurd hi (Nat.not_lt_zero _)⟩
  case round =>
    obtain ⟨j, hj, rfl, hO, HR⟩ := hrel
    by_cases hlt : j < np
    · obtain ⟨b, off, rfl, hb, hc⟩ := HP.out (by omega)
      obtain ⟨c0, ga, gc, c1, _⟩ := hc j hlt
      have d0 := (hO.cell hb).trans c0
      have d1 := (hO.cell hb).trans c1
      clear hc c0 c1
      obtain ⟨il, hil⟩ : ∃ il, (Is j).length = il := ⟨_, rfl⟩
      obtain ⟨tx, htx⟩ : ∃ tx, Tx j = tx := ⟨_, rfl⟩
      rw [hil] at d1
      rw [htx] at d0
      have HE : Hid ((Is j).length = il ∧ Tx j = tx) := ⟨hil, htx⟩
      clear hil htx
      go_wp2
      · go_ret
        exact guardEnd_no rfl (hO.alloc _)
      · go_roundw
        case rel =>
          have h5 : (il : Int) ≤ 300 ∧ (tx.size : Int) ≤ 4096 := by assumption
          refine ⟨j + 1, by omega, by go_num, hO.alloc _, fun i hi => ?_⟩
          rcases Nat.lt_or_eq_of_le (Nat.le_of_lt_succ hi) with h | h
          · exact HR.out i h
          · subst h; rw [HE.out.1, HE.out.2]; omega
        case measure => simp [intOf]; omega
      · go_ret
        exact guardEnd_no rfl (hO.alloc _)
    · obtain rfl : j = np := by omega
      go_wp2
      go_ret
      exact ⟨true, rfl, hO, fun _ => ⟨h1, h2, h3, h4, HR.out⟩⟩

end Go.Proofs.Ybulkdfse.C
