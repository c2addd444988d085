/-
  THE WALK of LawS5347BWords (3).
-/
import Derived.Test.YbulkdfseBBase
import Derived.OpenShut
namespace Go.Proofs.Ybulkdfse.B
open Go.RowKit

/-- The words of a row of selectors, in order. -/
def wds : List Int → ByteArray
  | [] => ByteArray.empty
  | z :: r => wordOf z ++ wds r

theorem wds_append (a b : List Int) : wds (a ++ b) = wds a ++ wds b := by
  induction a with
  | nil => simp [wds]
  | cons z r ih => simp [wds, ih, ByteArray.append_assoc]

theorem wds_size (l : List Int) : (wds l).size ≤ 8 * l.length := by
  induction l with
  | nil => simp [wds]
  | cons z r ih =>
    have := wordK_size (kOf z)
    simp only [wds, ByteArray.size_append, List.length_cons, wordOf]
    omega

theorem wds_take_succ (zs : List Int) (k : Nat) (h : k < zs.length) : wds (zs.take (k + 1)) = wds (zs.take k) ++ wordOf (zs[k]?.getD 0) := by
  rw [List.take_succ_eq_append_getElem h, wds_append]
  simp [wds, h]

theorem wds_drop (zs : List Int) (k : Nat) (h : k < zs.length) : wds (zs.drop k) = wordOf (zs[k]?.getD 0) ++ wds (zs.drop (k + 1)) := by
  rw [List.drop_eq_getElem_cons h]
  simp [wds, h]

/-- THE WORLD BEHIND ONE ROUND OF THE FIRST LOOP: the old type goes into a new block, the variable's block T holds the new one. -/
theorem step_world (w w0 : World) (B T n : Nat) (kk kn : Int) (p : Option Addr) (s : ByteArray) (v0 v1 : Value) (r : Array Value) (hc0 : w.cell? ⟨T, 0, none⟩ = some v0) (hc1 : w.cell? ⟨T, 1, none⟩ = some v1)
    (hf0 : w.frozen? ⟨T, 0, none⟩ = false) (hf1 : w.frozen? ⟨T, 1, none⟩ = false) (hN : NameIs w T n kk p s) (hT : T < w.heap.size) (hb : Below B w0 w) (hB : B ≤ T) (hk : kn = 4 ∨ kn = 5 ∨ kn = 6) (hr0 : r[0]? = some (.int .u8 kk)) (hr1 : r[1]? = some (.pointer p)) :
    ∀ W', W' = ((w.setCell ⟨T, 0, none⟩ (.int .u8 kn)).setCell ⟨T, 1, none⟩ (.pointer (some ⟨w.heap.size, 0, none⟩))).alloc (.cells r 41) →
      W'.cell? ⟨T, 0, none⟩ = some (.int .u8 kn) ∧ W'.cell? ⟨T, 1, none⟩ = some (.pointer (some ⟨w.heap.size, 0, none⟩)) ∧ W'.frozen? ⟨T, 0, none⟩ = false ∧ W'.frozen? ⟨T, 1, none⟩ = false ∧
      NameIs W' T (n + 1) kn (some ⟨w.heap.size, 0, none⟩) (wordK kn ++ s) ∧ T < W'.heap.size ∧ Below B w0 W' := by
  intro W' hW
  have hsz : W'.heap.size = w.heap.size + 1 := by rw [hW]; simp
  have hS : Below w.heap.size ((w.setCell ⟨T, 0, none⟩ (.int .u8 kn)).setCell ⟨T, 1, none⟩ (.pointer (some ⟨w.heap.size, 0, none⟩))) W' := by
    rw [hW]; exact (Below.refl _ _).alloc (by simp) _
  have hold : ∀ b' o, b' < w.heap.size → b' ≠ T → W'.cell? ⟨b', o, none⟩ = w.cell? ⟨b', o, none⟩ := by
    intro b' o h1 h2
    rw [hS.cell (p := ⟨b', o, none⟩) h1]
    rw [World.cell?_of_block (w := w) (a := ⟨b', o, none⟩)]
    rw [Below.heap_setCell _ _ _ _ (by simpa using h2), Below.heap_setCell _ _ _ _ (by simpa using h2)]
  have hnew : ∀ o, W'.cell? ⟨w.heap.size, o, none⟩ = r[o]? := by
    intro o
    have := World.cell?_alloc_new ((w.setCell ⟨T, 0, none⟩ (.int .u8 kn)).setCell ⟨T, 1, none⟩ (.pointer (some ⟨w.heap.size, 0, none⟩))) r 41 o
    rw [hW]
    simpa using this
  refine ⟨?_, ?_, ?_, ?_, ?_, by omega, ?_⟩
  · rw [hS.cell (p := ⟨T, 0, none⟩) hT, World.cell?_setCell_other _ _ _ _ (by simp)]; exact World.cell?_setCell_same _ _ _ hc0
  · rw [hS.cell (p := ⟨T, 1, none⟩) hT]; exact World.cell?_setCell_same _ _ _ ((World.cell?_setCell_other _ _ _ _ (by simp)).trans hc1)
  · rw [hS.frozen (p := ⟨T, 0, none⟩) hT, World.frozen?_setCell, World.frozen?_setCell]; exact hf0
  · rw [hS.frozen (p := ⟨T, 1, none⟩) hT, World.frozen?_setCell, World.frozen?_setCell]; exact hf1
  · exact ⟨w.heap.size, kk, p, s, rfl, by omega, by omega, by rw [hnew, hr0], by rw [hnew, hr1], hk, rfl, hN.carry (by omega) (fun _ _ h => h) hold⟩
  · rw [hW]
    exact ((hb.setCell (p := ⟨T, 0, none⟩) hB _).setCell (p := ⟨T, 1, none⟩) hB _).alloc (by have := hb.size; simp; omega) _

set_option maxHeartbeats 800000 in
theorem words_some (b off len cap : Nat) (zs : List Int) (z : Int) (w : World) (hz0 : 0 ≤ z) (hz1 : z ≤ 255) (hlen : len ≤ 1024) (hlz : zs.length = len) (hb : 0 < len → b < w.heap.size)
    (hc : ∀ j, j < len → w.cell? ⟨b, off + j, none⟩ = some (.int .u8 (zs[j]?.getD 0))) (hr : ∀ j : Nat, 0 ≤ zs[j]?.getD 0 ∧ zs[j]?.getD 0 ≤ 255) (at0 : Option Addr) (hat : 0 < len → at0 = some ⟨b, off, none⟩) :
    Calls Yba.prog 3 #[.slice at0 len cap, .int .u8 z] w fun e w' => e = .returned (.bool true) ∧ Below w.heap.size w w' := by
  have HAt : Hid ((0 < len → at0 = some ⟨b, off, none⟩) ∧ (0 < len → b < w.heap.size)) := ⟨hat, hb⟩
  clear hat hb
  have HL : Hid (zs.length = len) := hlz
  clear hlz
  have HC : Hid (∀ j, j < len → w.cell? ⟨b, off + j, none⟩ = some (.int .u8 (zs[j]?.getD 0))) := hc
  clear hc
  go_enter Yba.func3, Yba.ntmps3
  go_wp2_with (go_at_call 6; refine (base_any _ _ (by omega) (by omega)).mono ?_; rintro e w1 ⟨n0, k0, p0, want, rfl, hn0, hB1, hN1⟩)
  have hB2 : Below w.heap.size w (w1.alloc (.cells #[.int .u8 k0, .pointer p0] 26)) := hB1.alloc hB1.size _
  have hNs : NameIs (w1.alloc (.cells #[.int .u8 k0, .pointer p0] 26)) w1.heap.size n0 k0 p0 (wds (zs.drop len) ++ want) := by
    rw [List.drop_of_length_le (by have := HL.out; omega)]
    have : wds [] ++ want = want := by simp [wds]
    rw [this]
    exact (hN1 w1.heap.size (Nat.le_refl _)).carry (by simp) (fun _ _ h => h) (fun b' o' hb _ => ((Below.refl _ w1).alloc (Nat.le_refl _) _).cell (p := ⟨b', o', none⟩) hb)
  obtain ⟨T, hT⟩ : ∃ T, T = w1.heap.size := ⟨_, rfl⟩
  have hwT : w.heap.size ≤ T := by rw [hT]; exact hB1.size
  have hwant := (hN1 w1.heap.size (Nat.le_refl _)).size
  rw [← hT] at hNs
  clear hN1
  go_loopw [7] (fun i wr => ∃ (k n : Nat) (kk : Int) (p : Option Addr), k ≤ len ∧ i = .int .i64 ((k : Int) - 1) ∧ wr.cell? ⟨w1.heap.size, 0, none⟩ = some (.int .u8 kk) ∧ wr.cell? ⟨w1.heap.size, 1, none⟩ = some (.pointer p) ∧
      wr.frozen? ⟨w1.heap.size, 0, none⟩ = false ∧ wr.frozen? ⟨w1.heap.size, 1, none⟩ = false ∧ NameIs wr T n kk p (wds (zs.drop k) ++ want) ∧ n ≤ n0 + (len - k) ∧ w1.heap.size < wr.heap.size ∧ Below w.heap.size w wr)
    (fun i _ => (intOf i + 1).toNat)
  case atStart => exact ⟨len, n0, k0, p0, Nat.le_refl _, rfl, by simp, by simp, by simp, by simp, hNs, by omega, by simp, hB2⟩
  case round =>
    obtain ⟨k, n, kk, p, hk, rfl, hc0, hc1, hf0, hf1, hN, hn, hTr, hBr⟩ := hrel
    by_cases hk0 : 0 < k
    · obtain ⟨hat, hbw⟩ := HAt.out
      obtain rfl := hat (by omega)
      have hbl := hbw (by omega)
      clear hat hbw
      have hcx : wr.cell? ⟨b, off + (k - 1), none⟩ = some (.int .u8 (zs[k - 1]?.getD 0)) := (hBr.cell (p := ⟨b, off + (k - 1), none⟩) hbl).trans (HC.out (k - 1) (by omega))
      have hrx := hr (k - 1)
      go_wp2_with (go_at_call 7; refine (wrap_any _ _ (by omega) (by omega)).mono ?_; rintro e w' ⟨rfl, rfl⟩)
      have hkn : kOf (zs[k - 1]?.getD 0) = 4 ∨ kOf (zs[k - 1]?.getD 0) = 5 ∨ kOf (zs[k - 1]?.getD 0) = 6 := by unfold kOf; split <;> (try split) <;> simp
      have S := step_world w' w w.heap.size w1.heap.size n kk (kOf (zs[k - 1]?.getD 0)) p (wds (zs.drop k) ++ want) _ _ #[.int .u8 kk, .pointer p, .slice none 0 0, .slice none 0 0, .int .u64 0, .int .i64 0, .pointer none] hc0 hc1 hf0 hf1 (by rw [← hT]; exact hN) hTr hBr (by omega) hkn rfl rfl _ rfl
      have hds : wds (zs.drop (k - 1)) ++ want = wordK (kOf (zs[k - 1]?.getD 0)) ++ (wds (zs.drop k) ++ want) := by
        rw [wds_drop zs (k - 1) (by have := HL.out; omega), show k - 1 + 1 = k by omega, ByteArray.append_assoc]; rfl
      go_roundw
      case rel => exact ⟨k - 1, n + 1, _, _, by omega, by congr 1; omega, S.1, S.2.1, S.2.2.1, S.2.2.2.1, by rw [hds, hT]; exact S.2.2.2.2.1, by omega, S.2.2.2.2.2.1, S.2.2.2.2.2.2⟩
      case measure => simp [intOf]; omega
    · obtain rfl : k = 0 := by omega
      clear hk0
      have e0 : (((0 : Nat) : Int) - 1) = -1 := rfl
      rw [e0]
      clear e0
      have hN' : NameIs wr T n kk p (wds zs ++ want) := by simpa using hN
      clear hN hB2 hNs
      go_wp2_with fail
      go_loop [10, 11] (fun s i => ∃ j : Nat, j ≤ len ∧ i = .int .i64 j ∧ s = .string (wds (zs.take j))) (fun _ i => len - (intOf i).toNat)
      case atStart => exact ⟨0, Nat.zero_le _, rfl, rfl⟩
      case round =>
        obtain ⟨j, hj, rfl, rfl⟩ := hrel
        by_cases hlt : j < len
        · obtain ⟨hat, hbw⟩ := HAt.out
          obtain rfl := hat (by omega)
          have hbl := hbw (by omega)
          clear hat hbw
          have hcx : wr.cell? ⟨b, off + j, none⟩ = some (.int .u8 (zs[j]?.getD 0)) := (hBr.cell (p := ⟨b, off + j, none⟩) hbl).trans (HC.out j hlt)
          have hrx := hr j
          have hs1 := wds_size (zs.take j)
          have hs2 : (zs.take j).length ≤ j := List.length_take_le _ _
          have hs3 := wordK_size (kOf (zs[j]?.getD 0))
          have hs4 : (wordOf (zs[j]?.getD 0)).size ≤ 8 := hs3
          have HT : Hid (wds (zs.take (j + 1)) = wds (zs.take j) ++ wordOf (zs[j]?.getD 0)) := wds_take_succ zs j (by have := HL.out; omega)
          go_wp2_with (go_at_call 7; refine (wrap_any _ _ (by omega) (by omega)).mono ?_; rintro e w' ⟨rfl, rfl⟩)
          go_round
          case rel => exact ⟨j + 1, by omega, by go_num, by rw [HT.out]⟩
          case measure => simp [intOf]; omega
        · have hjl : wds (zs.take j) = wds zs := by rw [List.take_of_length_le (by have := HL.out; omega)]
          rw [hjl]
          clear hjl
          have hsz1 := wds_size zs
          have hzl : zs.length ≤ 1024 := by have := HL.out; omega
          go_wp2_with (go_at_call 8; refine (name_any n kk p (wds zs ++ want) T _ (by omega) hN').mono ?_; rintro e w' ⟨rfl, hb⟩)
          go_ret
          exact ⟨rfl, hBr.trans (hb.mono hBr.size)⟩

theorem words_long (len cap : Nat) (z : Int) (w : World) (hlen : 1024 < len) (at0 : Option Addr) :
    Calls Yba.prog 3 #[.slice at0 len cap, .int .u8 z] w fun e w' => e = .returned (.bool true) ∧ Below w.heap.size w w' := by
  go_enter Yba.func3, Yba.ntmps3
  go_wp2_with fail
  go_ret
  exact ⟨rfl, Below.refl _ _⟩

end Go.Proofs.Ybulkdfse.B
