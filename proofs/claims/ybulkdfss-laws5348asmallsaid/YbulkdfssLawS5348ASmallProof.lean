/-
  THE SHELL OF A PROOF OF 'Rows.LawS5348ASmallSaid' ('example.com/lexloom/lexloom.LawS5348ASmall'), WRITTEN BY PROGRAM (proof-skeleton.mjs) off the guide's own print for that function. Not trusted: Lean checks it.
  THE HOLE IS FILLED. ALL ELSE IS THE SHELL's FRAME.
-/
import Derived.Test.YbulkdfssRows
import Derived.WalkKit
import Derived.ProofKit
import Derived.OpenShut
import Derived.ShutString
namespace Go.Proofs.Ybulkdfss.lawS5348ASmall
open Go.ChangeShapes Go.WideShapes Go.ChangeAt Go.RowKit
open Go.ChangeMaps (open_string shut_string)
set_option linter.unusedVariables false      -- a walk need not use every 'w<i>' (that an integer argument fits its kind)

theorem own : ownKnob Yba.prog.godebug = none := by kernel_rfl

/-! ### THE PLAIN LAW, AND THE CALLEE's CONTRACT -/
theorem sub_mod (m y : Int) : (m - y) % y = m % y := by
  rw [Int.sub_emod, Int.emod_self, Int.sub_zero, Int.emod_emod]

theorem rem_any (a b : Int) (w : World) (ha : 0 ≤ a) (ha1 : a ≤ 65535) (hb : 0 < b) (hb1 : b ≤ 255) :
    Calls Yba.prog 7 #[.int .u64 a, .int .u64 b] w fun e w' => e = .returned (.int .u64 (a % b)) ∧ w' = w := by
  go_enter Yba.func7, Yba.ntmps7
  go_wp2
  go_ret
  exact ⟨rfl, rfl⟩

/-! ### STEP 1: THE WALK: the Go text returns true. 'Grown w w'': the world has at most new blocks (Derived/RowKit3.lean). Part the cases AHEAD of 'go_enter' where a test parts the walk; take each callee by a contract of your own. -/
theorem walk (a0 : Int) (a1 : Int) (w0 : (Lit.int .u16 a0).wf = true) (w1 : (Lit.int .u8 a1).wf = true) (w : World) :
    Calls Yba.prog 4 #[.int .u16 a0, .int .u8 a1] w fun e w' => e = .returned (.bool true) ∧ Grown w w' := by
  obtain ⟨ha0, ha1⟩ := bounds_u16 w0
  obtain ⟨hb0, hb1⟩ := bounds_u8 w1
  clear w0 w1
  by_cases hz : a1 = 0
  · subst hz
    go_enter Yba.func4, Yba.ntmps4
    go_wp2
    go_ret
    exact ⟨rfl, Grown.refl _⟩
  · have hp : 0 < a1 := by omega
    clear hz
    obtain ⟨R, hR⟩ : ∃ R, a0 % a1 = R := ⟨_, rfl⟩
    have HR : Hid (a0 % a1 = R) := hR
    go_enter Yba.func4, Yba.ntmps4
    go_wp2_with (go_at_call 7; refine (rem_any a0 a1 _ ha0 ha1 hp hb1).mono ?_; rintro e w' ⟨rfl, rfl⟩; rw [hR])
    clear hR
    go_loop [8] (fun i => ∃ M : Int, i = .int .u64 M ∧ 0 ≤ M ∧ M ≤ 65535 ∧ Hid (M % a1 = R)) (fun i => (intOf i).toNat)
    case atStart => exact ⟨a0, rfl, ha0, ha1, HR⟩
    case round =>
      obtain ⟨M, rfl, hM0, hM1, HM⟩ := hrel
      by_cases hlt : M < a1
      · have hMR : R = M := by
          have h := HM.out
          rw [Int.emod_eq_of_lt hM0 hlt] at h
          exact h.symm
        subst hMR
        go_wp2
        go_ret
        exact ⟨by simp, Grown.refl _⟩
      · go_wp2
        go_round
        case rel => exact ⟨M - a1, rfl, by omega, by omega, by rw [← HM.out]; exact sub_mod M a1⟩
        case measure => simp [intOf]; omega

/-! ### THE ROW's STEP: WRITTEN OUT: LEAVE IT -/
set_option maxRecDepth 100000 in
theorem lifted (os : Os) (started : os.Started) (H : Type) (enc : TypeId × Value → H) :
    ReturnsInHanded {} Yba.checked os 4 .any (Rows.lawS5348ASmallSpec.pre6 enc Yba.prog Yba.f4 Rows.lawS5348ASmallRow.domain false) (Rows.lawS5348ASmallSpec.post enc Yba.prog Yba.f4 false true false false) := by
  refine returnsInHanded_of_change (C := Yba.checked) own started (by kernel_rfl) Yba.func4
    (ChangeSpec.witness6 (enc := enc) (C := Yba.checked) false ⟨#[], #[.int .u16 0, .int .u8 0], []⟩ 8 (by kernel_rfl) (by kernel_rfl) (by kernel_rfl) (by kernel_rfl)) ?_
  intro W base args ds gs before hval0 hW hcnd _
  have hval : ∀ (j : Nat) t v, Yba.f4.params[j]? = some t → args[j]? = some v → Value.okWide Yba.prog W .any base t v := hval0
  have hW' := hW
  obtain ⟨p, q, hA0, hV, rfl, hfz, hnd⟩ := hW
  have hA : DataW.TrodAll enc Yba.prog W 0 (fun _ => true) true Yba.f4.params.toList args.toList ds p := hA0
  rw [Yba.params4] at hA hval
  obtain ⟨v0, vs0, d0, ds0, p0, q0, hargs, rfl, rfl, h0, r0⟩ := trodAll_cons hA
  obtain ⟨v1, vs1, d1, ds1, p1, q1, rfl, rfl, rfl, h1, r1⟩ := trodAll_cons r0
  obtain ⟨rfl, rfl, rfl⟩ := trodAll_nil r1
  obtain rfl : args = #[v0, v1] := by cases args; simp_all
  obtain ⟨rfl, rfl⟩ := trodVars_none hV
  obtain ⟨a0, rfl, rfl, rfl, w0⟩ := open_int Yba.underlying25 (hval 0 25 v0 rfl rfl) h0
  obtain ⟨a1, rfl, rfl, rfl, w1⟩ := open_int Yba.underlying5 (hval 1 5 v1 rfl rfl) h1
  clear hA0 hval0
  simp only [List.append_nil] at hW'
  refine (walk a0 a1 w0 w1 W).mono fun e W' ⟨he, hg⟩ => ?_
  subst he
  exact ⟨_, rfl, post_of_same (pa := []) (pv := []) hW' (fun _ _ _ => (trodAll_cons_mk (shut_bool Yba.underlying4 _) trodAll_mk0)) (fun sp _ => (trodAll_cons_mk (shut_int Yba.underlying25 w0) (trodAll_cons_mk (shut_int Yba.underlying5 w1) trodAll_mk0))) (fun _ _ => rfl) rfl
    (hg.frame _) hg.2.1 (ok_one (by kernel_rfl) rfl (okWide_bool_mk Yba.underlying4 _))⟩

theorem over : Rows.lawS5348ASmallRow.holds Yba.pinned (OpenSpec.ofChange Rows.lawS5348ASmallSpec) :=
  OpenClaim.holds_of_wide 4 Yba.f4 rfl rfl rfl rfl rfl rfl rfl ⟨rfl, rfl, rfl, rfl, rfl⟩ rfl rfl rfl rfl rfl (by kernel_rfl) Yba.func4 (by kernel_rfl)
    (of_decide_eq_true (by kernel_rfl)) (by unfold Func.isWrapper; first | (rw [if_pos (by decide +kernel)]; kernel_rfl) | (rw [if_neg (by decide +kernel)]; exact ⟨rfl, rfl⟩))
    (fun os started H enc _ => lifted os started H enc)

/-- ████ THE STATEMENT ████ -/
theorem proved : Rows.LawS5348ASmallSaid :=
  over
#print axioms proved
end Go.Proofs.Ybulkdfss.lawS5348ASmall
