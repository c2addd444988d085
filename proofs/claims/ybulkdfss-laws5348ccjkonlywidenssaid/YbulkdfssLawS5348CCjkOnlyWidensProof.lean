/-
  THE SHELL OF A PROOF OF 'Rows.LawS5348CCjkOnlyWidensSaid' ('example.com/lexloom/lexloom.LawS5348CCjkOnlyWidens'), WRITTEN BY PROGRAM (proof-skeleton.mjs) off the guide's own print for that function. Not trusted: Lean checks it.
  THE HOLE IS FILLED. ALL ELSE IS THE SHELL's FRAME.
-/
import Derived.Test.YbulkdfssRows
import Derived.Test.YbulkdfssC
import Derived.WalkKit
import Derived.ProofKit
import Derived.OpenShut
import Derived.ShutString
namespace Go.Proofs.Ybulkdfss.lawS5348CCjkOnlyWidens
open Go.ChangeShapes Go.WideShapes Go.ChangeAt Go.RowKit
open Go.ChangeMaps (open_string shut_string)
set_option linter.unusedVariables false      -- a walk need not use every 'w<i>' (that an integer argument fits its kind)

theorem own : ownKnob Yba.prog.godebug = none := by kernel_rfl

/-! ### STEP 1: THE WALK: the Go text returns true. 'Grown w w'': the world has at most new blocks (Derived/RowKit3.lean). Part the cases AHEAD of 'go_enter' where a test parts the walk; take each callee by a contract of your own. -/
theorem walk (a0 : Int) (a1 : Int) (a2 : Int) (w0 : (Lit.int .i64 a0).wf = true) (w1 : (Lit.int .i32 a1).wf = true) (w2 : (Lit.int .u8 a2).wf = true) (w : World) :
    Calls Yba.prog 6 #[.int .i64 a0, .int .i32 a1, .int .u8 a2] w fun e w' => e = .returned (.bool true) ∧ Grown w w' := by
  obtain ⟨hp0, hp1⟩ := bounds_u8 w2
  clear w0 w1 w2
  have hf : C.cols false a0 (C.edge a1 a2) = a0 := by simp [C.cols]
  have ht : C.cols true a0 (C.edge a1 a2) = a0 ∨ (a0 = 1 ∧ C.cols true a0 (C.edge a1 a2) = 2) := by
    unfold C.cols
    split
    · rename_i h; exact .inr ⟨h.2.1, rfl⟩
    · exact .inl rfl
  rcases ht with ht | ⟨rfl, ht⟩
  · go_enter Yba.func6, Yba.ntmps6
    go_wp2_with (first | (go_at_call 8; refine (C.edge_any _ _ _ hp0 hp1).mono ?_; rintro e w' ⟨rfl, rfl⟩) | (go_at_call 9; refine (C.cols_any _ a0 _ _ _ _ (by simp only [World.size_alloc]; omega) (by first | exact C.box_one _ _ _ _ _ | exact C.box_two _ _ _ _ _ _)).mono ?_; rintro e w' ⟨rfl, rfl⟩))
    go_ret
    exact ⟨rfl, by repeat (first | exact Grown.refl _ | apply Grown.drew | apply Grown.alloc)⟩
  · go_enter Yba.func6, Yba.ntmps6
    go_wp2_with (first | (go_at_call 8; refine (C.edge_any _ _ _ hp0 hp1).mono ?_; rintro e w' ⟨rfl, rfl⟩) | (go_at_call 9; refine (C.cols_any _ 1 _ _ _ _ (by simp only [World.size_alloc]; omega) (by first | exact C.box_one _ _ _ _ _ | exact C.box_two _ _ _ _ _ _)).mono ?_; rintro e w' ⟨rfl, rfl⟩))
    go_ret
    exact ⟨rfl, by repeat (first | exact Grown.refl _ | apply Grown.drew | apply Grown.alloc)⟩

/-! ### THE ROW's STEP: WRITTEN OUT: LEAVE IT -/
set_option maxRecDepth 100000 in
theorem lifted (os : Os) (started : os.Started) (H : Type) (enc : TypeId × Value → H) :
    ReturnsInHanded {} Yba.checked os 6 .any (Rows.lawS5348CCjkOnlyWidensSpec.pre6 enc Yba.prog Yba.f6 Rows.lawS5348CCjkOnlyWidensRow.domain false) (Rows.lawS5348CCjkOnlyWidensSpec.post enc Yba.prog Yba.f6 false true false false) := by
  refine returnsInHanded_of_change (C := Yba.checked) own started (by kernel_rfl) Yba.func6
    (ChangeSpec.witness6 (enc := enc) (C := Yba.checked) false ⟨#[], #[.int .i64 0, .int .i32 0, .int .u8 0], []⟩ 8 (by kernel_rfl) (by kernel_rfl) (by kernel_rfl) (by kernel_rfl)) ?_
  intro W base args ds gs before hval0 hW hcnd _
  have hval : ∀ (j : Nat) t v, Yba.f6.params[j]? = some t → args[j]? = some v → Value.okWide Yba.prog W .any base t v := hval0
  have hW' := hW
  obtain ⟨p, q, hA0, hV, rfl, hfz, hnd⟩ := hW
  have hA : DataW.TrodAll enc Yba.prog W 0 (fun _ => true) true Yba.f6.params.toList args.toList ds p := hA0
  rw [Yba.params6] at hA hval
  obtain ⟨v0, vs0, d0, ds0, p0, q0, hargs, rfl, rfl, h0, r0⟩ := trodAll_cons hA
  obtain ⟨v1, vs1, d1, ds1, p1, q1, rfl, rfl, rfl, h1, r1⟩ := trodAll_cons r0
  obtain ⟨v2, vs2, d2, ds2, p2, q2, rfl, rfl, rfl, h2, r2⟩ := trodAll_cons r1
  obtain ⟨rfl, rfl, rfl⟩ := trodAll_nil r2
  obtain rfl : args = #[v0, v1, v2] := by cases args; simp_all
  obtain ⟨rfl, rfl⟩ := trodVars_none hV
  obtain ⟨a0, rfl, rfl, rfl, w0⟩ := open_int Yba.underlying3 (hval 0 3 v0 rfl rfl) h0
  obtain ⟨a1, rfl, rfl, rfl, w1⟩ := open_int Yba.underlying21 (hval 1 21 v1 rfl rfl) h1
  obtain ⟨a2, rfl, rfl, rfl, w2⟩ := open_int Yba.underlying5 (hval 2 5 v2 rfl rfl) h2
  clear hA0 hval0
  simp only [List.append_nil] at hW'
  refine (walk a0 a1 a2 w0 w1 w2 W).mono fun e W' ⟨he, hg⟩ => ?_
  subst he
  exact ⟨_, rfl, post_of_same (pa := []) (pv := []) hW' (fun _ _ _ => (trodAll_cons_mk (shut_bool Yba.underlying4 _) trodAll_mk0)) (fun sp _ => (trodAll_cons_mk (shut_int Yba.underlying3 w0) (trodAll_cons_mk (shut_int Yba.underlying21 w1) (trodAll_cons_mk (shut_int Yba.underlying5 w2) trodAll_mk0)))) (fun _ _ => rfl) rfl
    (hg.frame _) hg.2.1 (ok_one (by kernel_rfl) rfl (okWide_bool_mk Yba.underlying4 _))⟩

theorem over : Rows.lawS5348CCjkOnlyWidensRow.holds Yba.pinned (OpenSpec.ofChange Rows.lawS5348CCjkOnlyWidensSpec) :=
  OpenClaim.holds_of_wide 6 Yba.f6 rfl rfl rfl rfl rfl rfl rfl ⟨rfl, rfl, rfl, rfl, rfl⟩ rfl rfl rfl rfl rfl (by kernel_rfl) Yba.func6 (by kernel_rfl)
    (of_decide_eq_true (by kernel_rfl)) (by unfold Func.isWrapper; first | (rw [if_pos (by decide +kernel)]; kernel_rfl) | (rw [if_neg (by decide +kernel)]; exact ⟨rfl, rfl⟩))
    (fun os started H enc _ => lifted os started H enc)

/-- ████ THE STATEMENT ████ -/
theorem proved : Rows.LawS5348CCjkOnlyWidensSaid :=
  over
#print axioms proved
end Go.Proofs.Ybulkdfss.lawS5348CCjkOnlyWidens
