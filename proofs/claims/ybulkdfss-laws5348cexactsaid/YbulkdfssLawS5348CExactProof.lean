/-
  THE SHELL OF A PROOF OF 'Rows.LawS5348CExactSaid' ('example.com/lexloom/lexloom.LawS5348CExact'), WRITTEN BY PROGRAM (proof-skeleton.mjs) off the guide's own print for that function. Not trusted: Lean checks it.
  THE HOLE IS FILLED. ALL ELSE IS THE SHELL's FRAME.
-/
import Derived.Test.YbulkdfssRows
import Derived.Test.YbulkdfssC
import Derived.Laws.EntriesVeiled
import Derived.WalkKit
import Derived.ProofKit
import Derived.OpenShut
import Derived.ShutString
namespace Go.Proofs.Ybulkdfss.lawS5348CExact
open Go.ChangeShapes Go.WideShapes Go.ChangeAt Go.RowKit
open Go.ChangeMaps (open_string shut_string)
set_option linter.unusedVariables false      -- a walk need not use every 'w<i>' (that an integer argument fits its kind)

theorem own : ownKnob Yba.prog.godebug = none := by kernel_rfl

/-! ### THE WAYS, the tests decided ahead -/
theorem cols_not (c r : Int) (h : ¬ c = 1) : C.cols true c r = c := by simp [C.cols, h]
theorem cols_wide (r : Int) (h : C.wide r = true) : C.cols true 1 r = 2 := by
  simp only [C.wide, decide_eq_true_eq] at h
  unfold C.cols
  rw [if_pos ⟨rfl, rfl, h.1, by omega, h.2.2⟩]
theorem cols_slim (r : Int) (h : C.wide r = false) : C.cols true 1 r = 1 := by
  simp only [C.wide, decide_eq_false_iff_not] at h
  unfold C.cols
  rw [if_neg (fun k => h ⟨k.2.2.1, by omega, k.2.2.2.2⟩)]

/-! ### STEP 1: THE WALK: the Go text returns true. 'Grown w w'': the world has at most new blocks (Derived/RowKit3.lean). Part the cases AHEAD of 'go_enter' where a test parts the walk; take each callee by a contract of your own. -/
theorem walk (a0 : Int) (a1 : Int) (a2 : ByteArray) (a3 : Bool) (a4 : Int) (a5 : Int) (a6 : Int) (w0 : (Lit.int .i32 a0).wf = true) (w1 : (Lit.int .i64 a1).wf = true) (w2 : a2.size ≤ maxLen) (w4 : (Lit.int .i64 a4).wf = true) (w5 : (Lit.int .i32 a5).wf = true) (w6 : (Lit.int .u8 a6).wf = true) (w : World) :
    Calls Yba.prog 5 #[.int .i32 a0, .int .i64 a1, .string a2, .bool a3, .int .i64 a4, .int .i32 a5, .int .u8 a6] w fun e w' => e = .returned (.bool true) ∧ Grown w w' := by
  obtain ⟨hp0, hp1⟩ := bounds_u8 w6
  clear w0 w1 w4 w5 w6
  cases a3 with
  | false =>
    have hf : C.cols false a1 (C.edge a5 a6) = a1 := by simp [C.cols]
    go_enter Yba.func5, Yba.ntmps5
    go_wp2_with (first | (go_at_call 8; refine (C.edge_any _ _ _ hp0 hp1).mono ?_; rintro e w' ⟨rfl, rfl⟩) | (go_at_call 9; refine (C.cols_any _ a1 _ _ _ _ (by simp only [World.size_alloc]; omega) (by exact C.box_two _ _ _ _ _ _)).mono ?_; rintro e w' ⟨rfl, rfl⟩))
    go_ret
    exact ⟨rfl, by repeat (first | exact Grown.refl _ | apply Grown.drew | apply Grown.alloc)⟩
  | true =>
    by_cases h1 : a1 = 1
    · subst h1
      cases hw : C.wide (C.edge a5 a6) with
      | true =>
        have hf := cols_wide _ hw
        go_enter Yba.func5, Yba.ntmps5
        go_wp2_with (first | (go_at_call 8; refine (C.edge_any _ _ _ hp0 hp1).mono ?_; rintro e w' ⟨rfl, rfl⟩) | (go_at_call 10; refine (C.wide_any _ _).mono ?_; rintro e w' ⟨rfl, rfl⟩) | (go_at_call 9; refine (C.cols_any _ 1 _ _ _ _ (by simp only [World.size_alloc]; omega) (by exact C.box_two _ _ _ _ _ _)).mono ?_; rintro e w' ⟨rfl, rfl⟩))
        go_ret
        exact ⟨rfl, by repeat (first | exact Grown.refl _ | apply Grown.drew | apply Grown.alloc)⟩
      | false =>
        have hf := cols_slim _ hw
        go_enter Yba.func5, Yba.ntmps5
        go_wp2_with (first | (go_at_call 8; refine (C.edge_any _ _ _ hp0 hp1).mono ?_; rintro e w' ⟨rfl, rfl⟩) | (go_at_call 10; refine (C.wide_any _ _).mono ?_; rintro e w' ⟨rfl, rfl⟩) | (go_at_call 9; refine (C.cols_any _ 1 _ _ _ _ (by simp only [World.size_alloc]; omega) (by exact C.box_two _ _ _ _ _ _)).mono ?_; rintro e w' ⟨rfl, rfl⟩))
        go_ret
        exact ⟨rfl, by repeat (first | exact Grown.refl _ | apply Grown.drew | apply Grown.alloc)⟩
    · have hf := cols_not a1 (C.edge a5 a6) h1
      go_enter Yba.func5, Yba.ntmps5
      go_wp2_with (first | (go_at_call 8; refine (C.edge_any _ _ _ hp0 hp1).mono ?_; rintro e w' ⟨rfl, rfl⟩) | (go_at_call 9; refine (C.cols_any _ a1 _ _ _ _ (by simp only [World.size_alloc]; omega) (by exact C.box_two _ _ _ _ _ _)).mono ?_; rintro e w' ⟨rfl, rfl⟩))
      go_ret
      exact ⟨rfl, by repeat (first | exact Grown.refl _ | apply Grown.drew | apply Grown.alloc)⟩

/-! ### THE ROW's STEP: WRITTEN OUT: LEAVE IT -/
set_option maxRecDepth 100000 in
theorem lifted (os : Os) (started : os.Started) (H : Type) (enc : TypeId × Value → H) :
    ReturnsInHanded {} Yba.checked os 5 .any (Rows.lawS5348CExactSpec.pre6 enc Yba.prog Yba.f5 Rows.lawS5348CExactRow.domain false) (Rows.lawS5348CExactSpec.post enc Yba.prog Yba.f5 false true false false) := by
  refine returnsInHanded_of_change (C := Yba.checked) own started (by kernel_rfl) Yba.func5
    (ChangeSpec.witness6 (enc := enc) (C := Yba.checked) false ⟨#[], #[.int .i32 0, .int .i64 0, .string ByteArray.empty, .bool false, .int .i64 0, .int .i32 0, .int .u8 0], []⟩ 8 (by kernel_rfl) (by kernel_rfl) (by kernel_rfl) (by kernel_rfl)) ?_
  intro W base args ds gs before hval0 hW hcnd _
  have hval : ∀ (j : Nat) t v, Yba.f5.params[j]? = some t → args[j]? = some v → Value.okWide Yba.prog W .any base t v := hval0
  have hW' := hW
  obtain ⟨p, q, hA0, hV, rfl, hfz, hnd⟩ := hW
  have hA : DataW.TrodAll enc Yba.prog W 0 (fun _ => true) true Yba.f5.params.toList args.toList ds p := hA0
  rw [Yba.params5] at hA hval
  obtain ⟨v0, vs0, d0, ds0, p0, q0, hargs, rfl, rfl, h0, r0⟩ := trodAll_cons hA
  obtain ⟨v1, vs1, d1, ds1, p1, q1, rfl, rfl, rfl, h1, r1⟩ := trodAll_cons r0
  obtain ⟨v2, vs2, d2, ds2, p2, q2, rfl, rfl, rfl, h2, r2⟩ := trodAll_cons r1
  obtain ⟨v3, vs3, d3, ds3, p3, q3, rfl, rfl, rfl, h3, r3⟩ := trodAll_cons r2
  obtain ⟨v4, vs4, d4, ds4, p4, q4, rfl, rfl, rfl, h4, r4⟩ := trodAll_cons r3
  obtain ⟨v5, vs5, d5, ds5, p5, q5, rfl, rfl, rfl, h5, r5⟩ := trodAll_cons r4
  obtain ⟨v6, vs6, d6, ds6, p6, q6, rfl, rfl, rfl, h6, r6⟩ := trodAll_cons r5
  obtain ⟨rfl, rfl, rfl⟩ := trodAll_nil r6
  obtain rfl : args = #[v0, v1, v2, v3, v4, v5, v6] := by cases args; simp_all
  obtain ⟨rfl, rfl⟩ := trodVars_none hV
  obtain ⟨a0, rfl, rfl, rfl, w0⟩ := open_int Yba.underlying21 (hval 0 21 v0 rfl rfl) h0
  obtain ⟨a1, rfl, rfl, rfl, w1⟩ := open_int Yba.underlying3 (hval 1 3 v1 rfl rfl) h1
  obtain ⟨a2, rfl, rfl, rfl, w2⟩ := open_string Yba.underlying9 (hval 2 9 v2 rfl rfl) h2
  obtain ⟨a3, rfl, rfl, rfl⟩ := open_bool Yba.underlying4 (hval 3 4 v3 rfl rfl) h3
  obtain ⟨a4, rfl, rfl, rfl, w4⟩ := open_int Yba.underlying3 (hval 4 3 v4 rfl rfl) h4
  obtain ⟨a5, rfl, rfl, rfl, w5⟩ := open_int Yba.underlying21 (hval 5 21 v5 rfl rfl) h5
  obtain ⟨a6, rfl, rfl, rfl, w6⟩ := open_int Yba.underlying5 (hval 6 5 v6 rfl rfl) h6
  clear hA0 hval0
  simp only [List.append_nil] at hW'
  refine (walk a0 a1 a2 a3 a4 a5 a6 w0 w1 w2 w4 w5 w6 W).mono fun e W' ⟨he, hg⟩ => ?_
  subst he
  exact ⟨_, rfl, post_of_same (pa := []) (pv := []) hW' (fun _ _ _ => (trodAll_cons_mk (shut_bool Yba.underlying4 _) trodAll_mk0)) (fun sp _ => (trodAll_cons_mk (shut_int Yba.underlying21 w0) (trodAll_cons_mk (shut_int Yba.underlying3 w1) (trodAll_cons_mk (shut_string Yba.underlying9 w2) (trodAll_cons_mk (shut_bool Yba.underlying4 _) (trodAll_cons_mk (shut_int Yba.underlying3 w4) (trodAll_cons_mk (shut_int Yba.underlying21 w5) (trodAll_cons_mk (shut_int Yba.underlying5 w6) trodAll_mk0)))))))) (fun _ _ => rfl) rfl
    (hg.frame _) hg.2.1 (ok_one (by kernel_rfl) rfl (okWide_bool_mk Yba.underlying4 _))⟩

theorem over : Rows.lawS5348CExactRow.holds Yba.pinned (OpenSpec.ofChange Rows.lawS5348CExactSpec) :=
  OpenClaim.holds_of_wide 5 Yba.f5 rfl rfl rfl rfl rfl rfl rfl ⟨rfl, rfl, rfl, rfl, rfl⟩ rfl rfl rfl rfl rfl (by kernel_rfl) Yba.func5 (by kernel_rfl)
    (of_decide_eq_true (by kernel_rfl)) (by unfold Func.isWrapper; first | (rw [if_pos (by decide +kernel)]; kernel_rfl) | (rw [if_neg (by decide +kernel)]; exact ⟨rfl, rfl⟩))
    (fun os started H enc _ => lifted os started H enc)

/-- ████ THE STATEMENT ████ -/
theorem proved : Rows.LawS5348CExactSaid :=
  over
#print axioms proved
end Go.Proofs.Ybulkdfss.lawS5348CExact
