/-
  THE SHELL OF A PROOF OF 'Rows.FnSameSourceIsAnEquivalenceSaid' ('example.com/splicewire/splicewire/zzlaws_mixer_b1.FnSameSourceIsAnEquivalence'), WRITTEN BY PROGRAM (proof-skeleton.mjs) off the guide's own print for that function. Not trusted: Lean checks it.
  The walk and its contracts are filled in by hand; all else is the guide's template at this function's number and types.
-/
import Derived.Test.Qxb6612553aModsRows
import Derived.WalkKit
import Derived.ProofKit
import Derived.OpenShut
import Derived.ShutString
namespace Go.Proofs.Qxb6612553aMods.fnSameSourceIsAnEquivalence
open Go.ChangeShapes Go.WideShapes Go.ChangeAt Go.RowKit
open Go.ChangeMaps (open_string shut_string)
set_option linter.unusedVariables false      -- a walk need not use every 'w<i>' (that an integer argument fits its kind)

theorem own : ownKnob Trym.prog.godebug = none := by kernel_rfl

/-! ### THE CONTRACTS -/
/-- Two origins are of one source (a plain Lean function). -/
def sm (f1 s1 f2 s2 : Int) : Bool := f1 == f2 && s1 == s2
theorem sm_refl (f s : Int) : sm f s f s = true := by simp [sm]
theorem sm_symm (f1 s1 f2 s2 : Int) : sm f1 s1 f2 s2 = sm f2 s2 f1 s1 := by
  unfold sm
  rw [Bool.eq_iff_iff]
  simp only [Bool.and_eq_true, beq_iff_eq]
  exact ⟨fun h => ⟨h.1.symm, h.2.symm⟩, fun h => ⟨h.1.symm, h.2.symm⟩⟩
theorem sm_trans (f1 s1 f2 s2 f3 s3 : Int) (h1 : sm f1 s1 f2 s2 = true) (h2 : sm f2 s2 f3 s3 = true) : sm f1 s1 f3 s3 = true := by
  unfold sm at *
  simp only [Bool.and_eq_true, beq_iff_eq] at *
  exact ⟨h1.1.trans h2.1, h1.2.trans h2.2⟩

/-- '(origin).sameSource'. -/
theorem same_any (f1 s1 q1 f2 s2 q2 : Int) (w : World) :
    Calls Trym.prog 19 #[.agg #[.int .i64 f1, .int .u32 s1, .int .u32 q1], .agg #[.int .i64 f2, .int .u32 s2, .int .u32 q2]] w fun e w' =>
      e = .returned (.bool (sm f1 s1 f2 s2)) ∧ ∃ c1 c2 : Array Value, w' = (w.alloc (.cells c1 51)).alloc (.cells c2 51) := by
  by_cases h1 : f1 = f2
  · subst h1
    go_enter Trym.func19, Trym.ntmps19
    go_wp2
    go_ret
    exact ⟨by simp [sm], _, _, rfl⟩
  · have h1' : (f1 == f2) = false := by simp [h1]
    go_enter Trym.func19, Trym.ntmps19
    go_wp2
    go_ret
    exact ⟨by simp [sm, h1], _, _, rfl⟩

/-- 'ZZsameSource'. -/
theorem zzSame_any (f1 s1 q1 f2 s2 q2 : Int) (w : World) :
    Calls Trym.prog 7 #[.int .i64 f1, .int .u32 s1, .int .u32 q1, .int .i64 f2, .int .u32 s2, .int .u32 q2] w fun e w' =>
      e = .returned (.bool (sm f1 s1 f2 s2)) ∧ ∃ c1 c2 : Array Value, w' = (w.alloc (.cells c1 51)).alloc (.cells c2 51) := by
  go_enter Trym.func7, Trym.ntmps7
  go_wp2_with (go_at_call 19; refine (same_any f1 s1 q1 f2 s2 q2 _).mono ?_; rintro e w' ⟨rfl, c1, c2, rfl⟩)
  go_ret
  exact ⟨rfl, _, _, rfl⟩

set_option maxHeartbeats 4000000 in
/-- The law's walk, the four tests' outcomes given. -/
theorem walk_at (a0 a1 a2 a3 a4 a5 a6 a7 a8 : Int) (ab bc ac : Bool) (w : World)
    (hA : sm a0 a1 a0 a1 = true) (hB : sm a3 a4 a3 a4 = true) (hC : sm a6 a7 a6 a7 = true)
    (hab : sm a0 a1 a3 a4 = ab) (hba : sm a3 a4 a0 a1 = ab) (hbc : sm a3 a4 a6 a7 = bc) (hac : sm a0 a1 a6 a7 = ac) (ht : (ab && bc && !ac) = false) :
    Calls Trym.prog 3 #[.int .i64 a0, .int .u32 a1, .int .u32 a2, .int .i64 a3, .int .u32 a4, .int .u32 a5, .int .i64 a6, .int .u32 a7, .int .u32 a8] w fun e w' => e = .returned (.bool true) ∧ Grown w w' := by
  cases ab <;> cases bc <;> cases ac <;> simp only [Bool.and_true, Bool.and_false, Bool.not_false, Bool.not_true, Bool.true_eq_false] at ht
  all_goals
    go_enter Trym.func3, Trym.ntmps3
    go_wp2_with (go_at_call 7; refine (zzSame_any _ _ _ _ _ _ _).mono ?_; rintro e w' ⟨rfl, c1, c2, rfl⟩)
    go_ret
    exact ⟨rfl, by repeat (first | apply Grown.alloc | exact Grown.refl _)⟩

/-! ### STEP 1: THE WALK: the Go text returns true. 'Grown w w'': the world has at most new blocks (Derived/RowKit3.lean). Part the cases AHEAD of 'go_enter' where a test parts the walk; take each callee by a contract of your own. -/
theorem walk (a0 : Int) (a1 : Int) (a2 : Int) (a3 : Int) (a4 : Int) (a5 : Int) (a6 : Int) (a7 : Int) (a8 : Int) (w0 : (Lit.int .i64 a0).wf = true) (w1 : (Lit.int .u32 a1).wf = true) (w2 : (Lit.int .u32 a2).wf = true) (w3 : (Lit.int .i64 a3).wf = true) (w4 : (Lit.int .u32 a4).wf = true) (w5 : (Lit.int .u32 a5).wf = true) (w6 : (Lit.int .i64 a6).wf = true) (w7 : (Lit.int .u32 a7).wf = true) (w8 : (Lit.int .u32 a8).wf = true) (w : World) :
    Calls Trym.prog 3 #[.int .i64 a0, .int .u32 a1, .int .u32 a2, .int .i64 a3, .int .u32 a4, .int .u32 a5, .int .i64 a6, .int .u32 a7, .int .u32 a8] w fun e w' => e = .returned (.bool true) ∧ Grown w w' := by
  have h1 := sm_refl a0 a1
  have h2 := sm_refl a3 a4
  have h3 := sm_refl a6 a7
  refine walk_at a0 a1 a2 a3 a4 a5 a6 a7 a8 _ _ _ w h1 h2 h3 rfl (sm_symm _ _ _ _) rfl rfl ?_
  cases hab : sm a0 a1 a3 a4 with
  | false => simp
  | true =>
    cases hbc : sm a3 a4 a6 a7 with
    | false => simp
    | true => simp [sm_trans a0 a1 a3 a4 a6 a7 hab hbc]

/-! ### THE ROW's STEP: WRITTEN OUT: LEAVE IT -/
set_option maxRecDepth 100000 in
theorem lifted (os : Os) (started : os.Started) (H : Type) (enc : TypeId × Value → H) :
    ReturnsInHanded {} Trym.checked os 3 .any (Rows.fnSameSourceIsAnEquivalenceSpec.pre6 enc Trym.prog Trym.f3 Rows.fnSameSourceIsAnEquivalenceRow.domain false) (Rows.fnSameSourceIsAnEquivalenceSpec.post enc Trym.prog Trym.f3 false true false false) := by
  refine returnsInHanded_of_change (C := Trym.checked) own started (by kernel_rfl) Trym.func3
    (ChangeSpec.witness6 (enc := enc) (C := Trym.checked) false ⟨#[], #[.int .i64 0, .int .u32 0, .int .u32 0, .int .i64 0, .int .u32 0, .int .u32 0, .int .i64 0, .int .u32 0, .int .u32 0], []⟩ 8 (by kernel_rfl) (by kernel_rfl) (by kernel_rfl) (by kernel_rfl)) ?_
  intro W base args ds gs before hval0 hW hcnd _
  have hval : ∀ (j : Nat) t v, Trym.f3.params[j]? = some t → args[j]? = some v → Value.okWide Trym.prog W .any base t v := hval0
  have hW' := hW
  obtain ⟨p, q, hA0, hV, rfl, hfz, hnd⟩ := hW
  have hA : DataW.TrodAll enc Trym.prog W 0 (fun _ => true) true Trym.f3.params.toList args.toList ds p := hA0
  rw [Trym.params3] at hA hval
  obtain ⟨v0, vs0, d0, ds0, p0, q0, hargs, rfl, rfl, h0, r0⟩ := trodAll_cons hA
  obtain ⟨v1, vs1, d1, ds1, p1, q1, rfl, rfl, rfl, h1, r1⟩ := trodAll_cons r0
  obtain ⟨v2, vs2, d2, ds2, p2, q2, rfl, rfl, rfl, h2, r2⟩ := trodAll_cons r1
  obtain ⟨v3, vs3, d3, ds3, p3, q3, rfl, rfl, rfl, h3, r3⟩ := trodAll_cons r2
  obtain ⟨v4, vs4, d4, ds4, p4, q4, rfl, rfl, rfl, h4, r4⟩ := trodAll_cons r3
  obtain ⟨v5, vs5, d5, ds5, p5, q5, rfl, rfl, rfl, h5, r5⟩ := trodAll_cons r4
  obtain ⟨v6, vs6, d6, ds6, p6, q6, rfl, rfl, rfl, h6, r6⟩ := trodAll_cons r5
  obtain ⟨v7, vs7, d7, ds7, p7, q7, rfl, rfl, rfl, h7, r7⟩ := trodAll_cons r6
  obtain ⟨v8, vs8, d8, ds8, p8, q8, rfl, rfl, rfl, h8, r8⟩ := trodAll_cons r7
  obtain ⟨rfl, rfl, rfl⟩ := trodAll_nil r8
  obtain rfl : args = #[v0, v1, v2, v3, v4, v5, v6, v7, v8] := by cases args; simp_all
  obtain ⟨rfl, rfl⟩ := trodVars_none hV
  obtain ⟨a0, rfl, rfl, rfl, w0⟩ := open_int Trym.underlying3 (hval 0 3 v0 rfl rfl) h0
  obtain ⟨a1, rfl, rfl, rfl, w1⟩ := open_int Trym.underlying22 (hval 1 22 v1 rfl rfl) h1
  obtain ⟨a2, rfl, rfl, rfl, w2⟩ := open_int Trym.underlying22 (hval 2 22 v2 rfl rfl) h2
  obtain ⟨a3, rfl, rfl, rfl, w3⟩ := open_int Trym.underlying3 (hval 3 3 v3 rfl rfl) h3
  obtain ⟨a4, rfl, rfl, rfl, w4⟩ := open_int Trym.underlying22 (hval 4 22 v4 rfl rfl) h4
  obtain ⟨a5, rfl, rfl, rfl, w5⟩ := open_int Trym.underlying22 (hval 5 22 v5 rfl rfl) h5
  obtain ⟨a6, rfl, rfl, rfl, w6⟩ := open_int Trym.underlying3 (hval 6 3 v6 rfl rfl) h6
  obtain ⟨a7, rfl, rfl, rfl, w7⟩ := open_int Trym.underlying22 (hval 7 22 v7 rfl rfl) h7
  obtain ⟨a8, rfl, rfl, rfl, w8⟩ := open_int Trym.underlying22 (hval 8 22 v8 rfl rfl) h8
  clear hA0 hval0
  simp only [List.append_nil] at hW'
  refine (walk a0 a1 a2 a3 a4 a5 a6 a7 a8 w0 w1 w2 w3 w4 w5 w6 w7 w8 W).mono fun e W' ⟨he, hg⟩ => ?_
  subst he
  exact ⟨_, rfl, post_of_same (pa := []) (pv := []) hW' (fun _ _ _ => (trodAll_cons_mk (shut_bool Trym.underlying4 _) trodAll_mk0)) (fun sp _ => (trodAll_cons_mk (shut_int Trym.underlying3 w0) (trodAll_cons_mk (shut_int Trym.underlying22 w1) (trodAll_cons_mk (shut_int Trym.underlying22 w2) (trodAll_cons_mk (shut_int Trym.underlying3 w3) (trodAll_cons_mk (shut_int Trym.underlying22 w4) (trodAll_cons_mk (shut_int Trym.underlying22 w5) (trodAll_cons_mk (shut_int Trym.underlying3 w6) (trodAll_cons_mk (shut_int Trym.underlying22 w7) (trodAll_cons_mk (shut_int Trym.underlying22 w8) trodAll_mk0)))))))))) (fun _ _ => rfl) rfl
    (hg.frame _) hg.2.1 (ok_one (by kernel_rfl) rfl (okWide_bool_mk Trym.underlying4 _))⟩

theorem over : Rows.fnSameSourceIsAnEquivalenceRow.holds Trym.pinned (OpenSpec.ofChange Rows.fnSameSourceIsAnEquivalenceSpec) :=
  OpenClaim.holds_of_wide 3 Trym.f3 rfl rfl rfl rfl rfl rfl rfl ⟨rfl, rfl, rfl, rfl, rfl⟩ rfl rfl rfl rfl rfl (by kernel_rfl) Trym.func3 (by kernel_rfl)
    (of_decide_eq_true (by kernel_rfl)) (by unfold Func.isWrapper; first | (rw [if_pos (by decide +kernel)]; kernel_rfl) | (rw [if_neg (by decide +kernel)]; exact ⟨rfl, rfl⟩))
    (fun os started H enc _ => lifted os started H enc)

/-- ████ THE STATEMENT ████ -/
theorem proved : Rows.FnSameSourceIsAnEquivalenceSaid :=
  over
#print axioms proved
end Go.Proofs.Qxb6612553aMods.fnSameSourceIsAnEquivalence
