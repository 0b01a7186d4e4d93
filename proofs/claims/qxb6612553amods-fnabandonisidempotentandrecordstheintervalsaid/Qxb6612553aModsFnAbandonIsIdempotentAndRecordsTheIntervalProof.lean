/-
  THE SHELL OF A PROOF OF 'Rows.FnAbandonIsIdempotentAndRecordsTheIntervalSaid' ('example.com/splicewire/splicewire/zzlaws_mixer_b1.FnAbandonIsIdempotentAndRecordsTheInterval'), WRITTEN BY PROGRAM (proof-skeleton.mjs) off the guide's own print for that function. Not trusted: Lean checks it.
  The walk is filled in by hand, over contracts of the callees; all else is the guide's template at this function's number and types.
-/
import Derived.Test.Qxb6612553aModsRows
import Derived.Test.Qxb6612553aModsTime
import Derived.Test.Qxb6612553aModsSplice
import Derived.Test.Qxb6612553aModsView
import Derived.Laws.StructEq
import Derived.WalkSpells
import Derived.WalkKit
import Derived.ProofKit
import Derived.OpenShut
import Derived.ShutString
namespace Go.Proofs.Qxb6612553aMods.fnAbandonIsIdempotentAndRecordsTheInterval
open Go.ChangeShapes Go.WideShapes Go.ChangeAt Go.RowKit
open Go.ChangeMaps (open_string shut_string)
set_option linter.unusedVariables false      -- a walk need not use every 'w<i>' (that an integer argument fits its kind)

theorem own : ownKnob Trym.prog.godebug = none := by kernel_rfl

/-! ### THE LAW's WALK, call by call, each callee by its contract -/
set_option maxRecDepth 100000 in
set_option maxHeartbeats 4000000 in
theorem walk_at (a0 a1 a2 a3 : Int) (a4 : Bool) (a5 : Int) (a6 : Bool) (a7 a8 : Int) (a9 a10 : Bool) (a11 : Int) (h0 : -9223372036854775808 ≤ a11) (h1 : a11 ≤ 9223372036854775807) (w : World) :
    Calls Trym.prog 6 #[.int .u64 a0, .int .u64 a1, .int .i64 a2, .int .u64 a3, .bool a4, .int .u64 a5, .bool a6, .int .u64 a7, .int .u64 a8, .bool a9, .bool a10, .int .i64 a11] w fun e w' => e = .returned (.bool true) ∧ Grown w w' := by
  go_enter Trym.func6, Trym.ntmps6
  go_wp2_with fail
  refine (Tm.zzTime_any a11 h0 h1 _).mono ?_
  rintro e w1 ⟨rfl, c1, c2, c3, rfl⟩
  generalize a11 % 1000000000 = wa
  generalize a11 / 1000000000 = ex
  clear h0 h1
  go_wp2_with fail
  refine (Sp.new_any a0 a1 a2 a3 a4 a5 a6 a7 a8 a9 a10 wa ex _).mono ?_
  rintro e w1 ⟨rfl, c4, rfl⟩
  go_wp2_with fail
  refine (Sp.zzAbandon_any (w.heap.size + 5) a0 a1 a2 a7 a8 a9 _ (by simp [go_sem]) (by simp [go_sem]) (by simp [go_sem]) (by simp [go_sem]) (by simp [go_sem]) (by simp [go_sem]) (by simp [go_sem]) (by simp [go_sem]) (by simp [go_sem]) (by simp [go_sem])).mono ?_
  rintro e w1 ⟨rfl, rfl⟩
  go_wp2_with fail
  refine (Sp.new_any a0 a1 a2 a3 a4 a5 a6 a7 a8 a9 a10 wa ex _).mono ?_
  rintro e w1 ⟨rfl, c5, rfl⟩
  go_wp2_with fail
  refine (Sp.zzAbandon_any (w.heap.size + 7) a0 a1 a2 a7 a8 a9 _ (by simp [go_sem]) (by simp [go_sem]) (by simp [go_sem]) (by simp [go_sem]) (by simp [go_sem]) (by simp [go_sem]) (by simp [go_sem]) (by simp [go_sem]) (by simp [go_sem]) (by simp [go_sem])).mono ?_
  rintro e w1 ⟨rfl, rfl⟩
  go_wp2_with fail
  refine (Sp.zzAbandon_any (w.heap.size + 7) a0 a1 5 a0 a1 true _ (by simp [go_sem]) (by simp [go_sem]) (by simp [go_sem]) (by simp [go_sem]) (by simp [go_sem]) (by simp [go_sem]) (by simp [go_sem]) (by simp [go_sem]) (by simp [go_sem]) (by simp [go_sem])).mono ?_
  rintro e w1 ⟨rfl, rfl⟩
  go_wp2_with fail
  refine (Sp.view_any (w.heap.size + 5) a0 a1 5 a3 a4 a5 a6 a0 a1 true a10 wa ex _ (by simp [go_sem]) (by simp [go_sem]) (by simp [go_sem]) (by simp [go_sem]) (by simp [go_sem]) (by simp [go_sem]) (by simp [go_sem]) (by simp [go_sem]) (by simp [go_sem]) (by simp [go_sem]) (by simp [go_sem]) (by simp [go_sem]) (by simp [go_sem]) (by simp [go_sem])).mono ?_
  rintro e w1 ⟨rfl, c6, rfl⟩
  go_wp2_with fail
  refine (Sp.view_any (w.heap.size + 7) a0 a1 5 a3 a4 a5 a6 a0 a1 true a10 wa ex _ (by simp [go_sem]) (by simp [go_sem]) (by simp [go_sem]) (by simp [go_sem]) (by simp [go_sem]) (by simp [go_sem]) (by simp [go_sem]) (by simp [go_sem]) (by simp [go_sem]) (by simp [go_sem]) (by simp [go_sem]) (by simp [go_sem]) (by simp [go_sem]) (by simp [go_sem])).mono ?_
  rintro e w1 ⟨rfl, c7, rfl⟩
  have hp := Sp.eql_loc
  go_wp2
  go_ret
  refine ⟨rfl, ?_⟩
  clear hp
  repeat (first | with_reducible (refine Grown.drew ?_) | with_reducible (refine Grown.alloc ?_ _ _))
  with_reducible (exact Grown.refl _)

/-! ### STEP 1: THE WALK: the Go text returns true. 'Grown w w'': the world has at most new blocks (Derived/RowKit3.lean). Part the cases AHEAD of 'go_enter' where a test parts the walk; take each callee by a contract of your own. -/
theorem walk (a0 : Int) (a1 : Int) (a2 : Int) (a3 : Int) (a4 : Bool) (a5 : Int) (a6 : Bool) (a7 : Int) (a8 : Int) (a9 : Bool) (a10 : Bool) (a11 : Int) (w0 : (Lit.int .u64 a0).wf = true) (w1 : (Lit.int .u64 a1).wf = true) (w2 : (Lit.int .i64 a2).wf = true) (w3 : (Lit.int .u64 a3).wf = true) (w5 : (Lit.int .u64 a5).wf = true) (w7 : (Lit.int .u64 a7).wf = true) (w8 : (Lit.int .u64 a8).wf = true) (w11 : (Lit.int .i64 a11).wf = true) (w : World) :
    Calls Trym.prog 6 #[.int .u64 a0, .int .u64 a1, .int .i64 a2, .int .u64 a3, .bool a4, .int .u64 a5, .bool a6, .int .u64 a7, .int .u64 a8, .bool a9, .bool a10, .int .i64 a11] w fun e w' => e = .returned (.bool true) ∧ Grown w w' := by
  have hb := bounds_i64 w11
  exact walk_at a0 a1 a2 a3 a4 a5 a6 a7 a8 a9 a10 a11 hb.1 hb.2 w

/-! ### THE ROW's STEP: WRITTEN OUT: LEAVE IT -/
set_option maxRecDepth 100000 in
theorem lifted (os : Os) (started : os.Started) (H : Type) (enc : TypeId × Value → H) :
    ReturnsInHanded {} Trym.checked os 6 .any (Rows.fnAbandonIsIdempotentAndRecordsTheIntervalSpec.pre6 enc Trym.prog Trym.f6 Rows.fnAbandonIsIdempotentAndRecordsTheIntervalRow.domain false) (Rows.fnAbandonIsIdempotentAndRecordsTheIntervalSpec.post enc Trym.prog Trym.f6 false true false false) := by
  refine returnsInHanded_of_change (C := Trym.checked) own started (by kernel_rfl) Trym.func6
    (ChangeSpec.witness6 (enc := enc) (C := Trym.checked) false ⟨#[], #[.int .u64 0, .int .u64 0, .int .i64 0, .int .u64 0, .bool false, .int .u64 0, .bool false, .int .u64 0, .int .u64 0, .bool false, .bool false, .int .i64 0], []⟩ 8 (by kernel_rfl) (by kernel_rfl) (by kernel_rfl) (by kernel_rfl)) ?_
  intro W base args ds gs before hval0 hW hcnd _
  have hval : ∀ (j : Nat) t v, Trym.f6.params[j]? = some t → args[j]? = some v → Value.okWide Trym.prog W .any base t v := hval0
  have hW' := hW
  obtain ⟨p, q, hA0, hV, rfl, hfz, hnd⟩ := hW
  have hA : DataW.TrodAll enc Trym.prog W 0 (fun _ => true) true Trym.f6.params.toList args.toList ds p := hA0
  rw [Trym.params6] at hA hval
  obtain ⟨v0, vs0, d0, ds0, p0, q0, hargs, rfl, rfl, h0, r0⟩ := trodAll_cons hA
  obtain ⟨v1, vs1, d1, ds1, p1, q1, rfl, rfl, rfl, h1, r1⟩ := trodAll_cons r0
  obtain ⟨v2, vs2, d2, ds2, p2, q2, rfl, rfl, rfl, h2, r2⟩ := trodAll_cons r1
  obtain ⟨v3, vs3, d3, ds3, p3, q3, rfl, rfl, rfl, h3, r3⟩ := trodAll_cons r2
  obtain ⟨v4, vs4, d4, ds4, p4, q4, rfl, rfl, rfl, h4, r4⟩ := trodAll_cons r3
  obtain ⟨v5, vs5, d5, ds5, p5, q5, rfl, rfl, rfl, h5, r5⟩ := trodAll_cons r4
  obtain ⟨v6, vs6, d6, ds6, p6, q6, rfl, rfl, rfl, h6, r6⟩ := trodAll_cons r5
  obtain ⟨v7, vs7, d7, ds7, p7, q7, rfl, rfl, rfl, h7, r7⟩ := trodAll_cons r6
  obtain ⟨v8, vs8, d8, ds8, p8, q8, rfl, rfl, rfl, h8, r8⟩ := trodAll_cons r7
  obtain ⟨v9, vs9, d9, ds9, p9, q9, rfl, rfl, rfl, h9, r9⟩ := trodAll_cons r8
  obtain ⟨v10, vs10, d10, ds10, p10, q10, rfl, rfl, rfl, h10, r10⟩ := trodAll_cons r9
  obtain ⟨v11, vs11, d11, ds11, p11, q11, rfl, rfl, rfl, h11, r11⟩ := trodAll_cons r10
  obtain ⟨rfl, rfl, rfl⟩ := trodAll_nil r11
  obtain rfl : args = #[v0, v1, v2, v3, v4, v5, v6, v7, v8, v9, v10, v11] := by cases args; simp_all
  obtain ⟨rfl, rfl⟩ := trodVars_none hV
  obtain ⟨a0, rfl, rfl, rfl, w0⟩ := open_int Trym.underlying25 (hval 0 25 v0 rfl rfl) h0
  obtain ⟨a1, rfl, rfl, rfl, w1⟩ := open_int Trym.underlying25 (hval 1 25 v1 rfl rfl) h1
  obtain ⟨a2, rfl, rfl, rfl, w2⟩ := open_int Trym.underlying3 (hval 2 3 v2 rfl rfl) h2
  obtain ⟨a3, rfl, rfl, rfl, w3⟩ := open_int Trym.underlying25 (hval 3 25 v3 rfl rfl) h3
  obtain ⟨a4, rfl, rfl, rfl⟩ := open_bool Trym.underlying4 (hval 4 4 v4 rfl rfl) h4
  obtain ⟨a5, rfl, rfl, rfl, w5⟩ := open_int Trym.underlying25 (hval 5 25 v5 rfl rfl) h5
  obtain ⟨a6, rfl, rfl, rfl⟩ := open_bool Trym.underlying4 (hval 6 4 v6 rfl rfl) h6
  obtain ⟨a7, rfl, rfl, rfl, w7⟩ := open_int Trym.underlying25 (hval 7 25 v7 rfl rfl) h7
  obtain ⟨a8, rfl, rfl, rfl, w8⟩ := open_int Trym.underlying25 (hval 8 25 v8 rfl rfl) h8
  obtain ⟨a9, rfl, rfl, rfl⟩ := open_bool Trym.underlying4 (hval 9 4 v9 rfl rfl) h9
  obtain ⟨a10, rfl, rfl, rfl⟩ := open_bool Trym.underlying4 (hval 10 4 v10 rfl rfl) h10
  obtain ⟨a11, rfl, rfl, rfl, w11⟩ := open_int Trym.underlying2 (hval 11 2 v11 rfl rfl) h11
  clear hA0 hval0
  simp only [List.append_nil] at hW'
  refine (walk a0 a1 a2 a3 a4 a5 a6 a7 a8 a9 a10 a11 w0 w1 w2 w3 w5 w7 w8 w11 W).mono fun e W' ⟨he, hg⟩ => ?_
  subst he
  exact ⟨_, rfl, post_of_same (pa := []) (pv := []) hW' (fun _ _ _ => (trodAll_cons_mk (shut_bool Trym.underlying4 _) trodAll_mk0)) (fun sp _ => (trodAll_cons_mk (shut_int Trym.underlying25 w0) (trodAll_cons_mk (shut_int Trym.underlying25 w1) (trodAll_cons_mk (shut_int Trym.underlying3 w2) (trodAll_cons_mk (shut_int Trym.underlying25 w3) (trodAll_cons_mk (shut_bool Trym.underlying4 _) (trodAll_cons_mk (shut_int Trym.underlying25 w5) (trodAll_cons_mk (shut_bool Trym.underlying4 _) (trodAll_cons_mk (shut_int Trym.underlying25 w7) (trodAll_cons_mk (shut_int Trym.underlying25 w8) (trodAll_cons_mk (shut_bool Trym.underlying4 _) (trodAll_cons_mk (shut_bool Trym.underlying4 _) (trodAll_cons_mk (shut_int Trym.underlying2 w11) trodAll_mk0))))))))))))) (fun _ _ => rfl) rfl
    (hg.frame _) hg.2.1 (ok_one (by kernel_rfl) rfl (okWide_bool_mk Trym.underlying4 _))⟩

theorem over : Rows.fnAbandonIsIdempotentAndRecordsTheIntervalRow.holds Trym.pinned (OpenSpec.ofChange Rows.fnAbandonIsIdempotentAndRecordsTheIntervalSpec) :=
  OpenClaim.holds_of_wide 6 Trym.f6 rfl rfl rfl rfl rfl rfl rfl ⟨rfl, rfl, rfl, rfl, rfl⟩ rfl rfl rfl rfl rfl (by kernel_rfl) Trym.func6 (by kernel_rfl)
    (of_decide_eq_true (by kernel_rfl)) (by unfold Func.isWrapper; first | (rw [if_pos (by decide +kernel)]; kernel_rfl) | (rw [if_neg (by decide +kernel)]; exact ⟨rfl, rfl⟩))
    (fun os started H enc _ => lifted os started H enc)

/-- ████ THE STATEMENT ████ -/
theorem proved : Rows.FnAbandonIsIdempotentAndRecordsTheIntervalSaid :=
  over
#print axioms proved
end Go.Proofs.Qxb6612553aMods.fnAbandonIsIdempotentAndRecordsTheInterval
