/-
  THE SHELL OF A PROOF OF 'Rows.FnValueAtWithPlacingReportMovesWithOffsetAloneSaid' ('example.com/splicewire/splicewire/zzlaws_mixer_b1.FnValueAtWithPlacingReportMovesWithOffsetAlone'), WRITTEN BY PROGRAM (proof-skeleton.mjs) off the guide's own print for that function. Not trusted: Lean checks it.
  The walk is filled in by hand, over contracts of the callees; all else is the guide's template at this function's number and types.
-/
import Derived.Test.Qxb6612553aModsRows
import Derived.Test.Qxb6612553aModsTime
import Derived.Test.Qxb6612553aModsPlaced
import Derived.WalkSpells
import Derived.WalkKit
import Derived.ProofKit
import Derived.OpenShut
import Derived.ShutString
namespace Go.Proofs.Qxb6612553aMods.fnValueAtWithPlacingReportMovesWithOffsetAlone
open Go.ChangeShapes Go.WideShapes Go.ChangeAt Go.RowKit
open Go.ChangeMaps (open_string shut_string)
set_option linter.unusedVariables false      -- a walk need not use every 'w<i>' (that an integer argument fits its kind)

theorem own : ownKnob Trym.prog.godebug = none := by kernel_rfl

/-! ### THE LAW's WALK, call by call, each callee by its contract -/
theorem back (R o : Int) (h0 : 0 ≤ R) (h1 : R ≤ 4294967295) : ((R + o) % 4294967296 - o) % 4294967296 = R := by omega

theorem walk_zero (a0 a1 a2 a3 a4 a6 a7 a8 a9 a10 a11 : Int) (w : World) :
    Calls Trym.prog 5 #[.int .u32 a0, .int .u32 a1, .int .i64 a2, .int .u32 a3, .int .u32 a4, .int .u32 0, .int .u64 a6, .int .u32 a7, .int .u64 a8, .int .u32 a9, .int .u32 a10, .int .i64 a11] w fun e w' => e = .returned (.bool true) ∧ Grown w w' := by
  go_enter Trym.func5, Trym.ntmps5
  go_wp2
  go_ret
  exact ⟨rfl, Grown.refl _⟩

set_option maxRecDepth 100000 in
set_option maxHeartbeats 4000000 in
theorem walk_at (a0 a1 a2 a3 a4 a5 a6 a7 a8 a9 a10 a11 : Int) (r0 : 0 < a5) (h1 : 0 ≤ a1) (h1' : a1 ≤ 4294967295) (h2 : -9223372036854775808 ≤ a2) (h2' : a2 ≤ 9223372036854775807) (h3 : 0 ≤ a3) (h3' : a3 ≤ 4294967295) (h4 : 0 ≤ a4) (h4' : a4 ≤ 4294967295) (h5' : a5 ≤ 4294967295)
    (h6 : 0 ≤ a6) (h6' : a6 ≤ 18446744073709551615) (h7 : 0 ≤ a7) (h7' : a7 ≤ 4294967295) (h8 : 0 ≤ a8) (h8' : a8 ≤ 18446744073709551615) (h9 : 0 ≤ a9) (h9' : a9 ≤ 4294967295) (h11 : -9223372036854775808 ≤ a11) (h11' : a11 ≤ 9223372036854775807) (w : World) :
    Calls Trym.prog 5 #[.int .u32 a0, .int .u32 a1, .int .i64 a2, .int .u32 a3, .int .u32 a4, .int .u32 a5, .int .u64 a6, .int .u32 a7, .int .u64 a8, .int .u32 a9, .int .u32 a10, .int .i64 a11] w fun e w' => e = .returned (.bool true) ∧ Grown w w' := by
  have hr : (a5 == 0) = false := by rw [beq_eq_false_iff_ne]; omega
  have hR := Cl.rtpF_bd a8 a9 (Cl.ntpF a6 a7 a1 a5) a5
  have eA := back (Cl.rtpF a8 a9 (Cl.ntpF a6 a7 a1 a5) a5) a3 hR.1 hR.2
  have eB := back (Cl.rtpF a8 a9 (Cl.ntpF a6 a7 a1 a5) a5) a4 hR.1 hR.2
  clear hR
  go_enter Trym.func5, Trym.ntmps5
  go_wp2_with fail
  generalize bits BinOp.xor IntKind.u32 a0 1 = fo
  refine (Va.newLine_any fo a3 true a8 a9 _).mono ?_
  rintro e w1 ⟨rfl, rfl⟩
  go_wp2_with fail
  refine (Tm.zzTime_any a2 h2 h2' _).mono ?_
  rintro e w1 ⟨rfl, c1, c2, c3, rfl⟩
  go_wp2_with fail
  refine (Va.newSrc_any a5 true a0 a6 a7 _).mono ?_
  rintro e w1 ⟨rfl, c4, rfl, s1, s11, s12, s13, s21⟩
  go_wp2_with fail
  refine (Tm.zzTime_any a11 h11 h11' _).mono ?_
  rintro e w1 ⟨rfl, c5, c6, c7, rfl⟩
  go_wp2_with fail
  refine (Va.newTx_any a10 (a11 % 1000000000) (a11 / 1000000000) _).mono ?_
  rintro e w1 ⟨rfl, c8, rfl⟩
  go_wp2_with fail
  refine (Va.zzValueAt_placed w.heap.size (w.heap.size + 1 + 1 + 1 + 1) (w.heap.size + 1 + 1 + 1 + 1 + 1 + 1 + 1 + 1 + 1) fo a3 a8 a9 a0 a6 a7 a1 a5 (a2 % 1000000000) (a2 / 1000000000) _ ?_ ?_ ?_ ?_ ?_ ?_ ?_ ?_ ?_ ?_ h1 h1' h7 h7' r0 h5' h6 h6' h3 h3' h9 h9' h8 h8').mono ?_
  iterate 10 (simp [go_sem, *])
  rintro e w1 ⟨rfl, hg⟩
  have hG : Grown w w1 := by
    refine grown_trans ?_ hg
    repeat (first | with_reducible (refine Grown.drew ?_) | with_reducible (refine Grown.alloc ?_ _ _))
    with_reducible (exact Grown.refl _)
  clear hg s1 s11 s12 s13 s21
  go_wp2_with fail
  refine (Va.newLine_any fo a4 true a8 a9 _).mono ?_
  rintro e w2 ⟨rfl, rfl⟩
  go_wp2_with fail
  refine (Tm.zzTime_any 0 (by decide) (by decide) _).mono ?_
  rintro e w2 ⟨rfl, d1, d2, d3, rfl⟩
  go_wp2_with fail
  refine (Va.newSrc_any a5 true a0 a6 a7 _).mono ?_
  rintro e w2 ⟨rfl, d4, rfl, s1, s11, s12, s13, s21⟩
  go_wp2_with fail
  refine (Tm.zzTime_any 0 (by decide) (by decide) _).mono ?_
  rintro e w2 ⟨rfl, d5, d6, d7, rfl⟩
  go_wp2_with fail
  refine (Va.newTx_any 0 0 0 _).mono ?_
  rintro e w2 ⟨rfl, d8, rfl⟩
  go_wp2_with fail
  refine (Va.zzValueAt_placed w1.heap.size (w1.heap.size + 1 + 1 + 1 + 1) (w1.heap.size + 1 + 1 + 1 + 1 + 1 + 1 + 1 + 1 + 1) fo a4 a8 a9 a0 a6 a7 a1 a5 0 0 _ ?_ ?_ ?_ ?_ ?_ ?_ ?_ ?_ ?_ ?_ h1 h1' h7 h7' r0 h5' h6 h6' h4 h4' h9 h9' h8 h8').mono ?_
  iterate 10 (simp [go_sem, *])
  rintro e w2 ⟨rfl, hg⟩
  have hG2 : Grown w1 w2 := by
    refine grown_trans ?_ hg
    repeat (first | with_reducible (refine Grown.drew ?_) | with_reducible (refine Grown.alloc ?_ _ _))
    with_reducible (exact Grown.refl _)
  clear hg s1 s11 s12 s13 s21
  have hG3 : Grown w w2 := grown_trans hG hG2
  go_wp2
  go_ret
  exact ⟨rfl, hG3⟩

/-! ### STEP 1: THE WALK: the Go text returns true. 'Grown w w'': the world has at most new blocks (Derived/RowKit3.lean). Part the cases AHEAD of 'go_enter' where a test parts the walk; take each callee by a contract of your own. -/
theorem walk (a0 : Int) (a1 : Int) (a2 : Int) (a3 : Int) (a4 : Int) (a5 : Int) (a6 : Int) (a7 : Int) (a8 : Int) (a9 : Int) (a10 : Int) (a11 : Int) (w0 : (Lit.int .u32 a0).wf = true) (w1 : (Lit.int .u32 a1).wf = true) (w2 : (Lit.int .i64 a2).wf = true) (w3 : (Lit.int .u32 a3).wf = true) (w4 : (Lit.int .u32 a4).wf = true) (w5 : (Lit.int .u32 a5).wf = true) (w6 : (Lit.int .u64 a6).wf = true) (w7 : (Lit.int .u32 a7).wf = true) (w8 : (Lit.int .u64 a8).wf = true) (w9 : (Lit.int .u32 a9).wf = true) (w10 : (Lit.int .u32 a10).wf = true) (w11 : (Lit.int .i64 a11).wf = true) (w : World) :
    Calls Trym.prog 5 #[.int .u32 a0, .int .u32 a1, .int .i64 a2, .int .u32 a3, .int .u32 a4, .int .u32 a5, .int .u64 a6, .int .u32 a7, .int .u64 a8, .int .u32 a9, .int .u32 a10, .int .i64 a11] w fun e w' => e = .returned (.bool true) ∧ Grown w w' := by
  have b1 := bounds_u32 w1
  have b2 := bounds_i64 w2
  have b3 := bounds_u32 w3
  have b4 := bounds_u32 w4
  have b5 := bounds_u32 w5
  have b6 := bounds_u64 w6
  have b7 := bounds_u32 w7
  have b8 := bounds_u64 w8
  have b9 := bounds_u32 w9
  have b11 := bounds_i64 w11
  by_cases h : a5 = 0
  · subst h
    exact walk_zero a0 a1 a2 a3 a4 a6 a7 a8 a9 a10 a11 w
  · exact walk_at a0 a1 a2 a3 a4 a5 a6 a7 a8 a9 a10 a11 (by omega) b1.1 b1.2 b2.1 b2.2 b3.1 b3.2 b4.1 b4.2 b5.2 b6.1 b6.2 b7.1 b7.2 b8.1 b8.2 b9.1 b9.2 b11.1 b11.2 w

/-! ### THE ROW's STEP: WRITTEN OUT: LEAVE IT -/
set_option maxRecDepth 100000 in
theorem lifted (os : Os) (started : os.Started) (H : Type) (enc : TypeId × Value → H) :
    ReturnsInHanded {} Trym.checked os 5 .any (Rows.fnValueAtWithPlacingReportMovesWithOffsetAloneSpec.pre6 enc Trym.prog Trym.f5 Rows.fnValueAtWithPlacingReportMovesWithOffsetAloneRow.domain false) (Rows.fnValueAtWithPlacingReportMovesWithOffsetAloneSpec.post enc Trym.prog Trym.f5 false true false false) := by
  refine returnsInHanded_of_change (C := Trym.checked) own started (by kernel_rfl) Trym.func5
    (ChangeSpec.witness6 (enc := enc) (C := Trym.checked) false ⟨#[], #[.int .u32 0, .int .u32 0, .int .i64 0, .int .u32 0, .int .u32 0, .int .u32 0, .int .u64 0, .int .u32 0, .int .u64 0, .int .u32 0, .int .u32 0, .int .i64 0], []⟩ 8 (by kernel_rfl) (by kernel_rfl) (by kernel_rfl) (by kernel_rfl)) ?_
  intro W base args ds gs before hval0 hW hcnd _
  have hval : ∀ (j : Nat) t v, Trym.f5.params[j]? = some t → args[j]? = some v → Value.okWide Trym.prog W .any base t v := hval0
  have hW' := hW
  obtain ⟨p, q, hA0, hV, rfl, hfz, hnd⟩ := hW
  have hA : DataW.TrodAll enc Trym.prog W 0 (fun _ => true) true Trym.f5.params.toList args.toList ds p := hA0
  rw [Trym.params5] at hA hval
  obtain ⟨v0, vs0, d0, ds0, p0, q0, hargs, rfl, rfl, h0, r0⟩ := trodAll_cons hA
  obtain ⟨v1, vs1, d1, ds1, p1, q1, rfl, rfl, rfl, h1, r1⟩ := trodAll_cons r0
  obtain ⟨v2, vs2, d2, ds2, p2, q2, rfl, rfl, rfl, h2, r2⟩ := trodAll_cons r1
  obtain ⟨v3, vs3, d3, ds3, p3, q3, rfl, rfl, rfl, h3, r3⟩ := trodAll_cons r2
  obtain ⟨v4, vs4, d4, ds4, p4, q4, rfl, rfl, rfl, h4, r4⟩ := trodAll_cons r3
  obtain ⟨v5, vs5, d5, ds5, p5, q5, rfl, rfl, rfl, h5, r5⟩ := trodAll_cons r4
  obtain ⟨v6, vs6, d6, ds6, p6, q6, rfl, rfl, rfl, h6, r6⟩ := trodAll_cons r5
  obtain ⟨v7, vs7, d7, ds7, p7, q7, rfl, rfl, rfl, h7, r7⟩ := trodAll_cons r6
  obtain ⟨v8, vs8, d8, ds8, p8, q8, rfl, rfl, rfl, h8, r8⟩ := trodAll_cons r7
  obtain ⟨v9, vs9, d9, ds9, p9, q9, rfl, rfl, rfl, h9, r9⟩ := trodAll_cons r8
  obtain ⟨v10, vs10, d10, ds10, p10, q10, rfl, rfl, rfl, h10, r10⟩ := trodAll_cons r9
  obtain ⟨v11, vs11, d11, ds11, p11, q11, rfl, rfl, rfl, h11, r11⟩ := trodAll_cons r10
  obtain ⟨rfl, rfl, rfl⟩ := trodAll_nil r11
  obtain rfl : args = #[v0, v1, v2, v3, v4, v5, v6, v7, v8, v9, v10, v11] := by cases args; simp_all
  obtain ⟨rfl, rfl⟩ := trodVars_none hV
  obtain ⟨a0, rfl, rfl, rfl, w0⟩ := open_int Trym.underlying22 (hval 0 22 v0 rfl rfl) h0
  obtain ⟨a1, rfl, rfl, rfl, w1⟩ := open_int Trym.underlying22 (hval 1 22 v1 rfl rfl) h1
  obtain ⟨a2, rfl, rfl, rfl, w2⟩ := open_int Trym.underlying2 (hval 2 2 v2 rfl rfl) h2
  obtain ⟨a3, rfl, rfl, rfl, w3⟩ := open_int Trym.underlying22 (hval 3 22 v3 rfl rfl) h3
  obtain ⟨a4, rfl, rfl, rfl, w4⟩ := open_int Trym.underlying22 (hval 4 22 v4 rfl rfl) h4
  obtain ⟨a5, rfl, rfl, rfl, w5⟩ := open_int Trym.underlying22 (hval 5 22 v5 rfl rfl) h5
  obtain ⟨a6, rfl, rfl, rfl, w6⟩ := open_int Trym.underlying25 (hval 6 25 v6 rfl rfl) h6
  obtain ⟨a7, rfl, rfl, rfl, w7⟩ := open_int Trym.underlying22 (hval 7 22 v7 rfl rfl) h7
  obtain ⟨a8, rfl, rfl, rfl, w8⟩ := open_int Trym.underlying25 (hval 8 25 v8 rfl rfl) h8
  obtain ⟨a9, rfl, rfl, rfl, w9⟩ := open_int Trym.underlying22 (hval 9 22 v9 rfl rfl) h9
  obtain ⟨a10, rfl, rfl, rfl, w10⟩ := open_int Trym.underlying22 (hval 10 22 v10 rfl rfl) h10
  obtain ⟨a11, rfl, rfl, rfl, w11⟩ := open_int Trym.underlying2 (hval 11 2 v11 rfl rfl) h11
  clear hA0 hval0
  simp only [List.append_nil] at hW'
  refine (walk a0 a1 a2 a3 a4 a5 a6 a7 a8 a9 a10 a11 w0 w1 w2 w3 w4 w5 w6 w7 w8 w9 w10 w11 W).mono fun e W' ⟨he, hg⟩ => ?_
  subst he
  exact ⟨_, rfl, post_of_same (pa := []) (pv := []) hW' (fun _ _ _ => (trodAll_cons_mk (shut_bool Trym.underlying4 _) trodAll_mk0)) (fun sp _ => (trodAll_cons_mk (shut_int Trym.underlying22 w0) (trodAll_cons_mk (shut_int Trym.underlying22 w1) (trodAll_cons_mk (shut_int Trym.underlying2 w2) (trodAll_cons_mk (shut_int Trym.underlying22 w3) (trodAll_cons_mk (shut_int Trym.underlying22 w4) (trodAll_cons_mk (shut_int Trym.underlying22 w5) (trodAll_cons_mk (shut_int Trym.underlying25 w6) (trodAll_cons_mk (shut_int Trym.underlying22 w7) (trodAll_cons_mk (shut_int Trym.underlying25 w8) (trodAll_cons_mk (shut_int Trym.underlying22 w9) (trodAll_cons_mk (shut_int Trym.underlying22 w10) (trodAll_cons_mk (shut_int Trym.underlying2 w11) trodAll_mk0))))))))))))) (fun _ _ => rfl) rfl
    (hg.frame _) hg.2.1 (ok_one (by kernel_rfl) rfl (okWide_bool_mk Trym.underlying4 _))⟩

theorem over : Rows.fnValueAtWithPlacingReportMovesWithOffsetAloneRow.holds Trym.pinned (OpenSpec.ofChange Rows.fnValueAtWithPlacingReportMovesWithOffsetAloneSpec) :=
  OpenClaim.holds_of_wide 5 Trym.f5 rfl rfl rfl rfl rfl rfl rfl ⟨rfl, rfl, rfl, rfl, rfl⟩ rfl rfl rfl rfl rfl (by kernel_rfl) Trym.func5 (by kernel_rfl)
    (of_decide_eq_true (by kernel_rfl)) (by unfold Func.isWrapper; first | (rw [if_pos (by decide +kernel)]; kernel_rfl) | (rw [if_neg (by decide +kernel)]; exact ⟨rfl, rfl⟩))
    (fun os started H enc _ => lifted os started H enc)

/-- ████ THE STATEMENT ████ -/
theorem proved : Rows.FnValueAtWithPlacingReportMovesWithOffsetAloneSaid :=
  over
#print axioms proved
end Go.Proofs.Qxb6612553aMods.fnValueAtWithPlacingReportMovesWithOffsetAlone
