/-
  THE SHELL OF A PROOF OF 'Rows.FnValueAtWithoutPlacingReportKeepsOrFollowsArrivalSaid' ('example.com/splicewire/splicewire/zzlaws_mixer_b1.FnValueAtWithoutPlacingReportKeepsOrFollowsArrival'), WRITTEN BY PROGRAM (proof-skeleton.mjs) off the guide's own print for that function. Not trusted: Lean checks it.
  The walk is filled in by hand, over contracts of the callees; all else is the guide's template at this function's number and types.
-/
import Derived.Test.Qxb6612553aModsRows
import Derived.Test.Qxb6612553aModsLawUn
import Derived.WalkSpells
import Derived.WalkKit
import Derived.ProofKit
import Derived.OpenShut
import Derived.ShutString
namespace Go.Proofs.Qxb6612553aMods.fnValueAtWithoutPlacingReportKeepsOrFollowsArrival
open Go.ChangeShapes Go.WideShapes Go.ChangeAt Go.RowKit
open Go.ChangeMaps (open_string shut_string)
set_option linter.unusedVariables false      -- a walk need not use every 'w<i>' (that an integer argument fits its kind)

theorem own : ownKnob Trym.prog.godebug = none := by kernel_rfl

/-! ### THE PLAIN LAW: the kept line folded into the timestamp; the two spellings of 'far' -/
theorem want_fold (z : Bool) (ts off arr rate : Int) : Va.wantF z ((ts + off) % 4294967296) 0 arr rate = Va.wantF z ts off arr rate := by
  unfold Va.wantF Va.near
  have e1 : ((ts + off) % 4294967296 + 0) % 4294967296 = (ts + off) % 4294967296 := by omega
  have e2 : ((ts + off) % 4294967296 + 0 - arr) % 4294967296 = (ts + off - arr) % 4294967296 := by omega
  rw [e1, e2]
theorem ends (a10 ts off arr rate : Int) :
    ((a10 != 0) = false ∧ (ts + off) % 4294967296 = Va.wantF (a10 == 0) ts off arr rate) ∨ ((a10 != 0) = true ∧ (¬ rate / 10 < Tk.circ ((ts + off - arr) % 4294967296)) ∧ (ts + off) % 4294967296 = Va.wantF (a10 == 0) ts off arr rate) ∨ ((a10 != 0) = true ∧ rate / 10 < Tk.circ ((ts + off - arr) % 4294967296) ∧ arr = Va.wantF (a10 == 0) ts off arr rate) := by
  by_cases hz : a10 = 0
  · left
    subst hz
    exact ⟨rfl, rfl⟩
  · have hz1 : (a10 == 0) = false := by simpa using hz
    have hz2 : (a10 != 0) = true := by simpa using hz
    rw [hz1, hz2]
    by_cases hn : Tk.circ ((ts + off - arr) % 4294967296) ≤ rate / 10
    · right; left
      exact ⟨rfl, Int.not_lt.2 hn, Va.want_kept (by unfold Va.near; exact decide_eq_true hn)⟩
    · right; right
      exact ⟨rfl, Int.not_le.1 hn, Va.want_arr (by unfold Va.near; simpa using hn)⟩

/-! ### STEP 1: THE WALK: the Go text returns true. 'Grown w w'': the world has at most new blocks (Derived/RowKit3.lean). Part the cases AHEAD of 'go_enter' where a test parts the walk; take each callee by a contract of your own. -/
theorem walk (a0 : Int) (a1 : Int) (a2 : Bool) (a3 : Int) (a4 : Int) (a5 : Int) (a6 : Int) (a7 : Bool) (a8 : Int) (a9 : Int) (a10 : Int) (w0 : (Lit.int .u32 a0).wf = true) (w1 : (Lit.int .u32 a1).wf = true) (w3 : (Lit.int .u32 a3).wf = true) (w4 : (Lit.int .u32 a4).wf = true) (w5 : (Lit.int .i64 a5).wf = true) (w6 : (Lit.int .u32 a6).wf = true) (w8 : (Lit.int .u32 a8).wf = true) (w9 : (Lit.int .u32 a9).wf = true) (w10 : (Lit.int .i64 a10).wf = true) (w : World) :
    Calls Trym.prog 4 #[.int .u32 a0, .int .u32 a1, .bool a2, .int .u32 a3, .int .u32 a4, .int .i64 a5, .int .u32 a6, .bool a7, .int .u32 a8, .int .u32 a9, .int .i64 a10] w fun e w' => e = .returned (.bool true) ∧ Grown w w' := by
  have b1 := bounds_u32 w1
  have b3 := bounds_u32 w3
  have b4 := bounds_u32 w4
  have b5 := bounds_i64 w5
  have b6 := bounds_u32 w6
  have b8 := bounds_u32 w8
  have b9 := bounds_u32 w9
  have b10 := bounds_i64 w10
  have sb := Tm.satD_bd (a5 - a10)
  have tb := Plain.tickF_bd (Tm.satD (a5 - a10)) a6
  have hend := ends a10 a4 a1 ((a9 + Plain.tickF (Tm.satD (a5 - a10)) a6) % 4294967296) a6
  have HA := fun (g : (a7 && (a8 == a3) && !(a6 == 0) && a2) = false) (bl bs bt : Nat) (w : World) l3 l7 k1 k11 k12 k13 k21 o2 o3 o4 o5 =>
    Va.zzValueAt_un bl bs bt a1 a8 a3 a4 a6 a9 a5 a10 a2 a7 w l3 l7 k1 k11 k12 k13 k21 o2 o3 o4 o5 b4.1 b4.2 b6.1 b6.2 b1.1 b1.2 b9.1 b9.2 b5.1 b5.2 b10.1 b10.2 g
  have HB := fun (g : (a7 && (a8 == a3) && !(a6 == 0) && a2) = false) (bl bs bt : Nat) (w : World) l3 l7 k1 k11 k12 k13 k21 o2 o3 o4 o5 =>
    Va.zzValueAt_un bl bs bt 0 a8 a3 ((a4 + a1) % 4294967296) a6 a9 a5 a10 a2 a7 w l3 l7 k1 k11 k12 k13 k21 o2 o3 o4 o5 (by omega) (by omega) b6.1 b6.2 (by decide) (by decide) b9.1 b9.2 b5.1 b5.2 b10.1 b10.2 g
  simp only [want_fold] at HB
  have h14 := fun w => Tk.sat_any a5 a10 b5.1 b5.2 b10.1 b10.2 w
  have h13 := fun w => Tk.zzTicks_any (Tm.satD (a5 - a10)) a6 sb.1 sb.2 b6.1 b6.2 w
  have h15 := fun w => Tk.circ_any ((a4 + a1 - (a9 + Plain.tickF (Tm.satD (a5 - a10)) a6) % 4294967296) % 4294967296) (by omega) (by omega) w
  cases a2 with
  | false =>
    exact walk_c1 a0 a1 a3 a4 a5 a6 a7 a8 a9 a10 _ b1.1 b1.2 b4.1 b4.2 b5.1 b5.2 b6.1 b6.2 b9.1 b9.2 b10.1 b10.2 (HA (by simp)) (HB (by simp)) _ _ _ _ rfl tb.1 tb.2 (by omega) (by omega) h14 h13 h15 hend w
  | true =>
    cases a7 with
    | false =>
      exact walk_c2 a0 a1 a3 a4 a5 a6 a8 a9 a10 _ b1.1 b1.2 b4.1 b4.2 b5.1 b5.2 b6.1 b6.2 b9.1 b9.2 b10.1 b10.2 (HA (by simp)) (HB (by simp)) _ _ _ _ rfl tb.1 tb.2 (by omega) (by omega) h14 h13 h15 hend w
    | true =>
      by_cases hq : a8 = a3
      · by_cases hr : a6 = 0
        · subst hq hr
          exact walk_c4 a0 a1 a8 a4 a5 a9 a10 _ b1.1 b1.2 b4.1 b4.2 b5.1 b5.2 b9.1 b9.2 b10.1 b10.2 (HA (by simp)) (HB (by simp)) _ _ _ _ rfl tb.1 tb.2 (by omega) (by omega) h14 h13 h15 hend w
        · exact walk_placed a0 a1 a3 a4 a5 a6 a8 a9 a10 (by simpa using hq) (by simpa using hr) w
      · have hq' : (a8 == a3) = false := by simpa using hq
        exact walk_c3 a0 a1 a3 a4 a5 a6 a8 a9 a10 _ hq' b1.1 b1.2 b4.1 b4.2 b5.1 b5.2 b6.1 b6.2 b9.1 b9.2 b10.1 b10.2 (HA (by simp [hq'])) (HB (by simp [hq'])) _ _ _ _ rfl tb.1 tb.2 (by omega) (by omega) h14 h13 h15 hend w

/-! ### THE ROW's STEP: WRITTEN OUT: LEAVE IT -/
set_option maxRecDepth 100000 in
theorem lifted (os : Os) (started : os.Started) (H : Type) (enc : TypeId × Value → H) :
    ReturnsInHanded {} Trym.checked os 4 .any (Rows.fnValueAtWithoutPlacingReportKeepsOrFollowsArrivalSpec.pre6 enc Trym.prog Trym.f4 Rows.fnValueAtWithoutPlacingReportKeepsOrFollowsArrivalRow.domain false) (Rows.fnValueAtWithoutPlacingReportKeepsOrFollowsArrivalSpec.post enc Trym.prog Trym.f4 false true false false) := by
  refine returnsInHanded_of_change (C := Trym.checked) own started (by kernel_rfl) Trym.func4
    (ChangeSpec.witness6 (enc := enc) (C := Trym.checked) false ⟨#[], #[.int .u32 0, .int .u32 0, .bool false, .int .u32 0, .int .u32 0, .int .i64 0, .int .u32 0, .bool false, .int .u32 0, .int .u32 0, .int .i64 0], []⟩ 8 (by kernel_rfl) (by kernel_rfl) (by kernel_rfl) (by kernel_rfl)) ?_
  intro W base args ds gs before hval0 hW hcnd _
  have hval : ∀ (j : Nat) t v, Trym.f4.params[j]? = some t → args[j]? = some v → Value.okWide Trym.prog W .any base t v := hval0
  have hW' := hW
  obtain ⟨p, q, hA0, hV, rfl, hfz, hnd⟩ := hW
  have hA : DataW.TrodAll enc Trym.prog W 0 (fun _ => true) true Trym.f4.params.toList args.toList ds p := hA0
  rw [Trym.params4] at hA hval
  obtain ⟨v0, vs0, d0, ds0, p0, q0, hargs, rfl, rfl, h0, r0⟩ := trodAll_cons hA
  obtain ⟨v1, vs1, d1, ds1, p1, q1, rfl, rfl, rfl, h1, r1⟩ := trodAll_cons r0
  obtain ⟨v2, vs2, d2, ds2, p2, q2, rfl, rfl, rfl, h2, r2⟩ := trodAll_cons r1
  obtain ⟨v3, vs3, d3, ds3, p3, q3, rfl, rfl, rfl, h3, r3⟩ := trodAll_cons r2
  obtain ⟨v4, vs4, d4, ds4, p4, q4, rfl, rfl, rfl, h4, r4⟩ := trodAll_cons r3
  obtain ⟨v5, vs5, d5, ds5, p5, q5, rfl, rfl, rfl, h5, r5⟩ := trodAll_cons r4
  obtain ⟨v6, vs6, d6, ds6, p6, q6, rfl, rfl, rfl, h6, r6⟩ := trodAll_cons r5
  obtain ⟨v7, vs7, d7, ds7, p7, q7, rfl, rfl, rfl, h7, r7⟩ := trodAll_cons r6
  obtain ⟨v8, vs8, d8, ds8, p8, q8, rfl, rfl, rfl, h8, r8⟩ := trodAll_cons r7
  obtain ⟨v9, vs9, d9, ds9, p9, q9, rfl, rfl, rfl, h9, r9⟩ := trodAll_cons r8
  obtain ⟨v10, vs10, d10, ds10, p10, q10, rfl, rfl, rfl, h10, r10⟩ := trodAll_cons r9
  obtain ⟨rfl, rfl, rfl⟩ := trodAll_nil r10
  obtain rfl : args = #[v0, v1, v2, v3, v4, v5, v6, v7, v8, v9, v10] := by cases args; simp_all
  obtain ⟨rfl, rfl⟩ := trodVars_none hV
  obtain ⟨a0, rfl, rfl, rfl, w0⟩ := open_int Trym.underlying22 (hval 0 22 v0 rfl rfl) h0
  obtain ⟨a1, rfl, rfl, rfl, w1⟩ := open_int Trym.underlying22 (hval 1 22 v1 rfl rfl) h1
  obtain ⟨a2, rfl, rfl, rfl⟩ := open_bool Trym.underlying4 (hval 2 4 v2 rfl rfl) h2
  obtain ⟨a3, rfl, rfl, rfl, w3⟩ := open_int Trym.underlying22 (hval 3 22 v3 rfl rfl) h3
  obtain ⟨a4, rfl, rfl, rfl, w4⟩ := open_int Trym.underlying22 (hval 4 22 v4 rfl rfl) h4
  obtain ⟨a5, rfl, rfl, rfl, w5⟩ := open_int Trym.underlying2 (hval 5 2 v5 rfl rfl) h5
  obtain ⟨a6, rfl, rfl, rfl, w6⟩ := open_int Trym.underlying22 (hval 6 22 v6 rfl rfl) h6
  obtain ⟨a7, rfl, rfl, rfl⟩ := open_bool Trym.underlying4 (hval 7 4 v7 rfl rfl) h7
  obtain ⟨a8, rfl, rfl, rfl, w8⟩ := open_int Trym.underlying22 (hval 8 22 v8 rfl rfl) h8
  obtain ⟨a9, rfl, rfl, rfl, w9⟩ := open_int Trym.underlying22 (hval 9 22 v9 rfl rfl) h9
  obtain ⟨a10, rfl, rfl, rfl, w10⟩ := open_int Trym.underlying2 (hval 10 2 v10 rfl rfl) h10
  clear hA0 hval0
  simp only [List.append_nil] at hW'
  refine (walk a0 a1 a2 a3 a4 a5 a6 a7 a8 a9 a10 w0 w1 w3 w4 w5 w6 w8 w9 w10 W).mono fun e W' ⟨he, hg⟩ => ?_
  subst he
  exact ⟨_, rfl, post_of_same (pa := []) (pv := []) hW' (fun _ _ _ => (trodAll_cons_mk (shut_bool Trym.underlying4 _) trodAll_mk0)) (fun sp _ => (trodAll_cons_mk (shut_int Trym.underlying22 w0) (trodAll_cons_mk (shut_int Trym.underlying22 w1) (trodAll_cons_mk (shut_bool Trym.underlying4 _) (trodAll_cons_mk (shut_int Trym.underlying22 w3) (trodAll_cons_mk (shut_int Trym.underlying22 w4) (trodAll_cons_mk (shut_int Trym.underlying2 w5) (trodAll_cons_mk (shut_int Trym.underlying22 w6) (trodAll_cons_mk (shut_bool Trym.underlying4 _) (trodAll_cons_mk (shut_int Trym.underlying22 w8) (trodAll_cons_mk (shut_int Trym.underlying22 w9) (trodAll_cons_mk (shut_int Trym.underlying2 w10) trodAll_mk0)))))))))))) (fun _ _ => rfl) rfl
    (hg.frame _) hg.2.1 (ok_one (by kernel_rfl) rfl (okWide_bool_mk Trym.underlying4 _))⟩

theorem over : Rows.fnValueAtWithoutPlacingReportKeepsOrFollowsArrivalRow.holds Trym.pinned (OpenSpec.ofChange Rows.fnValueAtWithoutPlacingReportKeepsOrFollowsArrivalSpec) :=
  OpenClaim.holds_of_wide 4 Trym.f4 rfl rfl rfl rfl rfl rfl rfl ⟨rfl, rfl, rfl, rfl, rfl⟩ rfl rfl rfl rfl rfl (by kernel_rfl) Trym.func4 (by kernel_rfl)
    (of_decide_eq_true (by kernel_rfl)) (by unfold Func.isWrapper; first | (rw [if_pos (by decide +kernel)]; kernel_rfl) | (rw [if_neg (by decide +kernel)]; exact ⟨rfl, rfl⟩))
    (fun os started H enc _ => lifted os started H enc)

/-- ████ THE STATEMENT ████ -/
theorem proved : Rows.FnValueAtWithoutPlacingReportKeepsOrFollowsArrivalSaid :=
  over
#print axioms proved
end Go.Proofs.Qxb6612553aMods.fnValueAtWithoutPlacingReportKeepsOrFollowsArrival
