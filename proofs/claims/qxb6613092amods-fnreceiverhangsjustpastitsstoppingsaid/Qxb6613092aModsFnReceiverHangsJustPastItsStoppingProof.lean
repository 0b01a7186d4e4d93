/-
  THE PROOF OF 'Rows.FnReceiverHangsJustPastItsStoppingSaid': the guide's template (howto, 4) at this function's number and types, its struct parameters opened by Qxb6613092aModsOpen's laws; the walk over contracts of the callees.
-/
import Derived.Test.Qxb6613092aModsRows
import Derived.Test.Qxb6613092aModsOpen
import Derived.Test.Qxb6613092aModsMember
import Derived.WalkKit
import Derived.ProofKit
import Derived.OpenShut
import Derived.ShutString
namespace Go.Proofs.Qxb6613092aMods.fnReceiverHangsJustPastItsStopping
open Go.ChangeShapes Go.WideShapes Go.ChangeAt Go.RowKit
open Go.ChangeMaps (open_string shut_string)
set_option linter.unusedVariables false

theorem own : ownKnob Trym.prog.godebug = none := by kernel_rfl

set_option maxRecDepth 100000 in
set_option maxHeartbeats 4000000 in
/-- The law's walk, call by call. -/
theorem walk_at (a0x0 : Int) (a0x1 : ByteArray) (a0x2 : ByteArray) (a0x3 : Bool) (a0x4 : Int) (a0x5 : Bool) (a0x6 : Bool) (a0x7 : Bool) (a0x8 : Bool) (a0x9 : Int) (a0x10 : Int) (a0x11 : Int) (a0x12 : Int) (a0x13 : Int) (a0x14 : ByteArray) (a1 : Int) (h1 : a0x1.size ≤ maxLen) (h2 : a0x2.size ≤ maxLen) (h14 : a0x14.size ≤ maxLen) (b0 : -9223372036854775808 ≤ a0x11) (b1 : a0x11 ≤ 9223372036854775807) (t0 : -9223372036854775808 ≤ a1) (w : World) :
    Calls Trym.prog 5 #[.agg #[.int .i64 a0x0, .string a0x1, .string a0x2, .bool a0x3, .int .u64 a0x4, .bool a0x5, .bool a0x6, .bool a0x7, .bool a0x8, .int .i64 a0x9, .int .i64 a0x10, .int .i64 a0x11, .int .i64 a0x12, .int .i64 a0x13, .string a0x14], .int .i64 a1] w fun e w' => e = .returned (.bool true) ∧ Grown w w' := by
  go_enter Trym.func5, Trym.ntmps5
  go_wp2_with fail
  refine (Me.bytes1_any a0x0 a0x1 a0x2 a0x3 a0x4 a0x5 a0x6 a0x7 a0x8 a0x9 a0x10 a0x11 a0x12 a0x13 a0x14 a1 h1 h2 h14 _).mono ?_
  rintro e w' ⟨b, rfl, c1, rfl⟩
  cases b
  · go_wp2
    go_ret
    refine ⟨rfl, ?_⟩
    repeat (first | with_reducible (refine Grown.drew ?_) | with_reducible (refine Grown.alloc ?_ _ _))
    with_reducible (exact Grown.refl _)
  go_wp2_with fail
  refine (Me.memberBytes_any 0 a0x0 a0x1 a0x2 a0x3 a0x4 a0x5 a0x6 a0x7 a0x8 a0x9 a0x10 a0x11 a0x12 a0x13 a0x14 (by decide) (by decide) _).mono ?_
  rintro e w' ⟨n, rfl, n0, n1, c2, rfl⟩
  by_cases hn : 1048576 < n
  · go_wp2
    go_ret
    refine ⟨rfl, ?_⟩
    repeat (first | with_reducible (refine Grown.drew ?_) | with_reducible (refine Grown.alloc ?_ _ _))
    with_reducible (exact Grown.refl _)
  clear h1 h2 h14
  go_wp2_with fail
  refine (Me.zzHangs_any a0x0 a0x1 a0x2 a0x3 a0x4 a0x5 a0x6 a0x7 a0x8 a0x9 a0x10 a0x11 a0x12 a0x13 a0x14 a0x11 _).mono ?_
  rintro e w' ⟨rfl, c3, c4, c5, c6, rfl⟩
  have e1 : decide (a0x11 < a0x11) = false := by simp
  rw [e1]
  clear e1
  by_cases hm : a0x11 = -9223372036854775808
  · have hm' : (a0x11 != -9223372036854775808) = false := by simpa using hm
    have hlt : ¬ a1 < a0x11 := by omega
    have e2 : decide (a1 < a0x11) = false := by simpa using hlt
    have HM : Hid _ := hm
    clear hm b0 b1
    go_wp2_with fail
    refine (Me.zzHangs_any a0x0 a0x1 a0x2 a0x3 a0x4 a0x5 a0x6 a0x7 a0x8 a0x9 a0x10 a0x11 a0x12 a0x13 a0x14 a1 _).mono ?_
    rintro e w' ⟨rfl, c7, c8, c9, c10, rfl⟩
    rw [e2]
    go_wp2
    go_ret
    refine ⟨rfl, ?_⟩
    repeat (first | with_reducible (refine Grown.drew ?_) | with_reducible (refine Grown.alloc ?_ _ _))
    with_reducible (exact Grown.refl _)
  · have hm' : (a0x11 != -9223372036854775808) = true := by simpa using hm
    have hb : -9223372036854775808 < a0x11 := by omega
    clear hm b0
    go_wp2_with fail
    refine (Me.zzHangs_any a0x0 a0x1 a0x2 a0x3 a0x4 a0x5 a0x6 a0x7 a0x8 a0x9 a0x10 a0x11 a0x12 a0x13 a0x14 (a0x11 - 1) _).mono ?_
    rintro e w' ⟨rfl, c7, c8, c9, c10, rfl⟩
    have e3 : decide (a0x11 - 1 < a0x11) = true := by simp; omega
    rw [e3]
    clear e3
    go_wp2_with fail
    refine (Me.zzHangs_any a0x0 a0x1 a0x2 a0x3 a0x4 a0x5 a0x6 a0x7 a0x8 a0x9 a0x10 a0x11 a0x12 a0x13 a0x14 a1 _).mono ?_
    rintro e w' ⟨rfl, d7, d8, d9, d10, rfl⟩
    by_cases hlt : a1 < a0x11
    · have e2 : decide (a1 < a0x11) = true := by simpa using hlt
      rw [e2]
      go_wp2
      go_ret
      refine ⟨rfl, ?_⟩
      repeat (first | with_reducible (refine Grown.drew ?_) | with_reducible (refine Grown.alloc ?_ _ _))
      with_reducible (exact Grown.refl _)
    · have e2 : decide (a1 < a0x11) = false := by simpa using hlt
      rw [e2]
      go_wp2
      go_ret
      refine ⟨rfl, ?_⟩
      repeat (first | with_reducible (refine Grown.drew ?_) | with_reducible (refine Grown.alloc ?_ _ _))
      with_reducible (exact Grown.refl _)

/-! ### THE WALK -/
theorem walk (a0x0 : Int) (a0x1 : ByteArray) (a0x2 : ByteArray) (a0x3 : Bool) (a0x4 : Int) (a0x5 : Bool) (a0x6 : Bool) (a0x7 : Bool) (a0x8 : Bool) (a0x9 : Int) (a0x10 : Int) (a0x11 : Int) (a0x12 : Int) (a0x13 : Int) (a0x14 : ByteArray) (a1 : Int) (w0x0 : (Lit.int .i64 a0x0).wf = true) (w0x1 : a0x1.size ≤ maxLen) (w0x2 : a0x2.size ≤ maxLen) (w0x4 : (Lit.int .u64 a0x4).wf = true) (w0x9 : (Lit.int .i64 a0x9).wf = true) (w0x10 : (Lit.int .i64 a0x10).wf = true) (w0x11 : (Lit.int .i64 a0x11).wf = true) (w0x12 : (Lit.int .i64 a0x12).wf = true) (w0x13 : (Lit.int .i64 a0x13).wf = true) (w0x14 : a0x14.size ≤ maxLen) (w1 : (Lit.int .i64 a1).wf = true) (w : World) :
    Calls Trym.prog 5 #[.agg #[.int .i64 a0x0, .string a0x1, .string a0x2, .bool a0x3, .int .u64 a0x4, .bool a0x5, .bool a0x6, .bool a0x7, .bool a0x8, .int .i64 a0x9, .int .i64 a0x10, .int .i64 a0x11, .int .i64 a0x12, .int .i64 a0x13, .string a0x14], .int .i64 a1] w fun e w' => e = .returned (.bool true) ∧ Grown w w' := by
  have b := bounds_i64 w0x11
  have t := bounds_i64 w1
  exact walk_at a0x0 a0x1 a0x2 a0x3 a0x4 a0x5 a0x6 a0x7 a0x8 a0x9 a0x10 a0x11 a0x12 a0x13 a0x14 a1 w0x1 w0x2 w0x14 b.1 b.2 t.1 w

/-! ### THE ROW's STEP -/
set_option maxRecDepth 100000 in
theorem lifted (os : Os) (started : os.Started) (H : Type) (enc : TypeId × Value → H) :
    ReturnsInHanded {} Trym.checked os 5 .any (Rows.fnReceiverHangsJustPastItsStoppingSpec.pre6 enc Trym.prog Trym.f5 Rows.fnReceiverHangsJustPastItsStoppingRow.domain false) (Rows.fnReceiverHangsJustPastItsStoppingSpec.post enc Trym.prog Trym.f5 false true false false) := by
  refine returnsInHanded_of_change (C := Trym.checked) own started (by kernel_rfl) Trym.func5
    (ChangeSpec.witness6 (enc := enc) (C := Trym.checked) false ⟨#[], #[.agg #[.int .i64 0, .string ByteArray.empty, .string ByteArray.empty, .bool false, .int .u64 0, .bool false, .bool false, .bool false, .bool false, .int .i64 0, .int .i64 0, .int .i64 0, .int .i64 0, .int .i64 0, .string ByteArray.empty], .int .i64 0], []⟩ 8 (by kernel_rfl) (by kernel_rfl) (by kernel_rfl) (by kernel_rfl)) ?_
  intro W base args ds gs before hval0 hW hcnd _
  have hval : ∀ (j : Nat) t v, Trym.f5.params[j]? = some t → args[j]? = some v → Value.okWide Trym.prog W .any base t v := hval0
  have hW' := hW
  obtain ⟨p, q, hA0, hV, rfl, hfz, hnd⟩ := hW
  have hA : DataW.TrodAll enc Trym.prog W 0 (fun _ => true) true Trym.f5.params.toList args.toList ds p := hA0
  rw [Trym.params5] at hA hval
  obtain ⟨v0, vs0, d0, ds0, p0, q0, hargs, rfl, rfl, h0, r0⟩ := trodAll_cons hA
  obtain ⟨v1, vs1, d1, ds1, p1, q1, rfl, rfl, rfl, h1, r1⟩ := trodAll_cons r0
  obtain ⟨rfl, rfl, rfl⟩ := trodAll_nil r1
  obtain rfl : args = #[v0, v1] := by cases args; simp_all
  obtain ⟨rfl, rfl⟩ := trodVars_none hV
  obtain ⟨a0x0, a0x1, a0x2, a0x3, a0x4, a0x5, a0x6, a0x7, a0x8, a0x9, a0x10, a0x11, a0x12, a0x13, a0x14, rfl, rfl, ⟨w0x0, w0x1, w0x2, w0x4, w0x9, w0x10, w0x11, w0x12, w0x13, w0x14⟩, sh0⟩ := Op.open54 (hval 0 54 v0 rfl rfl) h0
  obtain ⟨a1, rfl, rfl, rfl, w1⟩ := open_int Trym.underlying2 (hval 1 2 v1 rfl rfl) h1
  clear hA0 hval0
  simp only [List.append_nil] at hW'
  refine (walk a0x0 a0x1 a0x2 a0x3 a0x4 a0x5 a0x6 a0x7 a0x8 a0x9 a0x10 a0x11 a0x12 a0x13 a0x14 a1 w0x0 w0x1 w0x2 w0x4 w0x9 w0x10 w0x11 w0x12 w0x13 w0x14 w1 W).mono fun e W' ⟨he, hg⟩ => ?_
  subst he
  exact ⟨_, rfl, post_of_same (pa := []) (pv := []) hW' (fun _ _ _ => (trodAll_cons_mk (shut_bool Trym.underlying4 _) trodAll_mk0)) (fun sp _ => (trodAll_cons_mk (sh0 _ _ _ _) (trodAll_cons_mk (shut_int Trym.underlying2 w1) trodAll_mk0))) (fun _ _ => rfl) rfl
    (hg.frame _) hg.2.1 (ok_one (by kernel_rfl) rfl (okWide_bool_mk Trym.underlying4 _))⟩

theorem over : Rows.fnReceiverHangsJustPastItsStoppingRow.holds Trym.pinned (OpenSpec.ofChange Rows.fnReceiverHangsJustPastItsStoppingSpec) :=
  OpenClaim.holds_of_wide 5 Trym.f5 rfl rfl rfl rfl rfl rfl rfl ⟨rfl, rfl, rfl, rfl, rfl⟩ rfl rfl rfl rfl rfl (by kernel_rfl) Trym.func5 (by kernel_rfl)
    (of_decide_eq_true (by kernel_rfl)) (by unfold Func.isWrapper; first | (rw [if_pos (by decide +kernel)]; kernel_rfl) | (rw [if_neg (by decide +kernel)]; exact ⟨rfl, rfl⟩))
    (fun os started H enc _ => lifted os started H enc)

/-- ████ THE STATEMENT ████ -/
theorem proved : Rows.FnReceiverHangsJustPastItsStoppingSaid :=
  over
#print axioms proved
end Go.Proofs.Qxb6613092aMods.fnReceiverHangsJustPastItsStopping
