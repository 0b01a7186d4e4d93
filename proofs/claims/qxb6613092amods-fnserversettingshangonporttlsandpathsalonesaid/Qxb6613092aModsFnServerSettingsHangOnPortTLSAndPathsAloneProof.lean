/-
  THE PROOF OF 'Rows.FnServerSettingsHangOnPortTLSAndPathsAloneSaid': the guide's template (howto, 4) at this function's number and types, its struct parameters opened by Qxb6613092aModsOpen's laws; the walk over contracts of the callees.
-/
import Derived.Test.Qxb6613092aModsRows
import Derived.Test.Qxb6613092aModsOpen
import Derived.Test.Qxb6613092aModsWalkPort
import Derived.WalkKit
import Derived.ProofKit
import Derived.OpenShut
import Derived.ShutString
namespace Go.Proofs.Qxb6613092aMods.fnServerSettingsHangOnPortTLSAndPathsAlone
open Go.ChangeShapes Go.WideShapes Go.ChangeAt Go.RowKit
open Go.ChangeMaps (open_string shut_string)
set_option linter.unusedVariables false

theorem own : ownKnob Trym.prog.godebug = none := by kernel_rfl

/-! ### THE WALK -/
theorem walk (a0x0 : ByteArray) (a0x1 : ByteArray) (a0x2 : ByteArray) (a0x3 : Int) (a0x4 : ByteArray) (a0x5 : ByteArray) (a0x6 : ByteArray) (a0x7 : ByteArray) (a0x8 : ByteArray) (a0x9 : ByteArray) (a0x10 : ByteArray) (a1x0 : ByteArray) (a1x1 : ByteArray) (a1x2 : ByteArray) (a1x3 : Int) (a1x4 : ByteArray) (a1x5 : ByteArray) (a1x6 : ByteArray) (a1x7 : ByteArray) (a1x8 : ByteArray) (a1x9 : ByteArray) (a1x10 : ByteArray) (a2x0 : ByteArray) (a2x1 : ByteArray) (a2x2 : ByteArray) (a2x3 : ByteArray) (a2x4 : ByteArray) (a2x5 : ByteArray) (a2x6 : ByteArray) (a2x7 : ByteArray) (a2x8 : ByteArray) (a2x9 : ByteArray) (a2x10 : ByteArray) (a3x0 : ByteArray) (a3x1 : ByteArray) (a3x2 : ByteArray) (a3x3 : ByteArray) (a3x4 : ByteArray) (a3x5 : ByteArray) (a3x6 : ByteArray) (a3x7 : ByteArray) (a3x8 : ByteArray) (a3x9 : ByteArray) (a3x10 : ByteArray) (w0x0 : a0x0.size ≤ maxLen) (w0x1 : a0x1.size ≤ maxLen) (w0x2 : a0x2.size ≤ maxLen) (w0x3 : (Lit.int .i64 a0x3).wf = true) (w0x4 : a0x4.size ≤ maxLen) (w0x5 : a0x5.size ≤ maxLen) (w0x6 : a0x6.size ≤ maxLen) (w0x7 : a0x7.size ≤ maxLen) (w0x8 : a0x8.size ≤ maxLen) (w0x9 : a0x9.size ≤ maxLen) (w0x10 : a0x10.size ≤ maxLen) (w1x0 : a1x0.size ≤ maxLen) (w1x1 : a1x1.size ≤ maxLen) (w1x2 : a1x2.size ≤ maxLen) (w1x3 : (Lit.int .i64 a1x3).wf = true) (w1x4 : a1x4.size ≤ maxLen) (w1x5 : a1x5.size ≤ maxLen) (w1x6 : a1x6.size ≤ maxLen) (w1x7 : a1x7.size ≤ maxLen) (w1x8 : a1x8.size ≤ maxLen) (w1x9 : a1x9.size ≤ maxLen) (w1x10 : a1x10.size ≤ maxLen) (w2x0 : a2x0.size ≤ maxLen) (w2x1 : a2x1.size ≤ maxLen) (w2x2 : a2x2.size ≤ maxLen) (w2x3 : a2x3.size ≤ maxLen) (w2x4 : a2x4.size ≤ maxLen) (w2x5 : a2x5.size ≤ maxLen) (w2x6 : a2x6.size ≤ maxLen) (w2x7 : a2x7.size ≤ maxLen) (w2x8 : a2x8.size ≤ maxLen) (w2x9 : a2x9.size ≤ maxLen) (w2x10 : a2x10.size ≤ maxLen) (w3x0 : a3x0.size ≤ maxLen) (w3x1 : a3x1.size ≤ maxLen) (w3x2 : a3x2.size ≤ maxLen) (w3x3 : a3x3.size ≤ maxLen) (w3x4 : a3x4.size ≤ maxLen) (w3x5 : a3x5.size ≤ maxLen) (w3x6 : a3x6.size ≤ maxLen) (w3x7 : a3x7.size ≤ maxLen) (w3x8 : a3x8.size ≤ maxLen) (w3x9 : a3x9.size ≤ maxLen) (w3x10 : a3x10.size ≤ maxLen) (w : World) :
    Calls Trym.prog 3 #[.agg #[.string a0x0, .string a0x1, .string a0x2, .int .i64 a0x3, .string a0x4, .string a0x5, .string a0x6, .string a0x7, .string a0x8, .string a0x9, .string a0x10], .agg #[.string a1x0, .string a1x1, .string a1x2, .int .i64 a1x3, .string a1x4, .string a1x5, .string a1x6, .string a1x7, .string a1x8, .string a1x9, .string a1x10], .agg #[.string a2x0, .string a2x1, .string a2x2, .string a2x3, .string a2x4, .string a2x5, .string a2x6, .string a2x7, .string a2x8, .string a2x9, .string a2x10], .agg #[.string a3x0, .string a3x1, .string a3x2, .string a3x3, .string a3x4, .string a3x5, .string a3x6, .string a3x7, .string a3x8, .string a3x9, .string a3x10]] w fun e w' => e = .returned (.bool true) ∧ Grown w w' := by
  exact Wc.walk_at a0x0 a0x1 a0x2 a0x3 a0x4 a0x5 a0x6 a0x7 a0x8 a0x9 a0x10 a1x0 a1x1 a1x2 a1x3 a1x4 a1x5 a1x6 a1x7 a1x8 a1x9 a1x10 a2x0 a2x1 a2x2 a2x3 a2x4 a2x5 a2x6 a2x7 a2x8 a2x9 a2x10 a3x0 a3x1 a3x2 a3x3 a3x4 a3x5 a3x6 a3x7 a3x8 a3x9 a3x10 w0x0 w0x1 w0x2 w0x4 w0x5 w0x6 w0x7 w0x8 w0x9 w0x10 w1x0 w1x1 w1x2 w1x4 w1x5 w1x6 w1x7 w1x8 w1x9 w1x10 w2x0 w2x1 w2x2 w2x3 w2x4 w2x5 w2x6 w2x7 w2x8 w2x9 w2x10 w3x0 w3x1 w3x2 w3x3 w3x4 w3x5 w3x6 w3x7 w3x8 w3x9 w3x10 w

/-! ### THE ROW's STEP -/
set_option maxRecDepth 100000 in
theorem lifted (os : Os) (started : os.Started) (H : Type) (enc : TypeId × Value → H) :
    ReturnsInHanded {} Trym.checked os 3 .any (Rows.fnServerSettingsHangOnPortTLSAndPathsAloneSpec.pre6 enc Trym.prog Trym.f3 Rows.fnServerSettingsHangOnPortTLSAndPathsAloneRow.domain false) (Rows.fnServerSettingsHangOnPortTLSAndPathsAloneSpec.post enc Trym.prog Trym.f3 false true false false) := by
  refine returnsInHanded_of_change (C := Trym.checked) own started (by kernel_rfl) Trym.func3
    (ChangeSpec.witness6 (enc := enc) (C := Trym.checked) false ⟨#[], #[.agg #[.string ByteArray.empty, .string ByteArray.empty, .string ByteArray.empty, .int .i64 0, .string ByteArray.empty, .string ByteArray.empty, .string ByteArray.empty, .string ByteArray.empty, .string ByteArray.empty, .string ByteArray.empty, .string ByteArray.empty], .agg #[.string ByteArray.empty, .string ByteArray.empty, .string ByteArray.empty, .int .i64 0, .string ByteArray.empty, .string ByteArray.empty, .string ByteArray.empty, .string ByteArray.empty, .string ByteArray.empty, .string ByteArray.empty, .string ByteArray.empty], .agg #[.string ByteArray.empty, .string ByteArray.empty, .string ByteArray.empty, .string ByteArray.empty, .string ByteArray.empty, .string ByteArray.empty, .string ByteArray.empty, .string ByteArray.empty, .string ByteArray.empty, .string ByteArray.empty, .string ByteArray.empty], .agg #[.string ByteArray.empty, .string ByteArray.empty, .string ByteArray.empty, .string ByteArray.empty, .string ByteArray.empty, .string ByteArray.empty, .string ByteArray.empty, .string ByteArray.empty, .string ByteArray.empty, .string ByteArray.empty, .string ByteArray.empty]], []⟩ 8 (by kernel_rfl) (by kernel_rfl) (by kernel_rfl) (by kernel_rfl)) ?_
  intro W base args ds gs before hval0 hW hcnd _
  have hval : ∀ (j : Nat) t v, Trym.f3.params[j]? = some t → args[j]? = some v → Value.okWide Trym.prog W .any base t v := hval0
  have hW' := hW
  obtain ⟨p, q, hA0, hV, rfl, hfz, hnd⟩ := hW
  have hA : DataW.TrodAll enc Trym.prog W 0 (fun _ => true) true Trym.f3.params.toList args.toList ds p := hA0
  rw [Trym.params3] at hA hval
  obtain ⟨v0, vs0, d0, ds0, p0, q0, hargs, rfl, rfl, h0, r0⟩ := trodAll_cons hA
  obtain ⟨v1, vs1, d1, ds1, p1, q1, rfl, rfl, rfl, h1, r1⟩ := trodAll_cons r0
  obtain ⟨v2, vs2, d2, ds2, p2, q2, rfl, rfl, rfl, h2, r2⟩ := trodAll_cons r1
  obtain ⟨v3, vs3, d3, ds3, p3, q3, rfl, rfl, rfl, h3, r3⟩ := trodAll_cons r2
  obtain ⟨rfl, rfl, rfl⟩ := trodAll_nil r3
  obtain rfl : args = #[v0, v1, v2, v3] := by cases args; simp_all
  obtain ⟨rfl, rfl⟩ := trodVars_none hV
  obtain ⟨a0x0, a0x1, a0x2, a0x3, a0x4, a0x5, a0x6, a0x7, a0x8, a0x9, a0x10, rfl, rfl, ⟨w0x0, w0x1, w0x2, w0x3, w0x4, w0x5, w0x6, w0x7, w0x8, w0x9, w0x10⟩, sh0⟩ := Op.open23 (hval 0 23 v0 rfl rfl) h0
  obtain ⟨a1x0, a1x1, a1x2, a1x3, a1x4, a1x5, a1x6, a1x7, a1x8, a1x9, a1x10, rfl, rfl, ⟨w1x0, w1x1, w1x2, w1x3, w1x4, w1x5, w1x6, w1x7, w1x8, w1x9, w1x10⟩, sh1⟩ := Op.open23 (hval 1 23 v1 rfl rfl) h1
  obtain ⟨a2x0, a2x1, a2x2, a2x3, a2x4, a2x5, a2x6, a2x7, a2x8, a2x9, a2x10, rfl, rfl, ⟨w2x0, w2x1, w2x2, w2x3, w2x4, w2x5, w2x6, w2x7, w2x8, w2x9, w2x10⟩, sh2⟩ := Op.open25 (hval 2 25 v2 rfl rfl) h2
  obtain ⟨a3x0, a3x1, a3x2, a3x3, a3x4, a3x5, a3x6, a3x7, a3x8, a3x9, a3x10, rfl, rfl, ⟨w3x0, w3x1, w3x2, w3x3, w3x4, w3x5, w3x6, w3x7, w3x8, w3x9, w3x10⟩, sh3⟩ := Op.open25 (hval 3 25 v3 rfl rfl) h3
  clear hA0 hval0
  simp only [List.append_nil] at hW'
  refine (walk a0x0 a0x1 a0x2 a0x3 a0x4 a0x5 a0x6 a0x7 a0x8 a0x9 a0x10 a1x0 a1x1 a1x2 a1x3 a1x4 a1x5 a1x6 a1x7 a1x8 a1x9 a1x10 a2x0 a2x1 a2x2 a2x3 a2x4 a2x5 a2x6 a2x7 a2x8 a2x9 a2x10 a3x0 a3x1 a3x2 a3x3 a3x4 a3x5 a3x6 a3x7 a3x8 a3x9 a3x10 w0x0 w0x1 w0x2 w0x3 w0x4 w0x5 w0x6 w0x7 w0x8 w0x9 w0x10 w1x0 w1x1 w1x2 w1x3 w1x4 w1x5 w1x6 w1x7 w1x8 w1x9 w1x10 w2x0 w2x1 w2x2 w2x3 w2x4 w2x5 w2x6 w2x7 w2x8 w2x9 w2x10 w3x0 w3x1 w3x2 w3x3 w3x4 w3x5 w3x6 w3x7 w3x8 w3x9 w3x10 W).mono fun e W' ⟨he, hg⟩ => ?_
  subst he
  exact ⟨_, rfl, post_of_same (pa := []) (pv := []) hW' (fun _ _ _ => (trodAll_cons_mk (shut_bool Trym.underlying4 _) trodAll_mk0)) (fun sp _ => (trodAll_cons_mk (sh0 _ _ _ _) (trodAll_cons_mk (sh1 _ _ _ _) (trodAll_cons_mk (sh2 _ _ _ _) (trodAll_cons_mk (sh3 _ _ _ _) trodAll_mk0))))) (fun _ _ => rfl) rfl
    (hg.frame _) hg.2.1 (ok_one (by kernel_rfl) rfl (okWide_bool_mk Trym.underlying4 _))⟩

theorem over : Rows.fnServerSettingsHangOnPortTLSAndPathsAloneRow.holds Trym.pinned (OpenSpec.ofChange Rows.fnServerSettingsHangOnPortTLSAndPathsAloneSpec) :=
  OpenClaim.holds_of_wide 3 Trym.f3 rfl rfl rfl rfl rfl rfl rfl ⟨rfl, rfl, rfl, rfl, rfl⟩ rfl rfl rfl rfl rfl (by kernel_rfl) Trym.func3 (by kernel_rfl)
    (of_decide_eq_true (by kernel_rfl)) (by unfold Func.isWrapper; first | (rw [if_pos (by decide +kernel)]; kernel_rfl) | (rw [if_neg (by decide +kernel)]; exact ⟨rfl, rfl⟩))
    (fun os started H enc _ => lifted os started H enc)

/-- ████ THE STATEMENT ████ -/
theorem proved : Rows.FnServerSettingsHangOnPortTLSAndPathsAloneSaid :=
  over
#print axioms proved
end Go.Proofs.Qxb6613092aMods.fnServerSettingsHangOnPortTLSAndPathsAlone
