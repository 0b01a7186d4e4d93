/-
  THE PROOF OF 'Rows.FnServerSettingsServeTLSJustWhenConfiguredSaid': the guide's template (howto, 4) at this function's number and types, its struct parameters opened by Qxb6613092aModsOpen's laws; the walk over contracts of the callees.
-/
import Derived.Test.Qxb6613092aModsRows
import Derived.Test.Qxb6613092aModsOpen
import Derived.Test.Qxb6613092aModsWalkTLS
import Derived.WalkKit
import Derived.ProofKit
import Derived.OpenShut
import Derived.ShutString
namespace Go.Proofs.Qxb6613092aMods.fnServerSettingsServeTLSJustWhenConfigured
open Go.ChangeShapes Go.WideShapes Go.ChangeAt Go.RowKit
open Go.ChangeMaps (open_string shut_string)
set_option linter.unusedVariables false

theorem own : ownKnob Trym.prog.godebug = none := by kernel_rfl

/-! ### THE WALK -/
theorem walk (a0x0 : ByteArray) (a0x1 : ByteArray) (a0x2 : ByteArray) (a0x3 : Int) (a0x4 : ByteArray) (a0x5 : ByteArray) (a0x6 : ByteArray) (a0x7 : ByteArray) (a0x8 : ByteArray) (a0x9 : ByteArray) (a0x10 : ByteArray) (a1x0 : ByteArray) (a1x1 : ByteArray) (a1x2 : ByteArray) (a1x3 : ByteArray) (a1x4 : ByteArray) (a1x5 : ByteArray) (a1x6 : ByteArray) (a1x7 : ByteArray) (a1x8 : ByteArray) (a1x9 : ByteArray) (a1x10 : ByteArray) (w0x0 : a0x0.size ≤ maxLen) (w0x1 : a0x1.size ≤ maxLen) (w0x2 : a0x2.size ≤ maxLen) (w0x3 : (Lit.int .i64 a0x3).wf = true) (w0x4 : a0x4.size ≤ maxLen) (w0x5 : a0x5.size ≤ maxLen) (w0x6 : a0x6.size ≤ maxLen) (w0x7 : a0x7.size ≤ maxLen) (w0x8 : a0x8.size ≤ maxLen) (w0x9 : a0x9.size ≤ maxLen) (w0x10 : a0x10.size ≤ maxLen) (w1x0 : a1x0.size ≤ maxLen) (w1x1 : a1x1.size ≤ maxLen) (w1x2 : a1x2.size ≤ maxLen) (w1x3 : a1x3.size ≤ maxLen) (w1x4 : a1x4.size ≤ maxLen) (w1x5 : a1x5.size ≤ maxLen) (w1x6 : a1x6.size ≤ maxLen) (w1x7 : a1x7.size ≤ maxLen) (w1x8 : a1x8.size ≤ maxLen) (w1x9 : a1x9.size ≤ maxLen) (w1x10 : a1x10.size ≤ maxLen) (w : World) :
    Calls Trym.prog 4 #[.agg #[.string a0x0, .string a0x1, .string a0x2, .int .i64 a0x3, .string a0x4, .string a0x5, .string a0x6, .string a0x7, .string a0x8, .string a0x9, .string a0x10], .agg #[.string a1x0, .string a1x1, .string a1x2, .string a1x3, .string a1x4, .string a1x5, .string a1x6, .string a1x7, .string a1x8, .string a1x9, .string a1x10]] w fun e w' => e = .returned (.bool true) ∧ Grown w w' := by
  exact Wd.walk_at a0x0 a0x1 a0x2 a0x3 a0x4 a0x5 a0x6 a0x7 a0x8 a0x9 a0x10 a1x0 a1x1 a1x2 a1x3 a1x4 a1x5 a1x6 a1x7 a1x8 a1x9 a1x10 w0x0 w0x1 w0x2 w0x4 w0x5 w0x6 w0x7 w0x8 w0x9 w0x10 w1x0 w1x1 w1x2 w1x3 w1x4 w1x5 w1x6 w1x7 w1x8 w1x9 w1x10 w

/-! ### THE ROW's STEP -/
set_option maxRecDepth 100000 in
theorem lifted (os : Os) (started : os.Started) (H : Type) (enc : TypeId × Value → H) :
    ReturnsInHanded {} Trym.checked os 4 .any (Rows.fnServerSettingsServeTLSJustWhenConfiguredSpec.pre6 enc Trym.prog Trym.f4 Rows.fnServerSettingsServeTLSJustWhenConfiguredRow.domain false) (Rows.fnServerSettingsServeTLSJustWhenConfiguredSpec.post enc Trym.prog Trym.f4 false true false false) := by
  refine returnsInHanded_of_change (C := Trym.checked) own started (by kernel_rfl) Trym.func4
    (ChangeSpec.witness6 (enc := enc) (C := Trym.checked) false ⟨#[], #[.agg #[.string ByteArray.empty, .string ByteArray.empty, .string ByteArray.empty, .int .i64 0, .string ByteArray.empty, .string ByteArray.empty, .string ByteArray.empty, .string ByteArray.empty, .string ByteArray.empty, .string ByteArray.empty, .string ByteArray.empty], .agg #[.string ByteArray.empty, .string ByteArray.empty, .string ByteArray.empty, .string ByteArray.empty, .string ByteArray.empty, .string ByteArray.empty, .string ByteArray.empty, .string ByteArray.empty, .string ByteArray.empty, .string ByteArray.empty, .string ByteArray.empty]], []⟩ 8 (by kernel_rfl) (by kernel_rfl) (by kernel_rfl) (by kernel_rfl)) ?_
  intro W base args ds gs before hval0 hW hcnd _
  have hval : ∀ (j : Nat) t v, Trym.f4.params[j]? = some t → args[j]? = some v → Value.okWide Trym.prog W .any base t v := hval0
  have hW' := hW
  obtain ⟨p, q, hA0, hV, rfl, hfz, hnd⟩ := hW
  have hA : DataW.TrodAll enc Trym.prog W 0 (fun _ => true) true Trym.f4.params.toList args.toList ds p := hA0
  rw [Trym.params4] at hA hval
  obtain ⟨v0, vs0, d0, ds0, p0, q0, hargs, rfl, rfl, h0, r0⟩ := trodAll_cons hA
  obtain ⟨v1, vs1, d1, ds1, p1, q1, rfl, rfl, rfl, h1, r1⟩ := trodAll_cons r0
  obtain ⟨rfl, rfl, rfl⟩ := trodAll_nil r1
  obtain rfl : args = #[v0, v1] := by cases args; simp_all
  obtain ⟨rfl, rfl⟩ := trodVars_none hV
  obtain ⟨a0x0, a0x1, a0x2, a0x3, a0x4, a0x5, a0x6, a0x7, a0x8, a0x9, a0x10, rfl, rfl, ⟨w0x0, w0x1, w0x2, w0x3, w0x4, w0x5, w0x6, w0x7, w0x8, w0x9, w0x10⟩, sh0⟩ := Op.open23 (hval 0 23 v0 rfl rfl) h0
  obtain ⟨a1x0, a1x1, a1x2, a1x3, a1x4, a1x5, a1x6, a1x7, a1x8, a1x9, a1x10, rfl, rfl, ⟨w1x0, w1x1, w1x2, w1x3, w1x4, w1x5, w1x6, w1x7, w1x8, w1x9, w1x10⟩, sh1⟩ := Op.open25 (hval 1 25 v1 rfl rfl) h1
  clear hA0 hval0
  simp only [List.append_nil] at hW'
  refine (walk a0x0 a0x1 a0x2 a0x3 a0x4 a0x5 a0x6 a0x7 a0x8 a0x9 a0x10 a1x0 a1x1 a1x2 a1x3 a1x4 a1x5 a1x6 a1x7 a1x8 a1x9 a1x10 w0x0 w0x1 w0x2 w0x3 w0x4 w0x5 w0x6 w0x7 w0x8 w0x9 w0x10 w1x0 w1x1 w1x2 w1x3 w1x4 w1x5 w1x6 w1x7 w1x8 w1x9 w1x10 W).mono fun e W' ⟨he, hg⟩ => ?_
  subst he
  exact ⟨_, rfl, post_of_same (pa := []) (pv := []) hW' (fun _ _ _ => (trodAll_cons_mk (shut_bool Trym.underlying4 _) trodAll_mk0)) (fun sp _ => (trodAll_cons_mk (sh0 _ _ _ _) (trodAll_cons_mk (sh1 _ _ _ _) trodAll_mk0))) (fun _ _ => rfl) rfl
    (hg.frame _) hg.2.1 (ok_one (by kernel_rfl) rfl (okWide_bool_mk Trym.underlying4 _))⟩

theorem over : Rows.fnServerSettingsServeTLSJustWhenConfiguredRow.holds Trym.pinned (OpenSpec.ofChange Rows.fnServerSettingsServeTLSJustWhenConfiguredSpec) :=
  OpenClaim.holds_of_wide 4 Trym.f4 rfl rfl rfl rfl rfl rfl rfl ⟨rfl, rfl, rfl, rfl, rfl⟩ rfl rfl rfl rfl rfl (by kernel_rfl) Trym.func4 (by kernel_rfl)
    (of_decide_eq_true (by kernel_rfl)) (by unfold Func.isWrapper; first | (rw [if_pos (by decide +kernel)]; kernel_rfl) | (rw [if_neg (by decide +kernel)]; exact ⟨rfl, rfl⟩))
    (fun os started H enc _ => lifted os started H enc)

/-- ████ THE STATEMENT ████ -/
theorem proved : Rows.FnServerSettingsServeTLSJustWhenConfiguredSaid :=
  over
#print axioms proved
end Go.Proofs.Qxb6613092aMods.fnServerSettingsServeTLSJustWhenConfigured
