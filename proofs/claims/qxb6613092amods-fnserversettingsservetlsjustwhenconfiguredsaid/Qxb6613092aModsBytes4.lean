/-
  THE WALK of zzBytes_FnServerSettingsServeTLSJustWhenConfigured (seat b6613092aM): it answers a bool: 42 tests in a row.
-/
import Derived.Test.Qxb6613092aModsProg
import Derived.WalkKit
import Derived.RowKit3
import Derived.WalkSpells
namespace Go.Proofs.Qxb6613092aMods.By
open Go.RowKit
set_option linter.unusedVariables false
set_option maxRecDepth 100000 in
set_option maxHeartbeats 8000000 in
theorem bytes4_any (a0x0 : ByteArray) (a0x1 : ByteArray) (a0x2 : ByteArray) (a0x3 : Int) (a0x4 : ByteArray) (a0x5 : ByteArray) (a0x6 : ByteArray) (a0x7 : ByteArray) (a0x8 : ByteArray) (a0x9 : ByteArray) (a0x10 : ByteArray) (a1x0 : ByteArray) (a1x1 : ByteArray) (a1x2 : ByteArray) (a1x3 : ByteArray) (a1x4 : ByteArray) (a1x5 : ByteArray) (a1x6 : ByteArray) (a1x7 : ByteArray) (a1x8 : ByteArray) (a1x9 : ByteArray) (a1x10 : ByteArray) (ha0x0 : a0x0.size ≤ maxLen) (ha0x1 : a0x1.size ≤ maxLen) (ha0x2 : a0x2.size ≤ maxLen) (ha0x4 : a0x4.size ≤ maxLen) (ha0x5 : a0x5.size ≤ maxLen) (ha0x6 : a0x6.size ≤ maxLen) (ha0x7 : a0x7.size ≤ maxLen) (ha0x8 : a0x8.size ≤ maxLen) (ha0x9 : a0x9.size ≤ maxLen) (ha0x10 : a0x10.size ≤ maxLen) (ha1x0 : a1x0.size ≤ maxLen) (ha1x1 : a1x1.size ≤ maxLen) (ha1x2 : a1x2.size ≤ maxLen) (ha1x3 : a1x3.size ≤ maxLen) (ha1x4 : a1x4.size ≤ maxLen) (ha1x5 : a1x5.size ≤ maxLen) (ha1x6 : a1x6.size ≤ maxLen) (ha1x7 : a1x7.size ≤ maxLen) (ha1x8 : a1x8.size ≤ maxLen) (ha1x9 : a1x9.size ≤ maxLen) (ha1x10 : a1x10.size ≤ maxLen) (w : World) :
    Calls Trym.prog 15 #[.agg #[.string a0x0, .string a0x1, .string a0x2, .int .i64 a0x3, .string a0x4, .string a0x5, .string a0x6, .string a0x7, .string a0x8, .string a0x9, .string a0x10], .agg #[.string a1x0, .string a1x1, .string a1x2, .string a1x3, .string a1x4, .string a1x5, .string a1x6, .string a1x7, .string a1x8, .string a1x9, .string a1x10]] w fun e w' => ∃ b : Bool, e = .returned (.bool b) ∧ Grown w w' := by
  unfold maxLen at *
  go_enter Trym.func15, Trym.ntmps15
  go_wp2
  all_goals
    go_ret
    exact ⟨_, rfl, (Grown.alloc (Grown.alloc (Grown.refl _) _ _) _ _)⟩
end Go.Proofs.Qxb6613092aMods.By
