/-
  THE WALK of zzBytes_FnServerSettingsHangOnPortTLSAndPathsAlone (seat b6613092aM): it answers a bool: 84 tests in a row.
-/
import Derived.Test.Qxb6613092aModsProg
import Derived.WalkKit
import Derived.RowKit3
import Derived.WalkSpells
namespace Go.Proofs.Qxb6613092aMods.By
open Go.RowKit
set_option linter.unusedVariables false
set_option maxRecDepth 100000 in
set_option maxHeartbeats 8000000 in
theorem bytes3_any (a0x0 : ByteArray) (a0x1 : ByteArray) (a0x2 : ByteArray) (a0x3 : Int) (a0x4 : ByteArray) (a0x5 : ByteArray) (a0x6 : ByteArray) (a0x7 : ByteArray) (a0x8 : ByteArray) (a0x9 : ByteArray) (a0x10 : ByteArray) (a1x0 : ByteArray) (a1x1 : ByteArray) (a1x2 : ByteArray) (a1x3 : Int) (a1x4 : ByteArray) (a1x5 : ByteArray) (a1x6 : ByteArray) (a1x7 : ByteArray) (a1x8 : ByteArray) (a1x9 : ByteArray) (a1x10 : ByteArray) (a2x0 : ByteArray) (a2x1 : ByteArray) (a2x2 : ByteArray) (a2x3 : ByteArray) (a2x4 : ByteArray) (a2x5 : ByteArray) (a2x6 : ByteArray) (a2x7 : ByteArray) (a2x8 : ByteArray) (a2x9 : ByteArray) (a2x10 : ByteArray) (a3x0 : ByteArray) (a3x1 : ByteArray) (a3x2 : ByteArray) (a3x3 : ByteArray) (a3x4 : ByteArray) (a3x5 : ByteArray) (a3x6 : ByteArray) (a3x7 : ByteArray) (a3x8 : ByteArray) (a3x9 : ByteArray) (a3x10 : ByteArray) (ha0x0 : a0x0.size ≤ maxLen) (ha0x1 : a0x1.size ≤ maxLen) (ha0x2 : a0x2.size ≤ maxLen) (ha0x4 : a0x4.size ≤ maxLen) (ha0x5 : a0x5.size ≤ maxLen) (ha0x6 : a0x6.size ≤ maxLen) (ha0x7 : a0x7.size ≤ maxLen) (ha0x8 : a0x8.size ≤ maxLen) (ha0x9 : a0x9.size ≤ maxLen) (ha0x10 : a0x10.size ≤ maxLen) (ha1x0 : a1x0.size ≤ maxLen) (ha1x1 : a1x1.size ≤ maxLen) (ha1x2 : a1x2.size ≤ maxLen) (ha1x4 : a1x4.size ≤ maxLen) (ha1x5 : a1x5.size ≤ maxLen) (ha1x6 : a1x6.size ≤ maxLen) (ha1x7 : a1x7.size ≤ maxLen) (ha1x8 : a1x8.size ≤ maxLen) (ha1x9 : a1x9.size ≤ maxLen) (ha1x10 : a1x10.size ≤ maxLen) (ha2x0 : a2x0.size ≤ maxLen) (ha2x1 : a2x1.size ≤ maxLen) (ha2x2 : a2x2.size ≤ maxLen) (ha2x3 : a2x3.size ≤ maxLen) (ha2x4 : a2x4.size ≤ maxLen) (ha2x5 : a2x5.size ≤ maxLen) (ha2x6 : a2x6.size ≤ maxLen) (ha2x7 : a2x7.size ≤ maxLen) (ha2x8 : a2x8.size ≤ maxLen) (ha2x9 : a2x9.size ≤ maxLen) (ha2x10 : a2x10.size ≤ maxLen) (ha3x0 : a3x0.size ≤ maxLen) (ha3x1 : a3x1.size ≤ maxLen) (ha3x2 : a3x2.size ≤ maxLen) (ha3x3 : a3x3.size ≤ maxLen) (ha3x4 : a3x4.size ≤ maxLen) (ha3x5 : a3x5.size ≤ maxLen) (ha3x6 : a3x6.size ≤ maxLen) (ha3x7 : a3x7.size ≤ maxLen) (ha3x8 : a3x8.size ≤ maxLen) (ha3x9 : a3x9.size ≤ maxLen) (ha3x10 : a3x10.size ≤ maxLen) (w : World) :
    Calls Trym.prog 7 #[.agg #[.string a0x0, .string a0x1, .string a0x2, .int .i64 a0x3, .string a0x4, .string a0x5, .string a0x6, .string a0x7, .string a0x8, .string a0x9, .string a0x10], .agg #[.string a1x0, .string a1x1, .string a1x2, .int .i64 a1x3, .string a1x4, .string a1x5, .string a1x6, .string a1x7, .string a1x8, .string a1x9, .string a1x10], .agg #[.string a2x0, .string a2x1, .string a2x2, .string a2x3, .string a2x4, .string a2x5, .string a2x6, .string a2x7, .string a2x8, .string a2x9, .string a2x10], .agg #[.string a3x0, .string a3x1, .string a3x2, .string a3x3, .string a3x4, .string a3x5, .string a3x6, .string a3x7, .string a3x8, .string a3x9, .string a3x10]] w fun e w' => ∃ b : Bool, e = .returned (.bool b) ∧ Grown w w' := by
  unfold maxLen at *
  go_enter Trym.func7, Trym.ntmps7
  go_wp2
  all_goals
    go_ret
    exact ⟨_, rfl, (Grown.alloc (Grown.alloc (Grown.alloc (Grown.alloc (Grown.refl _) _ _) _ _) _ _) _ _)⟩
end Go.Proofs.Qxb6613092aMods.By
