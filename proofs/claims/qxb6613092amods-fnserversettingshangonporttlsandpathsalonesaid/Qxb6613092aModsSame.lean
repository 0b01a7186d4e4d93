/-
  THE WALKS over the comparisons (seat b6613092aM): zzSameStrings of two nil slices, zzSameSettingsButTLS, zzSameCert.
-/
import Derived.Test.Qxb6613092aModsServer
import Derived.WalkLawsBesides
namespace Go.Proofs.Qxb6613092aMods.Sa
open Go.RowKit Se
set_option linter.unusedVariables false

theorem grown_drewN {W w' : World} (h : Grown W w') (n : Nat) : Grown W (w'.drewN n) := h

/-- 'zzSameStrings' of two nil slices. -/
theorem sameNil (w : World) :
    Calls Trym.prog 23 #[.slice none 0 0, .slice none 0 0] w fun e w' => e = .returned (.bool true) ∧ w' = w := by
  have hs := fun w => Lib.run_eql_slice_nil (P := Trym.prog) w 29 9 none 0 0 0 0 Trym.underlying29
  go_enter Trym.func23, Trym.ntmps23
  go_wp2
  go_loop [5] (fun i => i = .int .i64 0) (fun _ => 0)
  case atStart => rfl
  case round =>
    subst hrel
    go_wp2
    go_ret
    exact ⟨rfl, rfl⟩

set_option maxHeartbeats 400000 in
/-- 'zzSameSettingsButTLS' of two settings that differ at most in TLS. -/
theorem same_any (port : Int) (sock : ByteArray) (q1 q2 : Option Addr) (w : World) :
    Calls Trym.prog 13 #[.agg #[.int .i64 port, .string sock, .string ⟨#[42]⟩, .string ⟨#[]⟩, .bool false, .slice none 0 0, .bool false, .int .i64 300, .int .i64 0, .int .i64 0, .int .i64 0, .pointer q1, .pointer none], .agg #[.int .i64 port, .string sock, .string ⟨#[42]⟩, .string ⟨#[]⟩, .bool false, .slice none 0 0, .bool false, .int .i64 300, .int .i64 0, .int .i64 0, .int .i64 0, .pointer q2, .pointer none]] w fun e w' => e = .returned (.bool true) ∧ Grown w w' := by
  go_enter Trym.func13, Trym.ntmps13
  go_wp2_with (go_at_call 23; refine (sameNil _).mono ?_; rintro e w' ⟨rfl, rfl⟩)
  go_quiet (fail)
  go_wp2
  go_ret
  refine ⟨rfl, ?_⟩
  exact grown_drewN (Grown.alloc (Grown.alloc (Grown.refl _) _ _) _ _) _

/-- 'zzSameCert' of two nil pointers. -/
theorem certNil (w : World) :
    Calls Trym.prog 14 #[.pointer none, .pointer none] w fun e w' => e = .returned (.bool true) ∧ Grown w w' := by
  go_enter Trym.func14, Trym.ntmps14
  go_wp2
  go_quiet (fail)
  go_wp2
  go_ret
  exact ⟨rfl, grown_drewN (Grown.refl _) _⟩

set_option maxHeartbeats 400000 in
/-- 'zzSameCert' of two certificates of one content. -/
theorem certSame (b1 b2 : Nat) (c k : ByteArray) (w : World) (f0 : w.cell? ⟨b1, 0, none⟩ = some (.string c)) (f1 : w.cell? ⟨b1, 1, none⟩ = some (.string k)) (g0 : w.cell? ⟨b2, 0, none⟩ = some (.string c)) (g1 : w.cell? ⟨b2, 1, none⟩ = some (.string k)) :
    Calls Trym.prog 14 #[.pointer (some ⟨b1, 0, none⟩), .pointer (some ⟨b2, 0, none⟩)] w fun e w' => e = .returned (.bool true) ∧ Grown w w' := by
  go_enter Trym.func14, Trym.ntmps14
  go_wp2
  go_quiet (fail)
  go_wp2
  go_ret
  exact ⟨rfl, grown_drewN (Grown.refl _) _⟩
end Go.Proofs.Qxb6613092aMods.Sa
