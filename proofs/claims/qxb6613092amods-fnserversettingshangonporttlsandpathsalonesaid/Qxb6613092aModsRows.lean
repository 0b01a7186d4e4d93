/-
  No cell of these rows narrows 'for every input' (looked for: loops, veiled, ifaces, maps, wideKeys, modest, calm, conditions, laid).
  DERIVED. THE GIVEN ROWS OF THIS SEAT. 4 by the template 'for every input the law returns true; each argument reads behind the call as it read before'; 0 by the template 'total and deterministic' (their statements: Qxb6613092aModsTotals.lean).
  GIVEN WITH THE SEED: the statements are not yours to turn. If you find one false, say at which input.
  Laid BY PROGRAM, IN A SANDBOX (cutbox-rows.mjs): the forced cells as the released guide's own fill.sh prints them over the translation c6ab28cce9760513… (all of the seat's roots in one cut). By AI agents, Wed Nov 11 2026. No macro, syntax, notation, axiom, sorry.
-/
import Derived.Test.Qxb6613092aModsChecked
import GoSem.Claim
import GoSem.ClaimJoined
import GoSem.ClaimMapViews
import Derived.JoinedTies
import Derived.KernelRfl
namespace Go.Proofs.Qxb6613092aMods
/- THE CELL 'sum', in the pinned program and in every row, IS THE sha256 OF THE DUMP (.gsa) THAT Qxb6613092aModsProg.lean LOADS. Nothing in Lean hashes anything: it is a label: what it is worth is what the hold of that sum in a sandbox is worth. -/
noncomputable def Trym.pinned : Pinned := { name := "qxb6613092amods", sum := "c6ab28cce97605133f57b6800e28e9f99a0562c02dfa183b6273d71bca245d90", checked := Trym.checked }
namespace Rows
def none {H : Type} : Left H := { results := [], args := [] }

/-- 'zzlaws_internal_monitor_b1.FnServerSettingsHangOnPortTLSAndPathsAlone': WHATEVER THE INPUT: true; the input reads as it did. -/
def fnServerSettingsHangOnPortTLSAndPathsAloneSpec : ChangeSpec := { name := "fnServerSettingsHangOnPortTLSAndPathsAlone", fn := fun _ => fun
  | [d1, d2, d3, d4] => { results := [.lit (.bool true)], args := [d1, d2, d3, d4] }
  | _ => none }
def fnServerSettingsHangOnPortTLSAndPathsAloneRow : OpenClaim := { program := "qxb6613092amods", sum := "c6ab28cce97605133f57b6800e28e9f99a0562c02dfa183b6273d71bca245d90", func := "example.com/tillerman/tillerman/zzlaws_internal_monitor_b1.FnServerSettingsHangOnPortTLSAndPathsAlone", spec := "fnServerSettingsHangOnPortTLSAndPathsAlone", make := .lifted ["publicsums"], apart := false }
def FnServerSettingsHangOnPortTLSAndPathsAloneSaid : Prop := fnServerSettingsHangOnPortTLSAndPathsAloneRow.holds Trym.pinned (OpenSpec.ofChange fnServerSettingsHangOnPortTLSAndPathsAloneSpec)

/-- ITS FALSE NEIGHBOUR: 'it returns false'. Refute it at one input. -/
def fnServerSettingsHangOnPortTLSAndPathsAloneWrong : ChangeSpec := { name := "fnServerSettingsHangOnPortTLSAndPathsAlone", fn := fun _ => fun
  | [d1, d2, d3, d4] => { results := [.lit (.bool false)], args := [d1, d2, d3, d4] }
  | _ => none }
def FnServerSettingsHangOnPortTLSAndPathsAloneWrongFalsely : Prop := fnServerSettingsHangOnPortTLSAndPathsAloneRow.holds Trym.pinned (OpenSpec.ofChange fnServerSettingsHangOnPortTLSAndPathsAloneWrong)

/-- 'zzlaws_internal_monitor_b1.FnServerSettingsServeTLSJustWhenConfigured': WHATEVER THE INPUT: true; the input reads as it did. -/
def fnServerSettingsServeTLSJustWhenConfiguredSpec : ChangeSpec := { name := "fnServerSettingsServeTLSJustWhenConfigured", fn := fun _ => fun
  | [d1, d2] => { results := [.lit (.bool true)], args := [d1, d2] }
  | _ => none }
def fnServerSettingsServeTLSJustWhenConfiguredRow : OpenClaim := { program := "qxb6613092amods", sum := "c6ab28cce97605133f57b6800e28e9f99a0562c02dfa183b6273d71bca245d90", func := "example.com/tillerman/tillerman/zzlaws_internal_monitor_b1.FnServerSettingsServeTLSJustWhenConfigured", spec := "fnServerSettingsServeTLSJustWhenConfigured", make := .lifted ["publicsums"], apart := false }
def FnServerSettingsServeTLSJustWhenConfiguredSaid : Prop := fnServerSettingsServeTLSJustWhenConfiguredRow.holds Trym.pinned (OpenSpec.ofChange fnServerSettingsServeTLSJustWhenConfiguredSpec)

/-- ITS FALSE NEIGHBOUR: 'it returns false'. Refute it at one input. -/
def fnServerSettingsServeTLSJustWhenConfiguredWrong : ChangeSpec := { name := "fnServerSettingsServeTLSJustWhenConfigured", fn := fun _ => fun
  | [d1, d2] => { results := [.lit (.bool false)], args := [d1, d2] }
  | _ => none }
def FnServerSettingsServeTLSJustWhenConfiguredWrongFalsely : Prop := fnServerSettingsServeTLSJustWhenConfiguredRow.holds Trym.pinned (OpenSpec.ofChange fnServerSettingsServeTLSJustWhenConfiguredWrong)

/-- 'zzlaws_internal_monitor_b1.FnReceiverHangsJustPastItsStopping': WHATEVER THE INPUT: true; the input reads as it did. -/
def fnReceiverHangsJustPastItsStoppingSpec : ChangeSpec := { name := "fnReceiverHangsJustPastItsStopping", fn := fun _ => fun
  | [d1, d2] => { results := [.lit (.bool true)], args := [d1, d2] }
  | _ => none }
def fnReceiverHangsJustPastItsStoppingRow : OpenClaim := { program := "qxb6613092amods", sum := "c6ab28cce97605133f57b6800e28e9f99a0562c02dfa183b6273d71bca245d90", func := "example.com/tillerman/tillerman/zzlaws_internal_monitor_b1.FnReceiverHangsJustPastItsStopping", spec := "fnReceiverHangsJustPastItsStopping", make := .lifted ["publicsums"], apart := false }
def FnReceiverHangsJustPastItsStoppingSaid : Prop := fnReceiverHangsJustPastItsStoppingRow.holds Trym.pinned (OpenSpec.ofChange fnReceiverHangsJustPastItsStoppingSpec)

/-- ITS FALSE NEIGHBOUR: 'it returns false'. Refute it at one input. -/
def fnReceiverHangsJustPastItsStoppingWrong : ChangeSpec := { name := "fnReceiverHangsJustPastItsStopping", fn := fun _ => fun
  | [d1, d2] => { results := [.lit (.bool false)], args := [d1, d2] }
  | _ => none }
def FnReceiverHangsJustPastItsStoppingWrongFalsely : Prop := fnReceiverHangsJustPastItsStoppingRow.holds Trym.pinned (OpenSpec.ofChange fnReceiverHangsJustPastItsStoppingWrong)

/-- 'zzlaws_internal_monitor_b1.FnReceiverHangsSwapAndOtherFieldsIdle': WHATEVER THE INPUT: true; the input reads as it did. -/
def fnReceiverHangsSwapAndOtherFieldsIdleSpec : ChangeSpec := { name := "fnReceiverHangsSwapAndOtherFieldsIdle", fn := fun _ => fun
  | [d1, d2, d3] => { results := [.lit (.bool true)], args := [d1, d2, d3] }
  | _ => none }
def fnReceiverHangsSwapAndOtherFieldsIdleRow : OpenClaim := { program := "qxb6613092amods", sum := "c6ab28cce97605133f57b6800e28e9f99a0562c02dfa183b6273d71bca245d90", func := "example.com/tillerman/tillerman/zzlaws_internal_monitor_b1.FnReceiverHangsSwapAndOtherFieldsIdle", spec := "fnReceiverHangsSwapAndOtherFieldsIdle", make := .lifted ["publicsums"], apart := false }
def FnReceiverHangsSwapAndOtherFieldsIdleSaid : Prop := fnReceiverHangsSwapAndOtherFieldsIdleRow.holds Trym.pinned (OpenSpec.ofChange fnReceiverHangsSwapAndOtherFieldsIdleSpec)

/-- ITS FALSE NEIGHBOUR: 'it returns false'. Refute it at one input. -/
def fnReceiverHangsSwapAndOtherFieldsIdleWrong : ChangeSpec := { name := "fnReceiverHangsSwapAndOtherFieldsIdle", fn := fun _ => fun
  | [d1, d2, d3] => { results := [.lit (.bool false)], args := [d1, d2, d3] }
  | _ => none }
def FnReceiverHangsSwapAndOtherFieldsIdleWrongFalsely : Prop := fnReceiverHangsSwapAndOtherFieldsIdleRow.holds Trym.pinned (OpenSpec.ofChange fnReceiverHangsSwapAndOtherFieldsIdleWrong)

end Rows
end Go.Proofs.Qxb6613092aMods
