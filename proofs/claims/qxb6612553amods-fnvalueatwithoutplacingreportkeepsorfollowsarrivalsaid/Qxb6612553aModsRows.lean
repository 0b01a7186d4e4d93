/-
  No cell of these rows narrows 'for every input' (looked for: loops, veiled, ifaces, maps, wideKeys, modest, calm, conditions, laid).
  DERIVED. THE GIVEN ROWS OF THIS SEAT. 4 by the template 'for every input the law returns true; each argument reads behind the call as it read before'; 0 by the template 'total and deterministic' (their statements: Qxb6612553aModsTotals.lean).
  GIVEN WITH THE SEED: the statements are not yours to turn. If you find one false, say at which input.
  Laid BY PROGRAM, IN A SANDBOX (cutbox-rows.mjs): the forced cells as the released guide's own fill.sh prints them over the translation ae7a337d46d74065… (all of the seat's roots in one cut). By AI agents, Wed Nov 11 2026. No macro, syntax, notation, axiom, sorry.
-/
import Derived.Test.Qxb6612553aModsChecked
import GoSem.Claim
import GoSem.ClaimJoined
import GoSem.ClaimMapViews
import Derived.JoinedTies
import Derived.KernelRfl
namespace Go.Proofs.Qxb6612553aMods
/- THE CELL 'sum', in the pinned program and in every row, IS THE sha256 OF THE DUMP (.gsa) THAT Qxb6612553aModsProg.lean LOADS. Nothing in Lean hashes anything: it is a label: what it is worth is what the hold of that sum in a sandbox is worth. -/
noncomputable def Trym.pinned : Pinned := { name := "qxb6612553amods", sum := "ae7a337d46d74065665f23956e8f9512f2f2318796e18c929695fdbea273cb71", checked := Trym.checked }
namespace Rows
def none {H : Type} : Left H := { results := [], args := [] }

/-- 'zzlaws_mixer_b1.FnSameSourceIsAnEquivalence': WHATEVER THE INPUT: true; the input reads as it did. -/
def fnSameSourceIsAnEquivalenceSpec : ChangeSpec := { name := "fnSameSourceIsAnEquivalence", fn := fun _ => fun
  | [d1, d2, d3, d4, d5, d6, d7, d8, d9] => { results := [.lit (.bool true)], args := [d1, d2, d3, d4, d5, d6, d7, d8, d9] }
  | _ => none }
def fnSameSourceIsAnEquivalenceRow : OpenClaim := { program := "qxb6612553amods", sum := "ae7a337d46d74065665f23956e8f9512f2f2318796e18c929695fdbea273cb71", func := "example.com/splicewire/splicewire/zzlaws_mixer_b1.FnSameSourceIsAnEquivalence", spec := "fnSameSourceIsAnEquivalence", make := .lifted ["publicsums"], apart := false }
def FnSameSourceIsAnEquivalenceSaid : Prop := fnSameSourceIsAnEquivalenceRow.holds Trym.pinned (OpenSpec.ofChange fnSameSourceIsAnEquivalenceSpec)

/-- ITS FALSE NEIGHBOUR: 'it returns false'. Refute it at one input. -/
def fnSameSourceIsAnEquivalenceWrong : ChangeSpec := { name := "fnSameSourceIsAnEquivalence", fn := fun _ => fun
  | [d1, d2, d3, d4, d5, d6, d7, d8, d9] => { results := [.lit (.bool false)], args := [d1, d2, d3, d4, d5, d6, d7, d8, d9] }
  | _ => none }
def FnSameSourceIsAnEquivalenceWrongFalsely : Prop := fnSameSourceIsAnEquivalenceRow.holds Trym.pinned (OpenSpec.ofChange fnSameSourceIsAnEquivalenceWrong)

/-- 'zzlaws_mixer_b1.FnValueAtWithoutPlacingReportKeepsOrFollowsArrival': WHATEVER THE INPUT: true; the input reads as it did. -/
def fnValueAtWithoutPlacingReportKeepsOrFollowsArrivalSpec : ChangeSpec := { name := "fnValueAtWithoutPlacingReportKeepsOrFollowsArrival", fn := fun _ => fun
  | [d1, d2, d3, d4, d5, d6, d7, d8, d9, d10, d11] => { results := [.lit (.bool true)], args := [d1, d2, d3, d4, d5, d6, d7, d8, d9, d10, d11] }
  | _ => none }
def fnValueAtWithoutPlacingReportKeepsOrFollowsArrivalRow : OpenClaim := { program := "qxb6612553amods", sum := "ae7a337d46d74065665f23956e8f9512f2f2318796e18c929695fdbea273cb71", func := "example.com/splicewire/splicewire/zzlaws_mixer_b1.FnValueAtWithoutPlacingReportKeepsOrFollowsArrival", spec := "fnValueAtWithoutPlacingReportKeepsOrFollowsArrival", make := .lifted ["publicsums"], apart := false }
def FnValueAtWithoutPlacingReportKeepsOrFollowsArrivalSaid : Prop := fnValueAtWithoutPlacingReportKeepsOrFollowsArrivalRow.holds Trym.pinned (OpenSpec.ofChange fnValueAtWithoutPlacingReportKeepsOrFollowsArrivalSpec)

/-- ITS FALSE NEIGHBOUR: 'it returns false'. Refute it at one input. -/
def fnValueAtWithoutPlacingReportKeepsOrFollowsArrivalWrong : ChangeSpec := { name := "fnValueAtWithoutPlacingReportKeepsOrFollowsArrival", fn := fun _ => fun
  | [d1, d2, d3, d4, d5, d6, d7, d8, d9, d10, d11] => { results := [.lit (.bool false)], args := [d1, d2, d3, d4, d5, d6, d7, d8, d9, d10, d11] }
  | _ => none }
def FnValueAtWithoutPlacingReportKeepsOrFollowsArrivalWrongFalsely : Prop := fnValueAtWithoutPlacingReportKeepsOrFollowsArrivalRow.holds Trym.pinned (OpenSpec.ofChange fnValueAtWithoutPlacingReportKeepsOrFollowsArrivalWrong)

/-- 'zzlaws_mixer_b1.FnValueAtWithPlacingReportMovesWithOffsetAlone': WHATEVER THE INPUT: true; the input reads as it did. -/
def fnValueAtWithPlacingReportMovesWithOffsetAloneSpec : ChangeSpec := { name := "fnValueAtWithPlacingReportMovesWithOffsetAlone", fn := fun _ => fun
  | [d1, d2, d3, d4, d5, d6, d7, d8, d9, d10, d11, d12] => { results := [.lit (.bool true)], args := [d1, d2, d3, d4, d5, d6, d7, d8, d9, d10, d11, d12] }
  | _ => none }
def fnValueAtWithPlacingReportMovesWithOffsetAloneRow : OpenClaim := { program := "qxb6612553amods", sum := "ae7a337d46d74065665f23956e8f9512f2f2318796e18c929695fdbea273cb71", func := "example.com/splicewire/splicewire/zzlaws_mixer_b1.FnValueAtWithPlacingReportMovesWithOffsetAlone", spec := "fnValueAtWithPlacingReportMovesWithOffsetAlone", make := .lifted ["publicsums"], apart := false }
def FnValueAtWithPlacingReportMovesWithOffsetAloneSaid : Prop := fnValueAtWithPlacingReportMovesWithOffsetAloneRow.holds Trym.pinned (OpenSpec.ofChange fnValueAtWithPlacingReportMovesWithOffsetAloneSpec)

/-- ITS FALSE NEIGHBOUR: 'it returns false'. Refute it at one input. -/
def fnValueAtWithPlacingReportMovesWithOffsetAloneWrong : ChangeSpec := { name := "fnValueAtWithPlacingReportMovesWithOffsetAlone", fn := fun _ => fun
  | [d1, d2, d3, d4, d5, d6, d7, d8, d9, d10, d11, d12] => { results := [.lit (.bool false)], args := [d1, d2, d3, d4, d5, d6, d7, d8, d9, d10, d11, d12] }
  | _ => none }
def FnValueAtWithPlacingReportMovesWithOffsetAloneWrongFalsely : Prop := fnValueAtWithPlacingReportMovesWithOffsetAloneRow.holds Trym.pinned (OpenSpec.ofChange fnValueAtWithPlacingReportMovesWithOffsetAloneWrong)

/-- 'zzlaws_mixer_b1.FnAbandonIsIdempotentAndRecordsTheInterval': WHATEVER THE INPUT: true; the input reads as it did. -/
def fnAbandonIsIdempotentAndRecordsTheIntervalSpec : ChangeSpec := { name := "fnAbandonIsIdempotentAndRecordsTheInterval", fn := fun _ => fun
  | [d1, d2, d3, d4, d5, d6, d7, d8, d9, d10, d11, d12] => { results := [.lit (.bool true)], args := [d1, d2, d3, d4, d5, d6, d7, d8, d9, d10, d11, d12] }
  | _ => none }
def fnAbandonIsIdempotentAndRecordsTheIntervalRow : OpenClaim := { program := "qxb6612553amods", sum := "ae7a337d46d74065665f23956e8f9512f2f2318796e18c929695fdbea273cb71", func := "example.com/splicewire/splicewire/zzlaws_mixer_b1.FnAbandonIsIdempotentAndRecordsTheInterval", spec := "fnAbandonIsIdempotentAndRecordsTheInterval", make := .lifted ["publicsums"], apart := false }
def FnAbandonIsIdempotentAndRecordsTheIntervalSaid : Prop := fnAbandonIsIdempotentAndRecordsTheIntervalRow.holds Trym.pinned (OpenSpec.ofChange fnAbandonIsIdempotentAndRecordsTheIntervalSpec)

/-- ITS FALSE NEIGHBOUR: 'it returns false'. Refute it at one input. -/
def fnAbandonIsIdempotentAndRecordsTheIntervalWrong : ChangeSpec := { name := "fnAbandonIsIdempotentAndRecordsTheInterval", fn := fun _ => fun
  | [d1, d2, d3, d4, d5, d6, d7, d8, d9, d10, d11, d12] => { results := [.lit (.bool false)], args := [d1, d2, d3, d4, d5, d6, d7, d8, d9, d10, d11, d12] }
  | _ => none }
def FnAbandonIsIdempotentAndRecordsTheIntervalWrongFalsely : Prop := fnAbandonIsIdempotentAndRecordsTheIntervalRow.holds Trym.pinned (OpenSpec.ofChange fnAbandonIsIdempotentAndRecordsTheIntervalWrong)

end Rows
end Go.Proofs.Qxb6612553aMods
