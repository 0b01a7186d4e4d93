/-
  THE WALKS over mixer's clock (seat b6612553aM): senderReport.ntpAt, senderReport.rtpAt, source.ntpAt.
-/
import Derived.Test.Qxb6612553aModsProg
import Derived.Test.Qxb6612553aModsWorld
import Derived.WalkKit
import Derived.RowKit3
import Derived.WalkSpells
import Derived.Deep.RegionHeld3
namespace Go.Proofs.Qxb6612553aMods.Cl
open Go.RowKit
set_option linter.unusedVariables false      -- bounds are laid into the context for the walk's own arithmetic

theorem ret_int {k : IntKind} {a b : Int} (h : a = b) : Ending.returned (.int k a) = .returned (.int k b) := by rw [h]

/-- The signed distance in ticks, in units of 2^-32. -/
def units (ts rtp : Int) : Int := wrap64 (wrap64 (wrap32 ((ts - rtp) % 4294967296)) * 4294967296)
/-- What 'senderReport.ntpAt' gives. -/
def ntpF (ntp rtp ts rate : Int) : Int :=
  if (units ts rtp).tmod rate < 0 then IntKind.u64.wrap (ntp + IntKind.u64.wrap (wrap64 (wrap64 ((units ts rtp).tdiv rate) - 1)))
  else IntKind.u64.wrap (ntp + IntKind.u64.wrap (wrap64 ((units ts rtp).tdiv rate)))
theorem ntpF_bd (ntp rtp ts rate : Int) : 0 ≤ ntpF ntp rtp ts rate ∧ ntpF ntp rtp ts rate ≤ 18446744073709551615 := by
  unfold ntpF
  simp only [IntKind.wrap_u64]
  split <;> omega
/-- What 'senderReport.rtpAt' gives. -/
def rtpF (ntp rtp t rate : Int) : Int :=
  (rtp + (wrap64 (IntKind.u64.wrap (t - ntp)) / 4294967296 % 4294967296 * rate + IntKind.u64.wrap (IntKind.u64.wrap (bits BinOp.and IntKind.u64 (IntKind.u64.wrap (wrap64 (IntKind.u64.wrap (t - ntp)))) 4294967295 * rate) + 2147483648) / 4294967296) % 4294967296) % 4294967296
theorem rtpF_bd (ntp rtp t rate : Int) : 0 ≤ rtpF ntp rtp t rate ∧ rtpF ntp rtp t rate ≤ 4294967295 := by
  unfold rtpF
  omega

/-- 'senderReport.ntpAt'. -/
theorem ntpAt_any (ss ntp rtp ts rate : Int) (h1 : 0 ≤ ts) (h2 : ts ≤ 4294967295) (h3 : 0 ≤ rtp) (h4 : rtp ≤ 4294967295) (h5 : 0 < rate) (h6 : rate ≤ 4294967295) (h7 : 0 ≤ ntp) (h8 : ntp ≤ 18446744073709551615) (w : World) :
    Calls Trym.prog 33 #[.agg #[.int .u32 ss, .int .u64 ntp, .int .u32 rtp], .int .u32 ts, .int .u32 rate] w fun e w' =>
      e = .returned (.int .u64 (ntpF ntp rtp ts rate)) ∧ ∃ c1 : Array Value, w' = w.alloc (.cells c1 57) := by
  go_enter Trym.func33, Trym.ntmps33
  go_wp2
  · go_ret
    refine ⟨ret_int ?_, _, rfl⟩
    unfold ntpF units
    rw [if_pos ‹_›]
  · go_ret
    refine ⟨ret_int ?_, _, rfl⟩
    unfold ntpF units
    rw [if_neg (Int.not_lt.2 ‹_›)]

/-- 'senderReport.rtpAt'. -/
theorem rtpAt_any (ss ntp rtp t rate : Int) (h1 : 0 ≤ t) (h2 : t ≤ 18446744073709551615) (h3 : 0 ≤ rtp) (h4 : rtp ≤ 4294967295) (h5 : 0 < rate) (h6 : rate ≤ 4294967295) (h7 : 0 ≤ ntp) (h8 : ntp ≤ 18446744073709551615) (w : World) :
    Calls Trym.prog 28 #[.agg #[.int .u32 ss, .int .u64 ntp, .int .u32 rtp], .int .u64 t, .int .u32 rate] w fun e w' =>
      e = .returned (.int .u32 (rtpF ntp rtp t rate)) ∧ ∃ c1 : Array Value, w' = w.alloc (.cells c1 57) := by
  go_enter Trym.func28, Trym.ntmps28
  go_wp2
  go_ret
  exact ⟨ret_int rfl, _, rfl⟩

set_option maxHeartbeats 1000000 in
/-- 'source.ntpAt' where the report places the packet. -/
theorem srcNtp_yes (b : Nat) (ss ntp rtp ts rate : Int) (w : World) (k1 : w.cell? ⟨b, 1, none⟩ = some (.int .u32 rate)) (k11 : w.cell? ⟨b, 11, none⟩ = some (.int .u32 ss)) (k12 : w.cell? ⟨b, 12, none⟩ = some (.int .u64 ntp)) (k13 : w.cell? ⟨b, 13, none⟩ = some (.int .u32 rtp)) (k21 : w.cell? ⟨b, 21, none⟩ = some (.bool true))
    (h1 : 0 ≤ ts) (h2 : ts ≤ 4294967295) (h3 : 0 ≤ rtp) (h4 : rtp ≤ 4294967295) (h5 : 0 < rate) (h6 : rate ≤ 4294967295) (h7 : 0 ≤ ntp) (h8 : ntp ≤ 18446744073709551615) :
    Calls Trym.prog 27 #[.pointer (some ⟨b, 0, none⟩), .int .u32 ss, .int .u32 ts] w fun e w' =>
      e = .returned (.tuple #[.int .u64 (ntpF ntp rtp ts rate), .bool true]) ∧ ∃ c1 : Array Value, w' = (w.alloc (.cells c1 57)).drew := by
  have hr : (rate == 0) = false := by rw [beq_eq_false_iff_ne]; omega
  have hb := World.new_ne w _ k1
  go_enter Trym.func27, Trym.ntmps27
  go_wp2
  go_region_held3 (fun w' => w'.cell? ⟨b, 1, none⟩ = some (.int .u32 rate) ∧ w'.cell? ⟨b, 11, none⟩ = some (.int .u32 ss) ∧ w'.cell? ⟨b, 12, none⟩ = some (.int .u64 ntp) ∧ w'.cell? ⟨b, 13, none⟩ = some (.int .u32 rtp)) (go_keep)
    (first
      | (go_at_call 33; refine (ntpAt_any ss ntp rtp ts rate h1 h2 h3 h4 h5 h6 h7 h8 _).mono ?_; rintro e w' ⟨rfl, c1, rfl⟩))
  go_wp2

  go_ret2
  exact ⟨rfl, _, rfl⟩

/-- 'source.ntpAt' where no report places the packet. -/
theorem srcNtp_no (b : Nat) (hs : Bool) (ss s ts rate : Int) (w : World) (k1 : w.cell? ⟨b, 1, none⟩ = some (.int .u32 rate)) (k11 : w.cell? ⟨b, 11, none⟩ = some (.int .u32 s)) (k21 : w.cell? ⟨b, 21, none⟩ = some (.bool hs))
    (h : (hs && (s == ss) && !(rate == 0)) = false) :
    Calls Trym.prog 27 #[.pointer (some ⟨b, 0, none⟩), .int .u32 ss, .int .u32 ts] w fun e w' =>
      e = .returned (.tuple #[.int .u64 0, .bool false]) ∧ w' = w := by
  cases hs with
  | false =>
    clear h
    go_enter Trym.func27, Trym.ntmps27
    go_wp2
    go_ret2
    exact ⟨rfl, rfl⟩
  | true =>
    cases h2 : (s == ss) with
    | false =>
      have h3 : (s != ss) = true := by simp [bne, h2]
      clear h
      go_enter Trym.func27, Trym.ntmps27
      go_wp2
      go_ret2
      exact ⟨rfl, rfl⟩
    | true =>
      have h3 : (s != ss) = false := by simp [bne, h2]
      have h4 : (rate == 0) = true := by simpa [h2] using h
      clear h
      go_enter Trym.func27, Trym.ntmps27
      go_wp2
      go_ret2
      exact ⟨rfl, rfl⟩
end Go.Proofs.Qxb6612553aMods.Cl
