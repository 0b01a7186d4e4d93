/-
  THE WALKS of the law FnValueAtWithPlacingReportMovesWithOffsetAlone (seat b6612553aM): the constructors; valueAt where a report places the packet; ZZvalueAt.
-/
import Derived.Test.Qxb6612553aModsClock
namespace Go.Proofs.Qxb6612553aMods.Va
open Go.RowKit Cl
set_option linter.unusedVariables false      -- bounds are laid into the context for the walk's own arithmetic

/-- 'ZZnewTimeline'. -/
theorem newLine_any (ss off : Int) (hs : Bool) (ntp rtp : Int) (w : World) :
    Calls Trym.prog 10 #[.int .u32 ss, .int .u32 off, .bool hs, .int .u64 ntp, .int .u32 rtp] w fun e w' =>
      e = .returned (.pointer (some ⟨w.heap.size, 0, none⟩)) ∧ w' = w.alloc (.cells #[.int .u32 0, .bool true, .int .u32 ss, .int .u32 off, .int .u32 ss, .int .u64 ntp, .int .u32 rtp, .bool hs] 59) := by
  go_enter Trym.func10, Trym.ntmps10
  go_wp2
  go_ret
  exact ⟨rfl, rfl⟩

/-- 'ZZnewTransmission'. -/
theorem newTx_any (ts wa ex : Int) (w : World) :
    Calls Trym.prog 12 #[.int .u32 ts, .agg #[.int .u64 wa, .int .i64 ex, .pointer none]] w fun e w' =>
      e = .returned (.pointer (some ⟨w.heap.size + 1, 0, none⟩)) ∧ ∃ c1 : Array Value, w' = (w.alloc (.cells c1 28)).alloc (.cells #[.int .u32 0, .int .u32 0, .int .u32 ts, .int .u64 wa, .int .i64 ex, .pointer none, .int .u32 0, .int .u32 0] 87) := by
  go_enter Trym.func12, Trym.ntmps12
  go_wp2
  go_ret
  exact ⟨rfl, _, rfl⟩

/-- 'ZZnewSource'. -/
theorem newSrc_any (rate : Int) (hs : Bool) (ss ntp rtp : Int) (w : World) :
    Calls Trym.prog 11 #[.int .u32 rate, .bool hs, .int .u32 ss, .int .u64 ntp, .int .u32 rtp] w fun e w' =>
      e = .returned (.pointer (some ⟨w.heap.size, 0, none⟩)) ∧ ∃ c1 : Array Value, w' = w.alloc (.cells c1 84) ∧ c1[1]? = some (.int .u32 rate) ∧ c1[11]? = some (.int .u32 ss) ∧ c1[12]? = some (.int .u64 ntp) ∧ c1[13]? = some (.int .u32 rtp) ∧ c1[21]? = some (.bool hs) := by
  go_enter Trym.func11, Trym.ntmps11
  go_wp2
  go_ret
  exact ⟨rfl, _, rfl, by simp⟩

set_option maxHeartbeats 1000000 in
/-- 'timeline.valueAt' where the two reports place the packet. -/
theorem valueAt_placed (bl bs bt : Nat) (lss off lntp lrtp ss ntp rtp ts rate wa ex : Int) (w : World)
    (l3 : w.cell? ⟨bl, 3, none⟩ = some (.int .u32 off)) (l4 : w.cell? ⟨bl, 4, none⟩ = some (.int .u32 lss)) (l5 : w.cell? ⟨bl, 5, none⟩ = some (.int .u64 lntp)) (l6 : w.cell? ⟨bl, 6, none⟩ = some (.int .u32 lrtp)) (l7 : w.cell? ⟨bl, 7, none⟩ = some (.bool true))
    (k1 : w.cell? ⟨bs, 1, none⟩ = some (.int .u32 rate)) (k11 : w.cell? ⟨bs, 11, none⟩ = some (.int .u32 ss)) (k12 : w.cell? ⟨bs, 12, none⟩ = some (.int .u64 ntp)) (k13 : w.cell? ⟨bs, 13, none⟩ = some (.int .u32 rtp)) (k21 : w.cell? ⟨bs, 21, none⟩ = some (.bool true))
    (h1 : 0 ≤ ts) (h2 : ts ≤ 4294967295) (h3 : 0 ≤ rtp) (h4 : rtp ≤ 4294967295) (h5 : 0 < rate) (h6 : rate ≤ 4294967295) (h7 : 0 ≤ ntp) (h8 : ntp ≤ 18446744073709551615)
    (g1 : 0 ≤ off) (g2 : off ≤ 4294967295) (g3 : 0 ≤ lrtp) (g4 : lrtp ≤ 4294967295) (g7 : 0 ≤ lntp) (g8 : lntp ≤ 18446744073709551615) :
    Calls Trym.prog 21 #[.pointer (some ⟨bl, 0, none⟩), .int .u32 ss, .int .u32 ts, .agg #[.int .u64 wa, .int .i64 ex, .pointer none], .pointer (some ⟨bs, 0, none⟩), .pointer (some ⟨bt, 0, none⟩)] w fun e w' =>
      e = .returned (.int .u32 ((rtpF lntp lrtp (ntpF ntp rtp ts rate) rate + off) % 4294967296)) ∧ Grown w w' := by
  have hb := World.new_ne w _ l3
  have hb2 := World.new_ne w _ k1
  have hbl := World.block_lt_of_cell? w _ l3
  have hbs := World.block_lt_of_cell? w _ k1
  have q1 : bl < w.heap.size + 1 := Nat.lt_succ_of_lt hbl
  have q2 : bl < w.heap.size + 1 + 1 := Nat.lt_succ_of_lt q1
  have q3 : bs < w.heap.size + 1 := Nat.lt_succ_of_lt hbs
  have q4 : bs < w.heap.size + 1 + 1 := Nat.lt_succ_of_lt q3
  have hn := ntpF_bd ntp rtp ts rate
  generalize hv : ntpF ntp rtp ts rate = v at hn
  have HV : Hid (ntpF ntp rtp ts rate = v) := hv
  clear hv
  have hr := rtpF_bd lntp lrtp v rate
  go_enter Trym.func21, Trym.ntmps21
  go_wp2_with fail
  refine (srcNtp_yes bs ss ntp rtp ts rate _ ?_ ?_ ?_ ?_ ?_ h1 h2 h3 h4 h5 h6 h7 h8).mono ?_
  iterate 5 (simp [go_sem, *])
  rw [HV.out]
  rintro e w1 ⟨rfl, c1, rfl⟩
  go_wp2_with fail
  go_region_held3 (fun w' => w'.cell? ⟨bl, 3, none⟩ = some (.int .u32 off) ∧ w'.cell? ⟨bl, 4, none⟩ = some (.int .u32 lss) ∧ w'.cell? ⟨bl, 5, none⟩ = some (.int .u64 lntp) ∧ w'.cell? ⟨bl, 6, none⟩ = some (.int .u32 lrtp) ∧ w'.cell? ⟨bs, 1, none⟩ = some (.int .u32 rate)) (simp [go_sem, World.cell?_alloc_past, *])
    (first
      | (go_at_call 28; refine (rtpAt_any lss lntp lrtp v rate hn.1 hn.2 g3 g4 h5 h6 g7 g8 _).mono ?_; rintro e w' ⟨rfl, c2, rfl⟩))
  go_wp2
  go_ret
  refine ⟨ret_int rfl, ?_⟩
  repeat (first | with_reducible (refine Grown.drew ?_) | with_reducible (refine Grown.alloc ?_ _ _))
  with_reducible (exact Grown.refl _)

/-- 'ZZvalueAt' where the two reports place the packet. -/
theorem zzValueAt_placed (bl bs bt : Nat) (lss off lntp lrtp ss ntp rtp ts rate wa ex : Int) (w : World)
    (l3 : w.cell? ⟨bl, 3, none⟩ = some (.int .u32 off)) (l4 : w.cell? ⟨bl, 4, none⟩ = some (.int .u32 lss)) (l5 : w.cell? ⟨bl, 5, none⟩ = some (.int .u64 lntp)) (l6 : w.cell? ⟨bl, 6, none⟩ = some (.int .u32 lrtp)) (l7 : w.cell? ⟨bl, 7, none⟩ = some (.bool true))
    (k1 : w.cell? ⟨bs, 1, none⟩ = some (.int .u32 rate)) (k11 : w.cell? ⟨bs, 11, none⟩ = some (.int .u32 ss)) (k12 : w.cell? ⟨bs, 12, none⟩ = some (.int .u64 ntp)) (k13 : w.cell? ⟨bs, 13, none⟩ = some (.int .u32 rtp)) (k21 : w.cell? ⟨bs, 21, none⟩ = some (.bool true))
    (h1 : 0 ≤ ts) (h2 : ts ≤ 4294967295) (h3 : 0 ≤ rtp) (h4 : rtp ≤ 4294967295) (h5 : 0 < rate) (h6 : rate ≤ 4294967295) (h7 : 0 ≤ ntp) (h8 : ntp ≤ 18446744073709551615)
    (g1 : 0 ≤ off) (g2 : off ≤ 4294967295) (g3 : 0 ≤ lrtp) (g4 : lrtp ≤ 4294967295) (g7 : 0 ≤ lntp) (g8 : lntp ≤ 18446744073709551615) :
    Calls Trym.prog 9 #[.pointer (some ⟨bl, 0, none⟩), .int .u32 ss, .int .u32 ts, .agg #[.int .u64 wa, .int .i64 ex, .pointer none], .pointer (some ⟨bs, 0, none⟩), .pointer (some ⟨bt, 0, none⟩)] w fun e w' =>
      e = .returned (.int .u32 ((rtpF lntp lrtp (ntpF ntp rtp ts rate) rate + off) % 4294967296)) ∧ Grown w w' := by
  have hbl := World.block_lt_of_cell? w _ l3
  have hbs := World.block_lt_of_cell? w _ k1
  go_enter Trym.func9, Trym.ntmps9
  go_wp2_with fail
  refine (valueAt_placed bl bs bt lss off lntp lrtp ss ntp rtp ts rate wa ex _ ?_ ?_ ?_ ?_ ?_ ?_ ?_ ?_ ?_ ?_ h1 h2 h3 h4 h5 h6 h7 h8 g1 g2 g3 g4 g7 g8).mono ?_
  iterate 10 (simp [go_sem, *])
  rintro e w1 ⟨rfl, hg⟩
  go_wp2
  go_ret
  exact ⟨ret_int rfl, grown_trans ((Grown.refl _).alloc _ _) hg⟩
end Go.Proofs.Qxb6612553aMods.Va
