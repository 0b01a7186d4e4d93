/-
  THE WALKS of the law FnValueAtWithoutPlacingReportKeepsOrFollowsArrival (seat b6612553aM): timestampAt; valueAt where no report places the packet.
-/
import Derived.Test.Qxb6612553aModsTicks
import Derived.Test.Qxb6612553aModsSat
import Derived.Test.Qxb6612553aModsPlaced
namespace Go.Proofs.Qxb6612553aMods.Va
open Go.RowKit Cl Plain Tm Tk
set_option linter.unusedSimpArgs false
set_option linter.unusedVariables false      -- bounds are laid into the context for the walk's own arithmetic

set_option maxHeartbeats 1000000 in
/-- 'transmission.timestampAt'. -/
theorem tsAt_any (bt : Nat) (tts t u rate : Int) (w : World)
    (k2 : w.cell? ⟨bt, 2, none⟩ = some (.int .u32 tts)) (k3 : w.cell? ⟨bt, 3, none⟩ = some (.int .u64 (u % 1000000000))) (k4 : w.cell? ⟨bt, 4, none⟩ = some (.int .i64 (u / 1000000000))) (k5 : w.cell? ⟨bt, 5, none⟩ = some (.pointer none))
    (h1 : -9223372036854775808 ≤ t) (h2 : t ≤ 9223372036854775807) (h3 : -9223372036854775808 ≤ u) (h4 : u ≤ 9223372036854775807) (r0 : 0 ≤ rate) (r1 : rate ≤ 4294967295) (t0 : 0 ≤ tts) (t1 : tts ≤ 4294967295) :
    Calls Trym.prog 30 #[.pointer (some ⟨bt, 0, none⟩), .agg #[.int .u64 (t % 1000000000), .int .i64 (t / 1000000000), .pointer none], .int .u32 rate] w fun e w' =>
      e = .returned (.int .u32 ((tts + tickF (satD (t - u)) rate) % 4294967296)) ∧ Grown w w' := by
  have hs := sub_any t u h1 h2 h3 h4
  have hsb := satD_bd (t - u)
  generalize satD (t - u) = D at *
  have ht := fun w => ticks_any D rate hsb.1 hsb.2 r0 r1 w
  have htb := tickF_bd D rate
  generalize tickF D rate = T at *
  have HS : Hid _ := hs
  have HT : Hid _ := ht
  clear hs ht
  have hb := World.block_lt_of_cell? w _ k2
  have q1 : bt < w.heap.size + 1 := Nat.lt_succ_of_lt hb
  generalize t % 1000000000 = tn at *
  generalize t / 1000000000 = tx at *
  generalize u % 1000000000 = un at *
  generalize u / 1000000000 = ux at *
  clear h1 h2 h3 h4
  go_enter Trym.func30, Trym.ntmps30
  go_wp2_with fail
  go_region_held3 (fun w' => w'.cell? ⟨bt, 2, none⟩ = some (.int .u32 tts) ∧ w'.cell? ⟨bt, 3, none⟩ = some (.int .u64 un) ∧ w'.cell? ⟨bt, 4, none⟩ = some (.int .i64 ux) ∧ w'.cell? ⟨bt, 5, none⟩ = some (.pointer none) ∧ w'.cell? ⟨w.heap.size, 0, none⟩ = some (.int .u64 tn) ∧ w'.cell? ⟨w.heap.size, 1, none⟩ = some (.int .i64 tx) ∧ w'.cell? ⟨w.heap.size, 2, none⟩ = some (.pointer none) ∧ Grown w w')
    (first
      | (refine ⟨?_, ?_, ?_, ?_, ?_, ?_, ?_, Grown.drew (Grown.alloc (Grown.refl _) _ _)⟩ <;> simp [go_sem, World.cell?_alloc_past, *]; done)
      | (refine ⟨?_, ?_, ?_, ?_, ?_, ?_, ?_, grown_trans (Grown.drew (Grown.alloc (Grown.refl _) _ _)) hg⟩ <;> (refine (grown_cell hg _ ?_).trans ?_) <;> first | (simp [go_sem, World.cell?_alloc_past, *]; done) | (simp [go_sem]; omega))
      | assumption)
    (first
      | (go_at_call 34; refine (HS.out _).mono ?_; rintro e w' ⟨rfl, hg⟩)
      | (go_at_call 31; refine (HT.out _).mono ?_; rintro e w' ⟨rfl, rfl⟩))
  have hG : Grown w w' := grown_trans (Grown.drew (Grown.alloc (Grown.refl _) _ _)) hg
  go_wp2
  go_ret
  exact ⟨Tk.ret_int (IntKind.wrap_u32 _), hG⟩

/-- 'source.ntpAt', whatever the report. -/
theorem srcNtp_gen (b : Nat) (hs : Bool) (ss s ntp rtp ts rate : Int) (w : World) (k1 : w.cell? ⟨b, 1, none⟩ = some (.int .u32 rate)) (k11 : w.cell? ⟨b, 11, none⟩ = some (.int .u32 s)) (k12 : w.cell? ⟨b, 12, none⟩ = some (.int .u64 ntp)) (k13 : w.cell? ⟨b, 13, none⟩ = some (.int .u32 rtp)) (k21 : w.cell? ⟨b, 21, none⟩ = some (.bool hs))
    (h1 : 0 ≤ ts) (h2 : ts ≤ 4294967295) (h3 : 0 ≤ rtp) (h4 : rtp ≤ 4294967295) (h5 : 0 ≤ rate) (h6 : rate ≤ 4294967295) (h7 : 0 ≤ ntp) (h8 : ntp ≤ 18446744073709551615) (p : Bool) (hp : (hs && (s == ss) && !(rate == 0)) = p) :
    Calls Trym.prog 27 #[.pointer (some ⟨b, 0, none⟩), .int .u32 ss, .int .u32 ts] w fun e w' =>
      e = .returned (.tuple #[.int .u64 (cond p (ntpF ntp rtp ts rate) 0), .bool p]) ∧ Grown w w' := by
  cases p with
  | false =>
    refine (srcNtp_no b hs ss s ts rate w k1 k11 k21 hp).mono ?_
    rintro e w' ⟨rfl, rfl⟩
    exact ⟨rfl, Grown.refl _⟩
  | true =>
    rw [Bool.and_eq_true, Bool.and_eq_true] at hp
    obtain ⟨⟨rfl, e2⟩, e3⟩ := hp
    have e2' : s = ss := by simpa using e2
    subst e2'
    have e4 : rate ≠ 0 := by simpa using e3
    refine (srcNtp_yes b s ntp rtp ts rate w k1 k11 k12 k13 k21 h1 h2 h3 h4 (by omega) h6 h7 h8).mono ?_
    rintro e w' ⟨rfl, c1, rfl⟩
    exact ⟨rfl, Grown.drew (Grown.alloc (Grown.refl _) _ _)⟩

/-- Do the kept line and the line by arrival agree? -/
def near (ts off arr rate : Int) : Bool := decide (circ ((ts + off - arr) % 4294967296) ≤ rate / 10)
/-- What 'timeline.valueAt' gives where no report places the packet: z: no packet has gone out yet. -/
def wantF (z : Bool) (ts off arr rate : Int) : Int := bif z then (ts + off) % 4294967296 else bif near ts off arr rate then (ts + off) % 4294967296 else arr
theorem near_iff (ts off arr rate : Int) (h5 : 0 ≤ rate) :
    (wrap64 (wrap32 ((ts + off - arr) % 4294967296)) ≤ rate / 10 ∧ wrap64 (-wrap64 (wrap32 ((ts + off - arr) % 4294967296))) ≤ rate / 10) ↔ near ts off arr rate = true := by
  unfold near circ wrap64 wrap32
  rw [decide_eq_true_iff]
  generalize ts + off - arr = x
  split <;> omega
theorem want_kept {ts off arr rate : Int} (h : near ts off arr rate = true) : (ts + off) % 4294967296 = wantF false ts off arr rate := by
  unfold wantF
  rw [h]
  rfl
theorem want_arr {ts off arr rate : Int} (h : ¬ near ts off arr rate = true) : arr = wantF false ts off arr rate := by
  unfold wantF
  rw [Bool.not_eq_true] at h
  rw [h]
  rfl

set_option maxHeartbeats 2000000 in
/-- 'timeline.valueAt' where no report places the packet and a packet has gone out. -/
theorem valueAt_un (bl bs bt : Nat) (off v ss ts rate tts tn tx un ux arr : Int) (lhs p z : Bool) (w : World)
    (l3 : w.cell? ⟨bl, 3, none⟩ = some (.int .u32 off)) (l7 : w.cell? ⟨bl, 7, none⟩ = some (.bool lhs))
    (k1 : w.cell? ⟨bs, 1, none⟩ = some (.int .u32 rate))
    (o2 : w.cell? ⟨bt, 2, none⟩ = some (.int .u32 tts)) (o3 : w.cell? ⟨bt, 3, none⟩ = some (.int .u64 un)) (o4 : w.cell? ⟨bt, 4, none⟩ = some (.int .i64 ux)) (o5 : w.cell? ⟨bt, 5, none⟩ = some (.pointer none))
    (h1 : 0 ≤ ts) (h2 : ts ≤ 4294967295) (h5 : 0 ≤ rate) (h6 : rate ≤ 4294967295) (g1 : 0 ≤ off) (g2 : off ≤ 4294967295) (a0 : 0 ≤ arr) (a1 : arr ≤ 4294967295)
    (hp : (p && lhs) = false) (hz : (un == 0 && ux == 0) = z)
    (H27 : Hid (∀ w1, Grown w w1 → Calls Trym.prog 27 #[.pointer (some ⟨bs, 0, none⟩), .int .u32 ss, .int .u32 ts] w1 fun e w' => e = .returned (.tuple #[.int .u64 v, .bool p]) ∧ Grown w1 w'))
    (H30 : Hid (∀ w1, Grown w w1 → Calls Trym.prog 30 #[.pointer (some ⟨bt, 0, none⟩), .agg #[.int .u64 tn, .int .i64 tx, .pointer none], .int .u32 rate] w1 fun e w' => e = .returned (.int .u32 arr) ∧ Grown w1 w')) :
    Calls Trym.prog 21 #[.pointer (some ⟨bl, 0, none⟩), .int .u32 ss, .int .u32 ts, .agg #[.int .u64 tn, .int .i64 tx, .pointer none], .pointer (some ⟨bs, 0, none⟩), .pointer (some ⟨bt, 0, none⟩)] w fun e w' =>
      e = .returned (.int .u32 (wantF z ts off arr rate)) ∧ Grown w w' := by
  have hbl := World.block_lt_of_cell? w _ l3
  have hbs := World.block_lt_of_cell? w _ k1
  have hbt := World.block_lt_of_cell? w _ o2
  go_enter Trym.func21, Trym.ntmps21
  go_wp2_with fail
  refine (H27.out _ (Grown.alloc (Grown.refl _) _ _)).mono ?_
  rintro e w1 ⟨rfl, hg⟩
  have hG : Grown w w1 := grown_trans (Grown.alloc (Grown.refl _) _ _) hg
  have m0 : w1.cell? ⟨w.heap.size, 0, none⟩ = some (.int .u64 tn) := by rw [grown_cell hg _ (by simp [go_sem])]; simp [go_sem]
  have m1 : w1.cell? ⟨w.heap.size, 1, none⟩ = some (.int .i64 tx) := by rw [grown_cell hg _ (by simp [go_sem])]; simp [go_sem]
  have m2 : w1.cell? ⟨w.heap.size, 2, none⟩ = some (.pointer none) := by rw [grown_cell hg _ (by simp [go_sem])]; simp [go_sem]
  rw [← grown_cell hG _ hbl] at l3 l7
  rw [← grown_cell hG _ hbs] at k1
  rw [← grown_cell hG _ hbt] at o2 o3 o4 o5
  have hz1 := hg.2.2
  have hws : w.heap.size < w1.heap.size := by simp [go_sem] at hz1; omega
  clear hz1 hg H27
  have hbl1 := World.block_lt_of_cell? w1 _ l3
  have hbs1 := World.block_lt_of_cell? w1 _ k1
  have hbt1 := World.block_lt_of_cell? w1 _ o2
  have HK : Hid _ := near_iff ts off arr rate h5
  have HT : Hid (∀ w, Calls Trym.prog 31 #[.int .i64 100000000, .int .u32 rate] w fun e w' => e = .returned (.int .u32 (rate / 10)) ∧ w' = w) := fun w => by
    have := ticks_any 100000000 rate (by decide) (by decide) h5 h6 w
    rw [tick_ms rate h5 h6] at this
    exact this
  have hl : p = true → lhs = false := by intro h; subst h; simpa using hp
  clear hp
  generalize hbx : w.heap.size = bx at *
  clear hbx
  cases p
  case false =>
    clear hl
    go_wp2_with fail
    refine (isZero_any un ux _).mono ?_
    rintro e w2 ⟨rfl, c1, rfl⟩
    rw [hz]
    cases z
    · go_wp2_with fail
      go_region_held3 (fun w' => w'.cell? ⟨bs, 1, none⟩ = some (.int .u32 rate) ∧ w'.cell? ⟨bx, 0, none⟩ = some (.int .u64 tn) ∧ w'.cell? ⟨bx, 1, none⟩ = some (.int .i64 tx) ∧ w'.cell? ⟨bx, 2, none⟩ = some (.pointer none) ∧ Grown w w')
        (first
          | (refine ⟨?_, ?_, ?_, ?_, Grown.drew (Grown.alloc hG _ _)⟩ <;> simp [go_sem, World.cell?_alloc_past, *]; done)
          | (refine ⟨?_, ?_, ?_, ?_, grown_trans (Grown.drew (Grown.alloc hG _ _)) hg2⟩ <;> (refine (grown_cell hg2 _ ?_).trans ?_) <;> first | (simp [go_sem, World.cell?_alloc_past, *]; done) | (simp [go_sem]; omega))
          | assumption)
        (first
          | (go_at_call 30; refine (H30.out _ (Grown.drew (Grown.alloc hG _ _))).mono ?_; rintro e w' ⟨rfl, hg2⟩))
      have k1' : w'.cell? ⟨bs, 1, none⟩ = some (.int .u32 rate) := (grown_cell hg2 _ (by simp [go_sem]; omega)).trans (by simp [go_sem, *])
      have hG2 : Grown w w' := grown_trans (Grown.drew (Grown.alloc hG _ _)) hg2
      clear hg2 l3 l7 k1 o2 o3 o4 o5 m0 m1 m2 hz
      go_wp2_with (go_at_call 31; refine (HT.out _).mono ?_; rintro e w3 ⟨rfl, rfl⟩)
      all_goals
        go_ret
        refine ⟨Tk.ret_int ?_, hG2⟩
        first
          | (refine want_kept (HK.out.1 ⟨?_, ?_⟩) <;> omega; done)
          | (refine want_arr (fun hc => ?_); have hc2 := HK.out.2 hc; omega)
    · go_wp2
      go_ret
      exact ⟨Tk.ret_int rfl, Grown.alloc hG _ _⟩
  case true =>
    obtain rfl := hl rfl
    clear hl
    go_wp2_with fail
    refine (isZero_any un ux _).mono ?_
    rintro e w2 ⟨rfl, c1, rfl⟩
    rw [hz]
    cases z
    · go_wp2_with fail
      go_region_held3 (fun w' => w'.cell? ⟨bs, 1, none⟩ = some (.int .u32 rate) ∧ w'.cell? ⟨bx, 0, none⟩ = some (.int .u64 tn) ∧ w'.cell? ⟨bx, 1, none⟩ = some (.int .i64 tx) ∧ w'.cell? ⟨bx, 2, none⟩ = some (.pointer none) ∧ Grown w w')
        (first
          | (refine ⟨?_, ?_, ?_, ?_, Grown.drew (Grown.alloc hG _ _)⟩ <;> simp [go_sem, World.cell?_alloc_past, *]; done)
          | (refine ⟨?_, ?_, ?_, ?_, grown_trans (Grown.drew (Grown.alloc hG _ _)) hg2⟩ <;> (refine (grown_cell hg2 _ ?_).trans ?_) <;> first | (simp [go_sem, World.cell?_alloc_past, *]; done) | (simp [go_sem]; omega))
          | assumption)
        (first
          | (go_at_call 30; refine (H30.out _ (Grown.drew (Grown.alloc hG _ _))).mono ?_; rintro e w' ⟨rfl, hg2⟩))
      have k1' : w'.cell? ⟨bs, 1, none⟩ = some (.int .u32 rate) := (grown_cell hg2 _ (by simp [go_sem]; omega)).trans (by simp [go_sem, *])
      have hG2 : Grown w w' := grown_trans (Grown.drew (Grown.alloc hG _ _)) hg2
      clear hg2 l3 l7 k1 o2 o3 o4 o5 m0 m1 m2 hz
      go_wp2_with (go_at_call 31; refine (HT.out _).mono ?_; rintro e w3 ⟨rfl, rfl⟩)
      all_goals
        go_ret
        refine ⟨Tk.ret_int ?_, hG2⟩
        first
          | (refine want_kept (HK.out.1 ⟨?_, ?_⟩) <;> omega; done)
          | (refine want_arr (fun hc => ?_); have hc2 := HK.out.2 hc; omega)
    · go_wp2
      go_ret
      exact ⟨Tk.ret_int rfl, Grown.alloc hG _ _⟩

theorem zero_iff (u : Int) : (u % 1000000000 == 0 && u / 1000000000 == 0) = (u == 0) := by
  rw [Bool.eq_iff_iff]
  simp only [Bool.and_eq_true, beq_iff_eq]
  omega

/-- 'ZZvalueAt' where no report places the packet. -/
theorem zzValueAt_un (bl bs bt : Nat) (off s ss ts rate tts t u : Int) (lhs hs : Bool) (w : World)
    (l3 : w.cell? ⟨bl, 3, none⟩ = some (.int .u32 off)) (l7 : w.cell? ⟨bl, 7, none⟩ = some (.bool lhs))
    (k1 : w.cell? ⟨bs, 1, none⟩ = some (.int .u32 rate)) (k11 : w.cell? ⟨bs, 11, none⟩ = some (.int .u32 s)) (k12 : w.cell? ⟨bs, 12, none⟩ = some (.int .u64 0)) (k13 : w.cell? ⟨bs, 13, none⟩ = some (.int .u32 0)) (k21 : w.cell? ⟨bs, 21, none⟩ = some (.bool hs))
    (o2 : w.cell? ⟨bt, 2, none⟩ = some (.int .u32 tts)) (o3 : w.cell? ⟨bt, 3, none⟩ = some (.int .u64 (u % 1000000000))) (o4 : w.cell? ⟨bt, 4, none⟩ = some (.int .i64 (u / 1000000000))) (o5 : w.cell? ⟨bt, 5, none⟩ = some (.pointer none))
    (h1 : 0 ≤ ts) (h2 : ts ≤ 4294967295) (h5 : 0 ≤ rate) (h6 : rate ≤ 4294967295) (g1 : 0 ≤ off) (g2 : off ≤ 4294967295) (a0 : 0 ≤ tts) (a1 : tts ≤ 4294967295)
    (t0 : -9223372036854775808 ≤ t) (t1 : t ≤ 9223372036854775807) (u0 : -9223372036854775808 ≤ u) (u1 : u ≤ 9223372036854775807)
    (hp : (hs && (s == ss) && !(rate == 0) && lhs) = false) :
    Calls Trym.prog 9 #[.pointer (some ⟨bl, 0, none⟩), .int .u32 ss, .int .u32 ts, .agg #[.int .u64 (t % 1000000000), .int .i64 (t / 1000000000), .pointer none], .pointer (some ⟨bs, 0, none⟩), .pointer (some ⟨bt, 0, none⟩)] w fun e w' =>
      e = .returned (.int .u32 (wantF (u == 0) ts off ((tts + tickF (satD (t - u)) rate) % 4294967296) rate)) ∧ Grown w w' := by
  have hbl := World.block_lt_of_cell? w _ l3
  have hbs := World.block_lt_of_cell? w _ k1
  have hbt := World.block_lt_of_cell? w _ o2
  have hg : Grown w (w.alloc (.cells #[.int .u64 (t % 1000000000), .int .i64 (t / 1000000000), .pointer none] 28)) := Grown.alloc (Grown.refl _) _ _
  have H : Hid (Calls Trym.prog 21 #[.pointer (some ⟨bl, 0, none⟩), .int .u32 ss, .int .u32 ts, .agg #[.int .u64 (t % 1000000000), .int .i64 (t / 1000000000), .pointer none], .pointer (some ⟨bs, 0, none⟩), .pointer (some ⟨bt, 0, none⟩)] (w.alloc (.cells #[.int .u64 (t % 1000000000), .int .i64 (t / 1000000000), .pointer none] 28)) fun e w' =>
      e = .returned (.int .u32 (wantF (u == 0) ts off ((tts + tickF (satD (t - u)) rate) % 4294967296) rate)) ∧ Grown (w.alloc (.cells #[.int .u64 (t % 1000000000), .int .i64 (t / 1000000000), .pointer none] 28)) w') := by
    refine valueAt_un bl bs bt off (cond (hs && (s == ss) && !(rate == 0)) (ntpF 0 0 ts rate) 0) ss ts rate tts (t % 1000000000) (t / 1000000000) (u % 1000000000) (u / 1000000000) ((tts + tickF (satD (t - u)) rate) % 4294967296) lhs (hs && (s == ss) && !(rate == 0)) (u == 0) _
      ((grown_cell hg _ hbl).trans l3) ((grown_cell hg _ hbl).trans l7) ((grown_cell hg _ hbs).trans k1) ((grown_cell hg _ hbt).trans o2) ((grown_cell hg _ hbt).trans o3) ((grown_cell hg _ hbt).trans o4) ((grown_cell hg _ hbt).trans o5)
      h1 h2 h5 h6 g1 g2 (by omega) (by omega) hp (zero_iff u) ?_ ?_
    · intro w1 hw
      have hw2 := grown_trans hg hw
      exact srcNtp_gen bs hs ss s 0 0 ts rate w1 ((grown_cell hw2 _ hbs).trans k1) ((grown_cell hw2 _ hbs).trans k11) ((grown_cell hw2 _ hbs).trans k12) ((grown_cell hw2 _ hbs).trans k13) ((grown_cell hw2 _ hbs).trans k21) h1 h2 (by decide) (by decide) h5 h6 (by decide) (by decide) _ rfl
    · intro w1 hw
      have hw2 := grown_trans hg hw
      exact tsAt_any bt tts t u rate w1 ((grown_cell hw2 _ hbt).trans o2) ((grown_cell hw2 _ hbt).trans o3) ((grown_cell hw2 _ hbt).trans o4) ((grown_cell hw2 _ hbt).trans o5) t0 t1 u0 u1 h5 h6 a0 a1
  clear l3 l7 k1 k11 k12 k13 k21 o2 o3 o4 o5 hp
  generalize wantF (u == 0) ts off ((tts + tickF (satD (t - u)) rate) % 4294967296) rate = R at *
  go_enter Trym.func9, Trym.ntmps9
  go_wp2_with fail
  refine H.out.mono ?_
  rintro e w1 ⟨rfl, hg1⟩
  have hG : Grown w w1 := grown_trans hg hg1
  clear hg1 hg H
  go_wp2
  go_ret
  exact ⟨rfl, hG⟩
end Go.Proofs.Qxb6612553aMods.Va
