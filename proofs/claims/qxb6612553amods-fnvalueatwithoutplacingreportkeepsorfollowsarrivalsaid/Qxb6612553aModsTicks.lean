/-
  THE WALK of zzTicks (seat b6612553aM): a 128-bit product and a long division bit by bit; and of ticks, zzSatSub, zzCircDist.
-/
import Derived.Test.Qxb6612553aModsProg
import Derived.Test.Qxb6612553aModsTickLaw
import Derived.WalkKit
import Derived.RowKit3
import Derived.WalkSpells
import Derived.WalkLawsBesides
import Derived.Deep.Cut
namespace Go.Proofs.Qxb6612553aMods.Tk
open Go.RowKit Plain
set_option linter.unusedVariables false

set_option maxRecDepth 20000 in
set_option maxHeartbeats 1000000 in
theorem zzTicks_pos_plain (d rate : Int) (h0 : 0 ≤ d) (h1 : d ≤ 9223372036854775807) (r0 : 0 ≤ rate) (r1 : rate ≤ 4294967295) (low mid : Int)
    (hl : IntKind.u64.wrap (bits .and .u64 d 4294967295 * rate) = low) (hm : IntKind.u64.wrap (d / 4294967296 * rate) = mid)
    (g : ¬ IntKind.u64.wrap (low + IntKind.u64.wrap (mid * 4294967296)) < low) (N hi lo : Nat) (hN : Hid (N < 340282366920938463463374607431768211456)) (e1 : IntKind.u64.wrap (low + IntKind.u64.wrap (mid * 4294967296)) = lo) (e2 : mid / 4294967296 = hi)
    (l1 : (lo : Int) ≤ 18446744073709551615) (l2 : (hi : Int) ≤ 18446744073709551615)
    (b1 : Hid (∀ k, k < 64 → hi / 2 ^ (63 - k) % 2 = TB N k)) (b2 : Hid (∀ k, 64 ≤ k → k < 128 → lo / 2 ^ (127 - k) % 2 = TB N k)) (w : World) :
    Calls Trym.prog 13 #[.int .i64 d, .int .u32 rate] w fun e w' => e = .returned (.int .u32 ((TQ N 128 : Int) % 4294967296)) ∧ w' = w := by
  have hd : decide (d < 0) = false := by simpa using h0
  go_enter Trym.func13, Trym.ntmps13
  go_wp2
  go_loop [13, 14, 15] (fun q r i => ∃ k : Nat, k ≤ 128 ∧ i = .int .i64 k ∧ q = .int .u64 (TQ N k : Int) ∧ r = .int .u64 (TR N k : Int)) (fun _ _ i => 128 - (intOf i).toNat)
  case atStart => exact ⟨0, by decide, rfl, by rw [(T_zero N hN.out).2]; rfl, by rw [(T_zero N hN.out).1]; rfl⟩
  case round =>
    obtain ⟨k, hk, rfl, rfl, rfl⟩ := hrel
    clear hl hm g e1 e2
    have q1 : (TQ N k : Int) ≤ 18446744073709551615 := by have := TQ_lt N k; omega
    have q2 : (TR N k : Int) ≤ 999999999 := by have := TR_lt N k; omega
    have q3 : (TB N k : Int) ≤ 1 := by have := TB_lt N k; omega
    by_cases hlt : k < 128
    · have ho := round_rem N k
      by_cases hge : 1000000000 ≤ 2 * (TR N k : Int) + (TB N k : Int)
      · obtain ⟨qq, x1, x2, x3⟩ := round_ge N k hlt hge
        by_cases h64 : k < 64
        · have hb := round_hi N hi k h64 l2 b1.out
          go_wp2
          go_round
          case rel => exact ⟨k + 1, by omega, by go_num, rfl, rfl⟩
          case measure => simp [intOf]; omega
        · have hb := round_lo N lo k (by omega) hlt l1 b2.out
          go_wp2
          go_round
          case rel => exact ⟨k + 1, by omega, by go_num, rfl, rfl⟩
          case measure => simp [intOf]; omega
      · have hx := round_lt N k hlt (by omega)
        obtain ⟨qq, x1⟩ : ∃ qq : Int, IntKind.u64.wrap ((TQ N k : Int) * 2) = qq := ⟨_, rfl⟩
        obtain ⟨rr, x3⟩ : ∃ rr : Int, 2 * (TR N k : Int) + (TB N k : Int) = rr := ⟨_, rfl⟩
        rw [x1, x3] at hx
        rw [x3] at hge
        have HX : Hid (qq = (TQ N (k + 1) : Int) ∧ rr = (TR N (k + 1) : Int)) := hx
        clear hx
        have hlt2 : rr < 1000000000 := by omega
        clear hge
        by_cases h64 : k < 64
        · have hb := round_hi N hi k h64 l2 b1.out
          go_wp2
          go_round
          case rel => exact ⟨k + 1, by omega, by go_num, by rw [HX.out.1], by rw [HX.out.2]⟩
          case measure => simp [intOf]; omega
        · have hb := round_lo N lo k (by omega) hlt l1 b2.out
          go_wp2
          go_round
          case rel => exact ⟨k + 1, by omega, by go_num, by rw [HX.out.1], by rw [HX.out.2]⟩
          case measure => simp [intOf]; omega
    · obtain rfl : k = 128 := by omega
      go_wp2
      go_ret
      exact ⟨rfl, rfl⟩

set_option maxRecDepth 20000 in
set_option maxHeartbeats 1000000 in
theorem zzTicks_pos_carry (d rate : Int) (h0 : 0 ≤ d) (h1 : d ≤ 9223372036854775807) (r0 : 0 ≤ rate) (r1 : rate ≤ 4294967295) (low mid : Int)
    (hl : IntKind.u64.wrap (bits .and .u64 d 4294967295 * rate) = low) (hm : IntKind.u64.wrap (d / 4294967296 * rate) = mid)
    (g : IntKind.u64.wrap (low + IntKind.u64.wrap (mid * 4294967296)) < low) (N hi lo : Nat) (hN : Hid (N < 340282366920938463463374607431768211456)) (e1 : IntKind.u64.wrap (low + IntKind.u64.wrap (mid * 4294967296)) = lo) (e2 : IntKind.u64.wrap (mid / 4294967296 + 1) = hi)
    (l1 : (lo : Int) ≤ 18446744073709551615) (l2 : (hi : Int) ≤ 18446744073709551615)
    (b1 : Hid (∀ k, k < 64 → hi / 2 ^ (63 - k) % 2 = TB N k)) (b2 : Hid (∀ k, 64 ≤ k → k < 128 → lo / 2 ^ (127 - k) % 2 = TB N k)) (w : World) :
    Calls Trym.prog 13 #[.int .i64 d, .int .u32 rate] w fun e w' => e = .returned (.int .u32 ((TQ N 128 : Int) % 4294967296)) ∧ w' = w := by
  have hd : decide (d < 0) = false := by simpa using h0
  go_enter Trym.func13, Trym.ntmps13
  go_wp2
  go_loop [13, 14, 15] (fun q r i => ∃ k : Nat, k ≤ 128 ∧ i = .int .i64 k ∧ q = .int .u64 (TQ N k : Int) ∧ r = .int .u64 (TR N k : Int)) (fun _ _ i => 128 - (intOf i).toNat)
  case atStart => exact ⟨0, by decide, rfl, by rw [(T_zero N hN.out).2]; rfl, by rw [(T_zero N hN.out).1]; rfl⟩
  case round =>
    obtain ⟨k, hk, rfl, rfl, rfl⟩ := hrel
    clear hl hm g e1 e2
    have q1 : (TQ N k : Int) ≤ 18446744073709551615 := by have := TQ_lt N k; omega
    have q2 : (TR N k : Int) ≤ 999999999 := by have := TR_lt N k; omega
    have q3 : (TB N k : Int) ≤ 1 := by have := TB_lt N k; omega
    by_cases hlt : k < 128
    · have ho := round_rem N k
      by_cases hge : 1000000000 ≤ 2 * (TR N k : Int) + (TB N k : Int)
      · obtain ⟨qq, x1, x2, x3⟩ := round_ge N k hlt hge
        by_cases h64 : k < 64
        · have hb := round_hi N hi k h64 l2 b1.out
          go_wp2
          go_round
          case rel => exact ⟨k + 1, by omega, by go_num, rfl, rfl⟩
          case measure => simp [intOf]; omega
        · have hb := round_lo N lo k (by omega) hlt l1 b2.out
          go_wp2
          go_round
          case rel => exact ⟨k + 1, by omega, by go_num, rfl, rfl⟩
          case measure => simp [intOf]; omega
      · have hx := round_lt N k hlt (by omega)
        obtain ⟨qq, x1⟩ : ∃ qq : Int, IntKind.u64.wrap ((TQ N k : Int) * 2) = qq := ⟨_, rfl⟩
        obtain ⟨rr, x3⟩ : ∃ rr : Int, 2 * (TR N k : Int) + (TB N k : Int) = rr := ⟨_, rfl⟩
        rw [x1, x3] at hx
        rw [x3] at hge
        have HX : Hid (qq = (TQ N (k + 1) : Int) ∧ rr = (TR N (k + 1) : Int)) := hx
        clear hx
        have hlt2 : rr < 1000000000 := by omega
        clear hge
        by_cases h64 : k < 64
        · have hb := round_hi N hi k h64 l2 b1.out
          go_wp2
          go_round
          case rel => exact ⟨k + 1, by omega, by go_num, by rw [HX.out.1], by rw [HX.out.2]⟩
          case measure => simp [intOf]; omega
        · have hb := round_lo N lo k (by omega) hlt l1 b2.out
          go_wp2
          go_round
          case rel => exact ⟨k + 1, by omega, by go_num, by rw [HX.out.1], by rw [HX.out.2]⟩
          case measure => simp [intOf]; omega
    · obtain rfl : k = 128 := by omega
      go_wp2
      go_ret
      exact ⟨rfl, rfl⟩

set_option maxRecDepth 20000 in
set_option maxHeartbeats 1000000 in
theorem zzTicks_neg_plain (d rate : Int) (h0 : d < 0) (h1 : -9223372036854775808 ≤ d) (r0 : 0 ≤ rate) (r1 : rate ≤ 4294967295) (low mid : Int)
    (hl : IntKind.u64.wrap (bits .and .u64 (-(d + 1) + 1) 4294967295 * rate) = low) (hm : IntKind.u64.wrap ((-(d + 1) + 1) / 4294967296 * rate) = mid)
    (g : ¬ IntKind.u64.wrap (low + IntKind.u64.wrap (mid * 4294967296)) < low) (N hi lo : Nat) (hN : Hid (N < 340282366920938463463374607431768211456)) (e1 : IntKind.u64.wrap (low + IntKind.u64.wrap (mid * 4294967296)) = lo) (e2 : mid / 4294967296 = hi)
    (l1 : (lo : Int) ≤ 18446744073709551615) (l2 : (hi : Int) ≤ 18446744073709551615)
    (b1 : Hid (∀ k, k < 64 → hi / 2 ^ (63 - k) % 2 = TB N k)) (b2 : Hid (∀ k, 64 ≤ k → k < 128 → lo / 2 ^ (127 - k) % 2 = TB N k)) (w : World) :
    Calls Trym.prog 13 #[.int .i64 d, .int .u32 rate] w fun e w' => e = .returned (.int .u32 (-((TQ N 128 : Int) % 4294967296) % 4294967296)) ∧ w' = w := by
  have hd : decide (d < 0) = true := by simpa using h0
  go_enter Trym.func13, Trym.ntmps13
  go_wp2
  go_loop [13, 14, 15] (fun q r i => ∃ k : Nat, k ≤ 128 ∧ i = .int .i64 k ∧ q = .int .u64 (TQ N k : Int) ∧ r = .int .u64 (TR N k : Int)) (fun _ _ i => 128 - (intOf i).toNat)
  case atStart => exact ⟨0, by decide, rfl, by rw [(T_zero N hN.out).2]; rfl, by rw [(T_zero N hN.out).1]; rfl⟩
  case round =>
    obtain ⟨k, hk, rfl, rfl, rfl⟩ := hrel
    clear hl hm g e1 e2
    have q1 : (TQ N k : Int) ≤ 18446744073709551615 := by have := TQ_lt N k; omega
    have q2 : (TR N k : Int) ≤ 999999999 := by have := TR_lt N k; omega
    have q3 : (TB N k : Int) ≤ 1 := by have := TB_lt N k; omega
    by_cases hlt : k < 128
    · have ho := round_rem N k
      by_cases hge : 1000000000 ≤ 2 * (TR N k : Int) + (TB N k : Int)
      · obtain ⟨qq, x1, x2, x3⟩ := round_ge N k hlt hge
        by_cases h64 : k < 64
        · have hb := round_hi N hi k h64 l2 b1.out
          go_wp2
          go_round
          case rel => exact ⟨k + 1, by omega, by go_num, rfl, rfl⟩
          case measure => simp [intOf]; omega
        · have hb := round_lo N lo k (by omega) hlt l1 b2.out
          go_wp2
          go_round
          case rel => exact ⟨k + 1, by omega, by go_num, rfl, rfl⟩
          case measure => simp [intOf]; omega
      · have hx := round_lt N k hlt (by omega)
        obtain ⟨qq, x1⟩ : ∃ qq : Int, IntKind.u64.wrap ((TQ N k : Int) * 2) = qq := ⟨_, rfl⟩
        obtain ⟨rr, x3⟩ : ∃ rr : Int, 2 * (TR N k : Int) + (TB N k : Int) = rr := ⟨_, rfl⟩
        rw [x1, x3] at hx
        rw [x3] at hge
        have HX : Hid (qq = (TQ N (k + 1) : Int) ∧ rr = (TR N (k + 1) : Int)) := hx
        clear hx
        have hlt2 : rr < 1000000000 := by omega
        clear hge
        by_cases h64 : k < 64
        · have hb := round_hi N hi k h64 l2 b1.out
          go_wp2
          go_round
          case rel => exact ⟨k + 1, by omega, by go_num, by rw [HX.out.1], by rw [HX.out.2]⟩
          case measure => simp [intOf]; omega
        · have hb := round_lo N lo k (by omega) hlt l1 b2.out
          go_wp2
          go_round
          case rel => exact ⟨k + 1, by omega, by go_num, by rw [HX.out.1], by rw [HX.out.2]⟩
          case measure => simp [intOf]; omega
    · obtain rfl : k = 128 := by omega
      go_wp2
      go_ret
      exact ⟨rfl, rfl⟩

set_option maxRecDepth 20000 in
set_option maxHeartbeats 1000000 in
theorem zzTicks_neg_carry (d rate : Int) (h0 : d < 0) (h1 : -9223372036854775808 ≤ d) (r0 : 0 ≤ rate) (r1 : rate ≤ 4294967295) (low mid : Int)
    (hl : IntKind.u64.wrap (bits .and .u64 (-(d + 1) + 1) 4294967295 * rate) = low) (hm : IntKind.u64.wrap ((-(d + 1) + 1) / 4294967296 * rate) = mid)
    (g : IntKind.u64.wrap (low + IntKind.u64.wrap (mid * 4294967296)) < low) (N hi lo : Nat) (hN : Hid (N < 340282366920938463463374607431768211456)) (e1 : IntKind.u64.wrap (low + IntKind.u64.wrap (mid * 4294967296)) = lo) (e2 : IntKind.u64.wrap (mid / 4294967296 + 1) = hi)
    (l1 : (lo : Int) ≤ 18446744073709551615) (l2 : (hi : Int) ≤ 18446744073709551615)
    (b1 : Hid (∀ k, k < 64 → hi / 2 ^ (63 - k) % 2 = TB N k)) (b2 : Hid (∀ k, 64 ≤ k → k < 128 → lo / 2 ^ (127 - k) % 2 = TB N k)) (w : World) :
    Calls Trym.prog 13 #[.int .i64 d, .int .u32 rate] w fun e w' => e = .returned (.int .u32 (-((TQ N 128 : Int) % 4294967296) % 4294967296)) ∧ w' = w := by
  have hd : decide (d < 0) = true := by simpa using h0
  go_enter Trym.func13, Trym.ntmps13
  go_wp2
  go_loop [13, 14, 15] (fun q r i => ∃ k : Nat, k ≤ 128 ∧ i = .int .i64 k ∧ q = .int .u64 (TQ N k : Int) ∧ r = .int .u64 (TR N k : Int)) (fun _ _ i => 128 - (intOf i).toNat)
  case atStart => exact ⟨0, by decide, rfl, by rw [(T_zero N hN.out).2]; rfl, by rw [(T_zero N hN.out).1]; rfl⟩
  case round =>
    obtain ⟨k, hk, rfl, rfl, rfl⟩ := hrel
    clear hl hm g e1 e2
    have q1 : (TQ N k : Int) ≤ 18446744073709551615 := by have := TQ_lt N k; omega
    have q2 : (TR N k : Int) ≤ 999999999 := by have := TR_lt N k; omega
    have q3 : (TB N k : Int) ≤ 1 := by have := TB_lt N k; omega
    by_cases hlt : k < 128
    · have ho := round_rem N k
      by_cases hge : 1000000000 ≤ 2 * (TR N k : Int) + (TB N k : Int)
      · obtain ⟨qq, x1, x2, x3⟩ := round_ge N k hlt hge
        by_cases h64 : k < 64
        · have hb := round_hi N hi k h64 l2 b1.out
          go_wp2
          go_round
          case rel => exact ⟨k + 1, by omega, by go_num, rfl, rfl⟩
          case measure => simp [intOf]; omega
        · have hb := round_lo N lo k (by omega) hlt l1 b2.out
          go_wp2
          go_round
          case rel => exact ⟨k + 1, by omega, by go_num, rfl, rfl⟩
          case measure => simp [intOf]; omega
      · have hx := round_lt N k hlt (by omega)
        obtain ⟨qq, x1⟩ : ∃ qq : Int, IntKind.u64.wrap ((TQ N k : Int) * 2) = qq := ⟨_, rfl⟩
        obtain ⟨rr, x3⟩ : ∃ rr : Int, 2 * (TR N k : Int) + (TB N k : Int) = rr := ⟨_, rfl⟩
        rw [x1, x3] at hx
        rw [x3] at hge
        have HX : Hid (qq = (TQ N (k + 1) : Int) ∧ rr = (TR N (k + 1) : Int)) := hx
        clear hx
        have hlt2 : rr < 1000000000 := by omega
        clear hge
        by_cases h64 : k < 64
        · have hb := round_hi N hi k h64 l2 b1.out
          go_wp2
          go_round
          case rel => exact ⟨k + 1, by omega, by go_num, by rw [HX.out.1], by rw [HX.out.2]⟩
          case measure => simp [intOf]; omega
        · have hb := round_lo N lo k (by omega) hlt l1 b2.out
          go_wp2
          go_round
          case rel => exact ⟨k + 1, by omega, by go_num, by rw [HX.out.1], by rw [HX.out.2]⟩
          case measure => simp [intOf]; omega
    · obtain rfl : k = 128 := by omega
      go_wp2
      go_ret
      exact ⟨rfl, rfl⟩

theorem ret_int {k : IntKind} {a b : Int} (h : a = b) : Ending.returned (.int k a) = .returned (.int k b) := by rw [h]

/-- 'zzTicks'. -/
theorem zzTicks_any (d rate : Int) (h0 : -9223372036854775808 ≤ d) (h1 : d ≤ 9223372036854775807) (r0 : 0 ≤ rate) (r1 : rate ≤ 4294967295) (w : World) :
    Calls Trym.prog 13 #[.int .i64 d, .int .u32 rate] w fun e w' => e = .returned (.int .u32 (tickF d rate)) ∧ w' = w := by
  rcases Int.lt_or_le d 0 with hd | hd
  · obtain ⟨low, hl⟩ : ∃ low, IntKind.u64.wrap (bits .and .u64 (-(d + 1) + 1) 4294967295 * rate) = low := ⟨_, rfl⟩
    obtain ⟨mid, hm⟩ : ∃ mid, IntKind.u64.wrap ((-(d + 1) + 1) / 4294967296 * rate) = mid := ⟨_, rfl⟩
    obtain ⟨e1, e2, e3, e4⟩ := words (-(d + 1) + 1) rate (by omega) (by omega) r0 r1 low mid hl hm
    have hN : ((-(d + 1) + 1) * rate).toNat = (-(d * rate)).toNat := by
      rw [show -(d + 1) + 1 = -d from by omega, Int.neg_mul]
    have hle : d * rate ≤ 0 := Int.mul_nonpos_of_nonpos_of_nonneg (by omega) r0
    have ht : -((TQ ((-(d + 1) + 1) * rate).toNat 128 : Int) % 4294967296) % 4294967296 = tickF d rate := by
      rw [TQ_end, hN]
      unfold tickF
      rw [tdiv_neg_eq _ hle]
      omega
    rw [← ht]
    generalize ((-(d + 1) + 1) * rate).toNat = N at *
    by_cases g : IntKind.u64.wrap (low + IntKind.u64.wrap (mid * 4294967296)) < low
    · exact zzTicks_neg_carry d rate hd h0 r0 r1 low mid hl hm g N (N / 18446744073709551616) (N % 18446744073709551616) e4 e1 (e2 g) (by omega) (by omega) (fun k hk => TB_hi N k hk) (fun k hk hk' => TB_lo N k hk hk') w
    · exact zzTicks_neg_plain d rate hd h0 r0 r1 low mid hl hm g N (N / 18446744073709551616) (N % 18446744073709551616) e4 e1 (e3 g) (by omega) (by omega) (fun k hk => TB_hi N k hk) (fun k hk hk' => TB_lo N k hk hk') w
  · obtain ⟨low, hl⟩ : ∃ low, IntKind.u64.wrap (bits .and .u64 d 4294967295 * rate) = low := ⟨_, rfl⟩
    obtain ⟨mid, hm⟩ : ∃ mid, IntKind.u64.wrap (d / 4294967296 * rate) = mid := ⟨_, rfl⟩
    obtain ⟨e1, e2, e3, e4⟩ := words d rate hd (by omega) r0 r1 low mid hl hm
    have hle : 0 ≤ d * rate := Int.mul_nonneg hd r0
    have ht : (TQ (d * rate).toNat 128 : Int) % 4294967296 = tickF d rate := by
      rw [TQ_end]
      unfold tickF
      rw [Int.tdiv_eq_ediv_of_nonneg hle]
      omega
    rw [← ht]
    generalize (d * rate).toNat = N at *
    by_cases g : IntKind.u64.wrap (low + IntKind.u64.wrap (mid * 4294967296)) < low
    · exact zzTicks_pos_carry d rate hd h1 r0 r1 low mid hl hm g N (N / 18446744073709551616) (N % 18446744073709551616) e4 e1 (e2 g) (by omega) (by omega) (fun k hk => TB_hi N k hk) (fun k hk hk' => TB_lo N k hk hk') w
    · exact zzTicks_pos_plain d rate hd h1 r0 r1 low mid hl hm g N (N / 18446744073709551616) (N % 18446744073709551616) e4 e1 (e3 g) (by omega) (by omega) (fun k hk => TB_hi N k hk) (fun k hk hk' => TB_lo N k hk hk') w

/-- 'ticks'. -/
theorem ticks_any (d rate : Int) (h0 : -9223372036854775808 ≤ d) (h1 : d ≤ 9223372036854775807) (r0 : 0 ≤ rate) (r1 : rate ≤ 4294967295) (w : World) :
    Calls Trym.prog 31 #[.int .i64 d, .int .u32 rate] w fun e w' => e = .returned (.int .u32 (tickF d rate)) ∧ w' = w := by
  have e := tick_parts d rate r0 r1
  rw [← e]
  clear e
  go_enter Trym.func31, Trym.ntmps31
  go_wp2
  go_ret
  exact ⟨ret_int rfl, rfl⟩

/-- How far x lies from 0 around the circle of 2^32 values. -/
def circ (x : Int) : Int := if -x % 4294967296 < x then -x % 4294967296 else x
/-- 'zzCircDist'. -/
theorem circ_any (x : Int) (r0 : 0 ≤ x) (r1 : x ≤ 4294967295) (w : World) :
    Calls Trym.prog 15 #[.int .u32 x] w fun e w' => e = .returned (.int .u32 (circ x)) ∧ w' = w := by
  go_enter Trym.func15, Trym.ntmps15
  go_wp2
  · go_ret
    refine ⟨ret_int ?_, rfl⟩
    unfold circ
    rw [if_pos ‹_›]
  · go_ret
    refine ⟨ret_int ?_, rfl⟩
    unfold circ
    rw [if_neg (Int.not_lt.2 ‹_›)]

end Go.Proofs.Qxb6612553aMods.Tk
