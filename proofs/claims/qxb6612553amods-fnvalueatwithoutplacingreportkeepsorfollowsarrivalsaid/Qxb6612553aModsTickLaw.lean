/-
  PLAIN FACTS (no Go function in sight), for the seat b6612553aM: ticks in a span of time, and the long division bit by bit.
-/
import Derived.Test.Qxb6612553aModsPlain
import Derived.RowKit3
namespace Go.Proofs.Qxb6612553aMods.Plain
open Go Go.RowKit

/-- d * rate / 10^9 rounded toward zero, modulo 2^32. -/
def tickF (d rate : Int) : Int := (d * rate).tdiv 1000000000 % 4294967296
theorem tickF_bd (d rate : Int) : 0 ≤ tickF d rate ∧ tickF d rate ≤ 4294967295 := by unfold tickF; omega

theorem tdiv_neg_eq (a : Int) (h : a ≤ 0) : a.tdiv 1000000000 = -((-a) / 1000000000) := by
  have := Int.neg_tdiv (a := -a) (b := 1000000000)
  rw [Int.neg_neg] at this
  rw [this, Int.tdiv_eq_ediv_of_nonneg (by omega)]

/-- 'ticks', as its walk spells it. -/
theorem tick_parts (d rate : Int) (r0 : 0 ≤ rate) (r1 : rate ≤ 4294967295) :
    wrap64 (wrap64 (d.tdiv 1000000000 * rate) + wrap64 ((wrap64 (d.tmod 1000000000 * rate)).tdiv 1000000000)) % 4294967296 = tickF d rate := by
  have e := Int.mul_tdiv_add_tmod d 1000000000
  have hsign : (0 ≤ d → 0 ≤ d.tdiv 1000000000 ∧ 0 ≤ d.tmod 1000000000 ∧ d.tmod 1000000000 ≤ 999999999) ∧ (d < 0 → d.tdiv 1000000000 ≤ 0 ∧ d.tmod 1000000000 ≤ 0 ∧ -999999999 ≤ d.tmod 1000000000) := by
    constructor
    · intro h
      rw [Int.tmod_eq_emod_of_nonneg h, Int.tdiv_eq_ediv_of_nonneg h]
      omega
    · intro h
      have h1 := tdiv_neg_eq d (by omega)
      omega
  generalize d.tdiv 1000000000 = q at *
  generalize d.tmod 1000000000 = r at *
  have hm : d * rate = 1000000000 * (q * rate) + r * rate := by
    rw [← e, Int.add_mul, Int.mul_assoc]
  unfold tickF
  rw [hm]
  rcases Int.lt_or_le d 0 with hd | hd
  · obtain ⟨s1, s2, s3⟩ := hsign.2 hd
    have x0 : q * rate ≤ 0 := Int.mul_nonpos_of_nonpos_of_nonneg s1 r0
    have y0 : r * rate ≤ 0 := Int.mul_nonpos_of_nonpos_of_nonneg s2 r0
    have y1 : -999999999 * 4294967295 ≤ r * rate := by
      have a1 : -999999999 * rate ≤ r * rate := Int.mul_le_mul_of_nonneg_right s3 r0
      have a2 : -999999999 * 4294967295 ≤ -999999999 * rate := by omega
      omega
    generalize q * rate = x at *
    generalize r * rate = y at *
    have w1 : wrap64 y = y := by unfold wrap64; omega
    rw [w1, tdiv_neg_eq y y0, tdiv_neg_eq (1000000000 * x + y) (by omega)]
    unfold wrap64
    omega
  · obtain ⟨s1, s2, s3⟩ := hsign.1 hd
    have x0 : 0 ≤ q * rate := Int.mul_nonneg s1 r0
    have y0 : 0 ≤ r * rate := Int.mul_nonneg s2 r0
    have y1 : r * rate ≤ 999999999 * 4294967295 := by
      have a1 : r * rate ≤ 999999999 * rate := Int.mul_le_mul_of_nonneg_right s3 r0
      have a2 : 999999999 * rate ≤ 999999999 * 4294967295 := by omega
      omega
    generalize q * rate = x at *
    generalize r * rate = y at *
    have w1 : wrap64 y = y := by unfold wrap64; omega
    rw [w1, Int.tdiv_eq_ediv_of_nonneg y0, Int.tdiv_eq_ediv_of_nonneg (by omega)]
    unfold wrap64
    omega

/-- The ticks in 100 ms. -/
theorem tick_ms (rate : Int) (r0 : 0 ≤ rate) (r1 : rate ≤ 4294967295) : tickF 100000000 rate = rate / 10 := by
  unfold tickF
  rw [Int.tdiv_eq_ediv_of_nonneg (by omega)]
  omega

/-! ### The long division: the first k bits of a number of 128 bits -/
def TQ (N k : Nat) : Nat := N / 2 ^ (128 - k) / 1000000000 % 18446744073709551616
def TR (N k : Nat) : Nat := N / 2 ^ (128 - k) % 1000000000
def TB (N k : Nat) : Nat := N / 2 ^ (127 - k) % 2

theorem T_step (N k : Nat) (hk : k < 128) : N / 2 ^ (128 - (k + 1)) = 2 * (N / 2 ^ (128 - k)) + TB N k := by
  unfold TB
  have e : 128 - k = (127 - k) + 1 := by omega
  have e' : 128 - (k + 1) = 127 - k := by omega
  rw [e', e, Nat.pow_succ, ← Nat.div_div_eq_div_mul]
  omega
theorem TB_lt (N k : Nat) : TB N k < 2 := by unfold TB; omega
theorem TR_lt (N k : Nat) : TR N k < 1000000000 := by unfold TR; omega
theorem TQ_lt (N k : Nat) : TQ N k < 18446744073709551616 := by unfold TQ; omega
theorem TR_ge (N k : Nat) (hk : k < 128) (h : 1000000000 ≤ 2 * TR N k + TB N k) : TR N (k + 1) = 2 * TR N k + TB N k - 1000000000 := by
  have := T_step N k hk
  have := TB_lt N k
  unfold TR at *
  omega
theorem TR_lt' (N k : Nat) (hk : k < 128) (h : 2 * TR N k + TB N k < 1000000000) : TR N (k + 1) = 2 * TR N k + TB N k := by
  have := T_step N k hk
  have := TB_lt N k
  unfold TR at *
  omega
theorem TQ_ge (N k : Nat) (hk : k < 128) (h : 1000000000 ≤ 2 * TR N k + TB N k) : TQ N (k + 1) = 2 * TQ N k % 18446744073709551616 + 1 := by
  have := T_step N k hk
  have := TB_lt N k
  unfold TR at h
  unfold TQ
  omega
theorem TQ_lt' (N k : Nat) (hk : k < 128) (h : 2 * TR N k + TB N k < 1000000000) : TQ N (k + 1) = 2 * TQ N k % 18446744073709551616 := by
  have := T_step N k hk
  have := TB_lt N k
  unfold TR at h
  unfold TQ
  omega
theorem T_zero (N : Nat) (h : N < 340282366920938463463374607431768211456) : TR N 0 = 0 ∧ TQ N 0 = 0 := by
  have e : N / 2 ^ (128 - 0) = 0 := by
    apply Nat.div_eq_of_lt
    rw [show (2 ^ (128 - 0) : Nat) = 340282366920938463463374607431768211456 from by decide]
    exact h
  unfold TR TQ
  rw [e]
  exact ⟨rfl, rfl⟩
theorem TQ_end (N : Nat) : TQ N 128 = N / 1000000000 % 18446744073709551616 := by
  unfold TQ
  rw [show (2 ^ (128 - 128) : Nat) = 1 from by decide, Nat.div_one]

/-- The bit in the high word. -/
theorem TB_hi (N k : Nat) (hk : k < 64) : N / 18446744073709551616 / 2 ^ (63 - k) % 2 = TB N k := by
  unfold TB
  rw [Nat.div_div_eq_div_mul, show (18446744073709551616 : Nat) = 2 ^ 64 from by decide, ← Nat.pow_add]
  rw [show 64 + (63 - k) = 127 - k from by omega]
/-- The bit in the low word. -/
theorem TB_lo (N k : Nat) (hk : 64 ≤ k) (hk' : k < 128) : N % 18446744073709551616 / 2 ^ (127 - k) % 2 = TB N k := by
  unfold TB
  have e : (18446744073709551616 : Nat) = 2 ^ (127 - k) * (2 * 2 ^ (k - 64)) := by
    rw [show (18446744073709551616 : Nat) = 2 ^ 64 from by decide, Nat.mul_comm 2, ← Nat.pow_succ, ← Nat.pow_add]
    congr 1
    omega
  rw [e, Nat.mod_mul_right_div_self, Nat.mod_mul_right_mod]

/-- 'x & 1'. -/
theorem and_one (x : Nat) (h : x < 18446744073709551616) : bits .and .u64 (x : Int) 1 = ((x % 2 : Nat) : Int) := by
  have h := bits_and_u64_nat x 1 h (by omega)
  rw [Nat.and_one_is_mod] at h
  exact h
/-- '2x | b'. -/
theorem or_bit (x b : Nat) (h : 2 * x < 18446744073709551616) (hb : b < 2) : bits .or .u64 (2 * (x : Int)) (b : Int) = ((2 * x + b : Nat) : Int) := by
  have h := bits_or_u64_nat (2 * x) b h (by omega)
  have e : 2 * x ||| b = 2 * x + b := by
    have := Nat.two_pow_add_eq_or_of_lt (i := 1) (b := b) (by omega) x
    rw [show (2 ^ 1 : Nat) = 2 from rfl] at this
    omega
  rw [e] at h
  rw [← h]
  simp

/-- 'u & 0xffffffff'. -/
theorem and_low (u : Int) (h0 : 0 ≤ u) (h1 : u < 18446744073709551616) : bits .and .u64 u 4294967295 = u % 4294967296 := by
  obtain ⟨a, rfl⟩ := Int.eq_ofNat_of_zero_le h0
  have h := bits_and_u64_nat a 4294967295 (by omega) (by omega)
  have e : a &&& 4294967295 = a % 4294967296 := by
    have := Nat.and_two_pow_sub_one_eq_mod a 32
    rw [show (2 ^ 32 - 1 : Nat) = 4294967295 from by decide, show (2 ^ 32 : Nat) = 4294967296 from by decide] at this
    exact this
  rw [e] at h
  simpa using h

/-- The 128-bit product: its two words, as the walk spells them. -/
theorem words (u rate : Int) (h0 : 0 ≤ u) (h1 : u < 18446744073709551616) (r0 : 0 ≤ rate) (r1 : rate ≤ 4294967295) (low mid : Int) (hl : IntKind.u64.wrap (bits .and .u64 u 4294967295 * rate) = low) (hm : IntKind.u64.wrap (u / 4294967296 * rate) = mid) :
    IntKind.u64.wrap (low + IntKind.u64.wrap (mid * 4294967296)) = (((u * rate).toNat % 18446744073709551616 : Nat) : Int) ∧
      (IntKind.u64.wrap (low + IntKind.u64.wrap (mid * 4294967296)) < low → IntKind.u64.wrap (mid / 4294967296 + 1) = (((u * rate).toNat / 18446744073709551616 : Nat) : Int)) ∧
      (¬ IntKind.u64.wrap (low + IntKind.u64.wrap (mid * 4294967296)) < low → mid / 4294967296 = (((u * rate).toNat / 18446744073709551616 : Nat) : Int)) ∧ (u * rate).toNat < 340282366920938463463374607431768211456 := by
  rw [and_low u h0 h1] at hl
  simp only [IntKind.wrap_u64] at *
  have e := Int.mul_ediv_add_emod u 4294967296
  have ep : u * rate = 4294967296 * (u / 4294967296 * rate) + u % 4294967296 * rate := by
    conv => lhs; rw [← e]
    rw [Int.add_mul, Int.mul_assoc]
  have p1 : 0 ≤ u % 4294967296 * rate := Int.mul_nonneg (by omega) r0
  have p2 : 0 ≤ u / 4294967296 * rate := Int.mul_nonneg (by omega) r0
  have p3 : u % 4294967296 * rate ≤ 4294967295 * 4294967295 := Int.mul_le_mul (by omega) r1 r0 (by decide)
  have p4 : u / 4294967296 * rate ≤ 4294967295 * 4294967295 := Int.mul_le_mul (by omega) r1 r0 (by decide)
  rw [ep]
  generalize u % 4294967296 * rate = x at *
  generalize u / 4294967296 * rate = y at *
  clear e ep h0 h1 r0 r1
  have e1 : low = x := by omega
  have e2 : mid = y := by omega
  subst e1 e2
  clear hl hm
  have en : ((4294967296 * mid + low).toNat : Int) = 4294967296 * mid + low := Int.toNat_of_nonneg (by omega)
  refine ⟨?_, ?_, ?_, ?_⟩
  · rw [Int.natCast_emod, en]
    omega
  · rw [Int.natCast_ediv, en]
    omega
  · rw [Int.natCast_ediv, en]
    omega
  · omega

/-- One round of the long division, as the walk spells it. -/
theorem round_hi (N hi k : Nat) (hk : k < 64) (l2 : (hi : Int) ≤ 18446744073709551615) (b1 : ∀ k, k < 64 → hi / 2 ^ (63 - k) % 2 = TB N k) : bits .and .u64 ((hi : Int) / 2 ^ (63 - k)) 1 = (TB N k : Int) := by
  have h := and_one (hi / 2 ^ (63 - k)) (Nat.lt_of_le_of_lt (Nat.div_le_self _ _) (by omega))
  rw [b1 k hk] at h
  rw [← h]
  simp
theorem round_lo (N lo k : Nat) (hk : 64 ≤ k) (hk' : k < 128) (l2 : (lo : Int) ≤ 18446744073709551615) (b2 : ∀ k, 64 ≤ k → k < 128 → lo / 2 ^ (127 - k) % 2 = TB N k) : bits .and .u64 ((lo : Int) / 2 ^ (127 - k)) 1 = (TB N k : Int) := by
  have h := and_one (lo / 2 ^ (127 - k)) (Nat.lt_of_le_of_lt (Nat.div_le_self _ _) (by omega))
  rw [b2 k hk hk'] at h
  rw [← h]
  simp
theorem round_rem (N k : Nat) : bits .or .u64 ((TR N k : Int) * 2) (TB N k : Int) = 2 * (TR N k : Int) + (TB N k : Int) := by
  have h := or_bit (TR N k) (TB N k) (by have := TR_lt N k; omega) (TB_lt N k)
  rw [Int.mul_comm (TR N k : Int) 2, h]
  simp
theorem round_ge (N k : Nat) (hk : k < 128) (h : 1000000000 ≤ 2 * (TR N k : Int) + (TB N k : Int)) :
    ∃ q2 : Int, IntKind.u64.wrap ((TQ N k : Int) * 2) = q2 ∧ bits .or .u64 q2 1 = (TQ N (k + 1) : Int) ∧ 2 * (TR N k : Int) + (TB N k : Int) - 1000000000 = (TR N (k + 1) : Int) := by
  refine ⟨_, rfl, ?_, ?_⟩
  · rw [TQ_ge N k hk (by omega)]
    have e : IntKind.u64.wrap ((TQ N k : Int) * 2) = 2 * ((TQ N k % 9223372036854775808 : Nat) : Int) := by
      rw [IntKind.wrap_u64]
      omega
    rw [e]
    have h1 := or_bit (TQ N k % 9223372036854775808) 1 (by omega) (by omega)
    refine Eq.trans h1 ?_
    omega
  · rw [TR_ge N k hk (by omega)]
    omega
theorem round_lt (N k : Nat) (hk : k < 128) (h : 2 * (TR N k : Int) + (TB N k : Int) < 1000000000) :
    IntKind.u64.wrap ((TQ N k : Int) * 2) = (TQ N (k + 1) : Int) ∧ 2 * (TR N k : Int) + (TB N k : Int) = (TR N (k + 1) : Int) := by
  refine ⟨?_, ?_⟩
  · rw [TQ_lt' N k hk (by omega), IntKind.wrap_u64]
    omega
  · rw [TR_lt' N k hk (by omega)]
    omega
end Go.Proofs.Qxb6612553aMods.Plain
