/-
  THE WALKS over package time (seat b6612553aM): Add, ZZtime.
-/
import Derived.Test.Qxb6612553aModsProg
import Derived.Test.Qxb6612553aModsPlain
import Derived.WalkKit
import Derived.RowKit3
import Derived.WalkSpells
namespace Go.Proofs.Qxb6612553aMods.Tm
open Go.RowKit Plain

/-- '(*Time).nsec'. -/
theorem nsec_any (b o : Nat) (m : Int) (w : World) (c0 : w.cell? ⟨b, o, none⟩ = some (.int .u64 m)) (hm0 : 0 ≤ m) (hm1 : m < 1000000000) :
    Calls Trym.prog 24 #[.pointer (some ⟨b, o, none⟩)] w fun e w' => e = .returned (.int .i32 m) ∧ w' = w := by
  have b1 := and_mask m hm0 (by omega)
  go_enter Trym.func24, Trym.ntmps24
  go_wp2
  go_ret
  exact ⟨rfl, rfl⟩

/-- '(*Time).sec' at a wall word without the monotonic bit. -/
theorem sec_any (b o : Nat) (m s : Int) (w : World) (c0 : w.cell? ⟨b, o, none⟩ = some (.int .u64 m)) (c1 : w.cell? ⟨b, o + 1, none⟩ = some (.int .i64 s)) (hm0 : 0 ≤ m) (hm1 : m < 1000000000) :
    Calls Trym.prog 32 #[.pointer (some ⟨b, o, none⟩)] w fun e w' => e = .returned (.int .i64 s) ∧ w' = w := by
  have b4 := and_mono m hm0 (by omega)
  go_enter Trym.func32, Trym.ntmps32
  go_wp2
  go_ret
  exact ⟨rfl, rfl⟩

/-- '(*Time).addSec' at a wall word without the monotonic bit. -/
theorem addSec_any (b o : Nat) (m s D : Int) (w : World) (c0 : w.cell? ⟨b, o, none⟩ = some (.int .u64 m)) (c1 : w.cell? ⟨b, o + 1, none⟩ = some (.int .i64 s))
    (fz : w.frozen? ⟨b, o + 1, none⟩ = false) (hm0 : 0 ≤ m) (hm1 : m < 1000000000) (hs0 : -100000000000 ≤ s) (hs1 : s ≤ 100000000000) (hD0 : -100000000000 ≤ D) (hD1 : D ≤ 100000000000) :
    Calls Trym.prog 25 #[.pointer (some ⟨b, o, none⟩), .int .i64 D] w fun e w' => e = .returned (.tuple #[]) ∧ w' = w.setCell ⟨b, o + 1, none⟩ (.int .i64 (s + D)) := by
  have b4 := and_mono m hm0 (by omega)
  by_cases g2 : 0 < D
  · have g3 : decide (s < s + D) = true := by simp; omega
    go_enter Trym.func25, Trym.ntmps25
    go_wp2
    go_end0
    exact ⟨rfl, rfl⟩
  · have g3 : decide (s < s + D) = false := by simp; omega
    go_enter Trym.func25, Trym.ntmps25
    go_wp2
    go_end0
    exact ⟨rfl, rfl⟩

/-- '(Time).Add' over the quotient and the rest: no carry. -/
theorem add_mid (n s d q r : Int) (hn0 : 0 ≤ n) (hn1 : n < 1000000000) (hs0 : -100000000000 ≤ s) (hs1 : s ≤ 100000000000)
    (hq : d.tdiv 1000000000 = q) (hr : d.tmod 1000000000 = r) (hq0 : -10000000000 ≤ q) (hq1 : q ≤ 10000000000) (hr0 : -1000000000 < r) (hr1 : r < 1000000000)
    (g0 : ¬ 1000000000 ≤ n + r) (g1 : ¬ n + r < 0) (w : World) :
    Calls Trym.prog 20 #[.agg #[.int .u64 n, .int .i64 s, .pointer none], .int .i64 d] w fun e w' =>
      e = .returned (.agg #[.int .u64 (n + r), .int .i64 (s + q), .pointer none]) ∧ ∃ c1 c2 : Array Value, w' = (w.alloc (.cells c1 28)).alloc (.cells c2 28) := by
  have b1 := and_mask n hn0 (by omega)
  have b2 := andNot_mask n hn0 (by omega)
  have b3 := zero_or (n + r) (by omega) (by omega)
  have b4 := and_mono (n + r) (by omega) (by omega)
  go_enter Trym.func20, Trym.ntmps20
  go_wp2_with (first | (go_at_call 24; refine (nsec_any w.heap.size 0 n _ (by simp [go_sem]) hn0 hn1).mono ?_; rintro e w' ⟨rfl, rfl⟩) | (go_at_call 25; refine (addSec_any w.heap.size 0 (n + r) s (q) _ (by simp [go_sem]) (by simp [go_sem]) (by simp [go_sem]) (by omega) (by omega) hs0 hs1 (by omega) (by omega)).mono ?_; rintro e w' ⟨rfl, rfl⟩))
  simp [bodyPost, results, Trym.results20, go_sem]
  exact ⟨_, _, rfl⟩

/-- '(Time).Add' over the quotient and the rest: the nanoseconds come to a second or more. -/
theorem add_up (n s d q r : Int) (hn0 : 0 ≤ n) (hn1 : n < 1000000000) (hs0 : -100000000000 ≤ s) (hs1 : s ≤ 100000000000)
    (hq : d.tdiv 1000000000 = q) (hr : d.tmod 1000000000 = r) (hq0 : -10000000000 ≤ q) (hq1 : q ≤ 10000000000) (hr0 : -1000000000 < r) (hr1 : r < 1000000000)
    (g0 : 1000000000 ≤ n + r) (w : World) :
    Calls Trym.prog 20 #[.agg #[.int .u64 n, .int .i64 s, .pointer none], .int .i64 d] w fun e w' =>
      e = .returned (.agg #[.int .u64 (n + r - 1000000000), .int .i64 (s + (q + 1)), .pointer none]) ∧ ∃ c1 c2 : Array Value, w' = (w.alloc (.cells c1 28)).alloc (.cells c2 28) := by
  have b1 := and_mask n hn0 (by omega)
  have b2 := andNot_mask n hn0 (by omega)
  have b3 := zero_or (n + r - 1000000000) (by omega) (by omega)
  have b4 := and_mono (n + r - 1000000000) (by omega) (by omega)
  go_enter Trym.func20, Trym.ntmps20
  go_wp2_with (first | (go_at_call 24; refine (nsec_any w.heap.size 0 n _ (by simp [go_sem]) hn0 hn1).mono ?_; rintro e w' ⟨rfl, rfl⟩) | (go_at_call 25; refine (addSec_any w.heap.size 0 (n + r - 1000000000) s (q + 1) _ (by simp [go_sem]) (by simp [go_sem]) (by simp [go_sem]) (by omega) (by omega) hs0 hs1 (by omega) (by omega)).mono ?_; rintro e w' ⟨rfl, rfl⟩))
  simp [bodyPost, results, Trym.results20, go_sem]
  exact ⟨_, _, rfl⟩

/-- '(Time).Add' over the quotient and the rest: the nanoseconds fall below 0. -/
theorem add_down (n s d q r : Int) (hn0 : 0 ≤ n) (hn1 : n < 1000000000) (hs0 : -100000000000 ≤ s) (hs1 : s ≤ 100000000000)
    (hq : d.tdiv 1000000000 = q) (hr : d.tmod 1000000000 = r) (hq0 : -10000000000 ≤ q) (hq1 : q ≤ 10000000000) (hr0 : -1000000000 < r) (hr1 : r < 1000000000)
    (g0 : n + r < 0) (w : World) :
    Calls Trym.prog 20 #[.agg #[.int .u64 n, .int .i64 s, .pointer none], .int .i64 d] w fun e w' =>
      e = .returned (.agg #[.int .u64 (n + r + 1000000000), .int .i64 (s + (q - 1)), .pointer none]) ∧ ∃ c1 c2 : Array Value, w' = (w.alloc (.cells c1 28)).alloc (.cells c2 28) := by
  have b1 := and_mask n hn0 (by omega)
  have b2 := andNot_mask n hn0 (by omega)
  have b3 := zero_or (n + r + 1000000000) (by omega) (by omega)
  have b4 := and_mono (n + r + 1000000000) (by omega) (by omega)
  have g1 : ¬ 1000000000 ≤ n + r := by omega
  go_enter Trym.func20, Trym.ntmps20
  go_wp2_with (first | (go_at_call 24; refine (nsec_any w.heap.size 0 n _ (by simp [go_sem]) hn0 hn1).mono ?_; rintro e w' ⟨rfl, rfl⟩) | (go_at_call 25; refine (addSec_any w.heap.size 0 (n + r + 1000000000) s (q - 1) _ (by simp [go_sem]) (by simp [go_sem]) (by simp [go_sem]) (by omega) (by omega) hs0 hs1 (by omega) (by omega)).mono ?_; rintro e w' ⟨rfl, rfl⟩))
  simp [bodyPost, results, Trym.results20, go_sem]
  exact ⟨_, _, rfl⟩

/-- A time's two words moved by d nanoseconds. -/
theorem add_any (n s d : Int) (hn0 : 0 ≤ n) (hn1 : n < 1000000000) (hs0 : -100000000000 ≤ s) (hs1 : s ≤ 100000000000)
    (hd0 : -9223372036854775808 ≤ d) (hd1 : d ≤ 9223372036854775807) (w : World) :
    Calls Trym.prog 20 #[.agg #[.int .u64 n, .int .i64 s, .pointer none], .int .i64 d] w fun e w' =>
      e = .returned (.agg #[.int .u64 ((n + d) % 1000000000), .int .i64 (s + (n + d) / 1000000000), .pointer none]) ∧ ∃ c1 c2 : Array Value, w' = (w.alloc (.cells c1 28)).alloc (.cells c2 28) := by
  obtain ⟨q, hq⟩ : ∃ q, d.tdiv 1000000000 = q := ⟨_, rfl⟩
  obtain ⟨r, hr⟩ : ∃ r, d.tmod 1000000000 = r := ⟨_, rfl⟩
  have e := Int.mul_tdiv_add_tmod d 1000000000
  rw [hq, hr] at e
  have hb : (-1000000000 < r ∧ r < 1000000000) ∧ ((0 ≤ d → 0 ≤ r) ∧ (d ≤ 0 → r ≤ 0)) := by
    rcases Int.le_total 0 d with h | h
    · rw [Int.tmod_eq_emod_of_nonneg h] at hr
      omega
    · have := Int.neg_tmod d 1000000000
      rw [Int.tmod_eq_emod_of_nonneg (a := -d) (by omega)] at this
      omega
  by_cases c1 : 1000000000 ≤ n + r
  · have e1 : (n + d) % 1000000000 = n + r - 1000000000 := by omega
    have e2 : s + (n + d) / 1000000000 = s + (q + 1) := by omega
    rw [e1, e2]
    exact add_up n s d q r hn0 hn1 hs0 hs1 hq hr (by omega) (by omega) hb.1.1 hb.1.2 c1 w
  by_cases c2 : n + r < 0
  · have e1 : (n + d) % 1000000000 = n + r + 1000000000 := by omega
    have e2 : s + (n + d) / 1000000000 = s + (q - 1) := by omega
    rw [e1, e2]
    exact add_down n s d q r hn0 hn1 hs0 hs1 hq hr (by omega) (by omega) hb.1.1 hb.1.2 c2 w
  · have e1 : (n + d) % 1000000000 = n + r := by omega
    have e2 : s + (n + d) / 1000000000 = s + q := by omega
    rw [e1, e2]
    exact add_mid n s d q r hn0 hn1 hs0 hs1 hq hr (by omega) (by omega) hb.1.1 hb.1.2 c1 c2 w

/-- 'ZZtime': the zero Time moved on by ns nanoseconds. -/
theorem zzTime_any (ns : Int) (hd0 : -9223372036854775808 ≤ ns) (hd1 : ns ≤ 9223372036854775807) (w : World) :
    Calls Trym.prog 8 #[.int .i64 ns] w fun e w' =>
      e = .returned (.agg #[.int .u64 (ns % 1000000000), .int .i64 (ns / 1000000000), .pointer none]) ∧ ∃ c1 c2 c3 : Array Value, w' = ((w.alloc (.cells c1 28)).alloc (.cells c2 28)).alloc (.cells c3 28) := by
  have h := fun w => add_any 0 0 ns (by omega) (by omega) (by omega) (by omega) hd0 hd1 w
  simp only [Int.zero_add] at h
  have H : Hid _ := h
  clear h
  go_enter Trym.func8, Trym.ntmps8
  go_wp2_with (go_at_call 20; refine (H.out _).mono ?_; rintro e w' ⟨rfl, c1, c2, rfl⟩)
  simp [bodyPost, results, Trym.results8, go_sem]
  exact ⟨_, _, _, rfl⟩
end Go.Proofs.Qxb6612553aMods.Tm
