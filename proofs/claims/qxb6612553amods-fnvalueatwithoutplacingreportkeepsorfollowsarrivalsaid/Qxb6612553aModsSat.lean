/-
  THE WALK of zzSatSub (seat b6612553aM).
-/
import Derived.Test.Qxb6612553aModsSub
namespace Go.Proofs.Qxb6612553aMods.Tk
open Go.RowKit Tm
set_option linter.unusedVariables false
set_option linter.unusedSimpArgs false

theorem sat_mid (a b : Int) (h1 : -9223372036854775808 ≤ a) (h2 : a ≤ 9223372036854775807) (h3 : -9223372036854775808 ≤ b) (h4 : b ≤ 9223372036854775807)
    (t : (decide (a < 0) != decide (b < 0) && decide (wrap64 (a - b) < 0) != decide (a < 0)) = false) : wrap64 (a - b) = satD (a - b) := by
  unfold satD wrap64 at *
  rw [Bool.and_eq_false_iff] at t
  simp only [bne_eq_false_iff_eq, decide_eq_decide] at t
  split
  · omega
  · split <;> omega
theorem sat_out (a b : Int) (h1 : -9223372036854775808 ≤ a) (h2 : a ≤ 9223372036854775807) (h3 : -9223372036854775808 ≤ b) (h4 : b ≤ 9223372036854775807)
    (t1 : (decide (a < 0) != decide (b < 0)) = true) (t2 : (decide (wrap64 (a - b) < 0) != decide (a < 0)) = true) : (b < a → 9223372036854775807 = satD (a - b)) ∧ (¬ b < a → -9223372036854775808 = satD (a - b)) := by
  unfold satD wrap64 at *
  simp only [bne_iff_ne, ne_eq, decide_eq_decide] at t1 t2
  constructor
  · intro h
    split
    · rfl
    · split <;> omega
  · intro h
    split
    · omega
    · split <;> omega

/-- 'zzSatSub', the signs known. -/
theorem sat_walk (a b D : Int) (x y z : Bool) (w : World) (hD : wrap64 (a - b) = D) (hx : decide (a < 0) = x) (hy : decide (b < 0) = y) (hz : decide (D < 0) = z) :
    Calls Trym.prog 14 #[.int .i64 a, .int .i64 b] w fun e w' => e = .returned (.int .i64 (if (x != y && z != x) = true then (if b < a then 9223372036854775807 else -9223372036854775808) else D)) ∧ w' = w := by
  cases x <;> cases y <;> cases z <;> by_cases g : b < a
  all_goals
    go_enter Trym.func14, Trym.ntmps14
    go_wp2
    all_goals
      go_ret
      refine ⟨?_, rfl⟩
      first
        | (simp [g, hD]; done)
        | (simp [g, ← hD]; done)

/-- 'zzSatSub'. -/
theorem sat_any (a b : Int) (h1 : -9223372036854775808 ≤ a) (h2 : a ≤ 9223372036854775807) (h3 : -9223372036854775808 ≤ b) (h4 : b ≤ 9223372036854775807) (w : World) :
    Calls Trym.prog 14 #[.int .i64 a, .int .i64 b] w fun e w' => e = .returned (.int .i64 (satD (a - b))) ∧ w' = w := by
  have e : (if (decide (a < 0) != decide (b < 0) && decide (wrap64 (a - b) < 0) != decide (a < 0)) = true then (if b < a then 9223372036854775807 else -9223372036854775808) else wrap64 (a - b)) = satD (a - b) := by
    by_cases t : (decide (a < 0) != decide (b < 0) && decide (wrap64 (a - b) < 0) != decide (a < 0)) = true
    · rw [if_pos t]
      rw [Bool.and_eq_true] at t
      have hh := sat_out a b h1 h2 h3 h4 t.1 t.2
      by_cases g : b < a
      · rw [if_pos g]; exact hh.1 g
      · rw [if_neg g]; exact hh.2 g
    · rw [if_neg t]
      exact sat_mid a b h1 h2 h3 h4 (by simpa using t)
  rw [← e]
  exact sat_walk a b _ _ _ _ w rfl rfl rfl rfl
end Go.Proofs.Qxb6612553aMods.Tk
