/-
  THE WALKS over package time (seat b6612553aM), more: Equal, Before, IsZero, Sub.
-/
import Derived.Test.Qxb6612553aModsTime
import Derived.Test.Qxb6612553aModsWorld
import Derived.Deep.RegionHeld3
namespace Go.Proofs.Qxb6612553aMods.Tm
open Go.RowKit Plain
set_option linter.unusedVariables false      -- bounds are laid into the context for the walk's own arithmetic

/-- Are the two times one? -/
def eqT (n1 s1 n2 s2 : Int) : Bool := s1 == s2 && n1 == n2
/-- Is the first time ahead of the second? -/
def ltT (n1 s1 n2 s2 : Int) : Bool := decide (s1 < s2) || (s1 == s2 && decide (n1 < n2))

/-- '(Time).Equal'. -/
theorem equal_any (n1 s1 n2 s2 : Int) (h1 : 0 ≤ n1) (h2 : n1 < 1000000000) (h3 : 0 ≤ n2) (h4 : n2 < 1000000000) (w : World) :
    Calls Trym.prog 36 #[.agg #[.int .u64 n1, .int .i64 s1, .pointer none], .agg #[.int .u64 n2, .int .i64 s2, .pointer none]] w fun e w' =>
      e = .returned (.bool (eqT n1 s1 n2 s2)) ∧ ∃ c1 c2 : Array Value, w' = (w.alloc (.cells c1 28)).alloc (.cells c2 28) := by
  have b1 := and_and_mono n1 n2 h1 (by omega) h3 (by omega)
  cases hs : (s1 == s2)
  all_goals
    go_enter Trym.func36, Trym.ntmps36
    go_wp2_with (first
      | (go_at_call_of 32 (Value.pointer (some { block := w.heap.size, off := 0 })); refine (sec_any w.heap.size 0 n1 s1 _ (by simp [go_sem]) (by simp [go_sem]) h1 h2).mono ?_; rintro e w' ⟨rfl, rfl⟩)
      | (go_at_call 32; refine (sec_any (w.heap.size + 1) 0 n2 s2 _ (by simp [go_sem]) (by simp [go_sem]) h3 h4).mono ?_; rintro e w' ⟨rfl, rfl⟩)
      | (go_at_call_of 24 (Value.pointer (some { block := w.heap.size, off := 0 })); refine (nsec_any w.heap.size 0 n1 _ (by simp [go_sem]) h1 h2).mono ?_; rintro e w' ⟨rfl, rfl⟩)
      | (go_at_call 24; refine (nsec_any (w.heap.size + 1) 0 n2 _ (by simp [go_sem]) h3 h4).mono ?_; rintro e w' ⟨rfl, rfl⟩))
    go_ret
    exact ⟨by simp [eqT, hs], _, _, rfl⟩

/-- '(Time).Before'. -/
theorem before_any (n1 s1 n2 s2 : Int) (h1 : 0 ≤ n1) (h2 : n1 < 1000000000) (h3 : 0 ≤ n2) (h4 : n2 < 1000000000) (w : World) :
    Calls Trym.prog 37 #[.agg #[.int .u64 n1, .int .i64 s1, .pointer none], .agg #[.int .u64 n2, .int .i64 s2, .pointer none]] w fun e w' =>
      e = .returned (.bool (ltT n1 s1 n2 s2)) ∧ ∃ c1 c2 : Array Value, w' = (w.alloc (.cells c1 28)).alloc (.cells c2 28) := by
  have b1 := and_and_mono n1 n2 h1 (by omega) h3 (by omega)
  cases hl : decide (s1 < s2)
  · cases hs : (s1 == s2)
    all_goals
      go_enter Trym.func37, Trym.ntmps37
      go_wp2_with (first
      | (go_at_call_of 32 (Value.pointer (some { block := w.heap.size, off := 0 })); refine (sec_any w.heap.size 0 n1 s1 _ (by simp [go_sem]) (by simp [go_sem]) h1 h2).mono ?_; rintro e w' ⟨rfl, rfl⟩)
      | (go_at_call 32; refine (sec_any (w.heap.size + 1) 0 n2 s2 _ (by simp [go_sem]) (by simp [go_sem]) h3 h4).mono ?_; rintro e w' ⟨rfl, rfl⟩)
      | (go_at_call_of 24 (Value.pointer (some { block := w.heap.size, off := 0 })); refine (nsec_any w.heap.size 0 n1 _ (by simp [go_sem]) h1 h2).mono ?_; rintro e w' ⟨rfl, rfl⟩)
      | (go_at_call 24; refine (nsec_any (w.heap.size + 1) 0 n2 _ (by simp [go_sem]) h3 h4).mono ?_; rintro e w' ⟨rfl, rfl⟩))
      go_ret
      exact ⟨by simp [ltT, hs, hl], _, _, rfl⟩
  · go_enter Trym.func37, Trym.ntmps37
    go_wp2_with (first
      | (go_at_call_of 32 (Value.pointer (some { block := w.heap.size, off := 0 })); refine (sec_any w.heap.size 0 n1 s1 _ (by simp [go_sem]) (by simp [go_sem]) h1 h2).mono ?_; rintro e w' ⟨rfl, rfl⟩)
      | (go_at_call 32; refine (sec_any (w.heap.size + 1) 0 n2 s2 _ (by simp [go_sem]) (by simp [go_sem]) h3 h4).mono ?_; rintro e w' ⟨rfl, rfl⟩)
      | (go_at_call_of 24 (Value.pointer (some { block := w.heap.size, off := 0 })); refine (nsec_any w.heap.size 0 n1 _ (by simp [go_sem]) h1 h2).mono ?_; rintro e w' ⟨rfl, rfl⟩)
      | (go_at_call 24; refine (nsec_any (w.heap.size + 1) 0 n2 _ (by simp [go_sem]) h3 h4).mono ?_; rintro e w' ⟨rfl, rfl⟩))
    go_ret
    exact ⟨by simp [ltT, hl], _, _, rfl⟩

/-- '(Time).IsZero'. -/
theorem isZero_any (n s : Int) (w : World) :
    Calls Trym.prog 29 #[.agg #[.int .u64 n, .int .i64 s, .pointer none]] w fun e w' =>
      e = .returned (.bool (n == 0 && s == 0)) ∧ ∃ c1 : Array Value, w' = w.alloc (.cells c1 28) := by
  cases hn : (n == 0)
  all_goals
    go_enter Trym.func29, Trym.ntmps29
    go_wp2
    go_ret
    exact ⟨by simp, _, rfl⟩

set_option maxHeartbeats 1000000 in
/-- '(Time).Sub' where the difference fits. -/
theorem sub_mid (n1 s1 n2 s2 d : Int) (h1 : 0 ≤ n1) (h2 : n1 < 1000000000) (h3 : 0 ≤ n2) (h4 : n2 < 1000000000) (k1 : -100000000000 ≤ s1) (k2 : s1 ≤ 100000000000) (k3 : -100000000000 ≤ s2) (k4 : s2 ≤ 100000000000)
    (hd0 : -9223372036854775808 ≤ d) (hd1 : d ≤ 9223372036854775807) (hd : wrap64 (wrap64 ((s1 - s2) * 1000000000) + (n1 - n2)) = d)
    (he : eqT ((n2 + d) % 1000000000) (s2 + (n2 + d) / 1000000000) n1 s1 = true) (w : World) :
    Calls Trym.prog 34 #[.agg #[.int .u64 n1, .int .i64 s1, .pointer none], .agg #[.int .u64 n2, .int .i64 s2, .pointer none]] w fun e w' =>
      e = .returned (.int .i64 d) ∧ Grown w w' := by
  have b1 := and_and_mono n1 n2 h1 (by omega) h3 (by omega)
  go_enter Trym.func34, Trym.ntmps34
  go_wp2_with (first
      | (go_at_call_of 32 (Value.pointer (some { block := w.heap.size, off := 0 })); refine (sec_any w.heap.size 0 n1 s1 _ (by simp [go_sem]) (by simp [go_sem]) h1 h2).mono ?_; rintro e w' ⟨rfl, rfl⟩)
      | (go_at_call 32; refine (sec_any (w.heap.size + 1) 0 n2 s2 _ (by simp [go_sem]) (by simp [go_sem]) h3 h4).mono ?_; rintro e w' ⟨rfl, rfl⟩)
      | (go_at_call_of 24 (Value.pointer (some { block := w.heap.size, off := 0 })); refine (nsec_any w.heap.size 0 n1 _ (by simp [go_sem]) h1 h2).mono ?_; rintro e w' ⟨rfl, rfl⟩)
      | (go_at_call 24; refine (nsec_any (w.heap.size + 1) 0 n2 _ (by simp [go_sem]) h3 h4).mono ?_; rintro e w' ⟨rfl, rfl⟩))
  rw [hd]
  go_region_held3 (fun w' => w'.cell? ⟨w.heap.size, 0, none⟩ = some (.int .u64 n1) ∧ w'.cell? ⟨w.heap.size, 1, none⟩ = some (.int .i64 s1) ∧ w'.cell? ⟨w.heap.size, 2, none⟩ = some (.pointer none) ∧ w'.cell? ⟨w.heap.size + 1, 0, none⟩ = some (.int .u64 n2) ∧ w'.cell? ⟨w.heap.size + 1, 1, none⟩ = some (.int .i64 s2) ∧ w'.cell? ⟨w.heap.size + 1, 2, none⟩ = some (.pointer none)) (simp [go_sem, World.cell?_alloc_past])
    (first
      | (go_at_call 20; refine (add_any n2 s2 d h3 h4 k3 k4 hd0 hd1 _).mono ?_; rintro e w' ⟨rfl, c1, c2, rfl⟩)
      | (go_at_call 36; refine (equal_any ((n2 + d) % 1000000000) (s2 + (n2 + d) / 1000000000) n1 s1 (by omega) (by omega) h1 h2 _).mono ?_; rintro e w' ⟨rfl, c3, c4, rfl⟩))
  go_wp2
  go_ret
  refine ⟨rfl, ?_⟩
  repeat (first | with_reducible (refine Grown.drew ?_) | with_reducible (refine Grown.alloc ?_ _ _))
  with_reducible (exact Grown.refl _)

set_option maxHeartbeats 1000000 in
/-- '(Time).Sub' where the difference does not fit. -/
theorem sub_out (n1 s1 n2 s2 d : Int) (h1 : 0 ≤ n1) (h2 : n1 < 1000000000) (h3 : 0 ≤ n2) (h4 : n2 < 1000000000) (k1 : -100000000000 ≤ s1) (k2 : s1 ≤ 100000000000) (k3 : -100000000000 ≤ s2) (k4 : s2 ≤ 100000000000)
    (hd0 : -9223372036854775808 ≤ d) (hd1 : d ≤ 9223372036854775807) (hd : wrap64 (wrap64 ((s1 - s2) * 1000000000) + (n1 - n2)) = d)
    (he : eqT ((n2 + d) % 1000000000) (s2 + (n2 + d) / 1000000000) n1 s1 = false) (lt : Bool) (hl : ltT n1 s1 n2 s2 = lt) (w : World) :
    Calls Trym.prog 34 #[.agg #[.int .u64 n1, .int .i64 s1, .pointer none], .agg #[.int .u64 n2, .int .i64 s2, .pointer none]] w fun e w' =>
      e = .returned (.int .i64 (cond lt (-9223372036854775808) 9223372036854775807)) ∧ Grown w w' := by
  have b1 := and_and_mono n1 n2 h1 (by omega) h3 (by omega)
  cases lt
  all_goals
    go_enter Trym.func34, Trym.ntmps34
    go_wp2_with (first
        | (go_at_call_of 32 (Value.pointer (some { block := w.heap.size, off := 0 })); refine (sec_any w.heap.size 0 n1 s1 _ (by simp [go_sem]) (by simp [go_sem]) h1 h2).mono ?_; rintro e w' ⟨rfl, rfl⟩)
        | (go_at_call 32; refine (sec_any (w.heap.size + 1) 0 n2 s2 _ (by simp [go_sem]) (by simp [go_sem]) h3 h4).mono ?_; rintro e w' ⟨rfl, rfl⟩)
        | (go_at_call_of 24 (Value.pointer (some { block := w.heap.size, off := 0 })); refine (nsec_any w.heap.size 0 n1 _ (by simp [go_sem]) h1 h2).mono ?_; rintro e w' ⟨rfl, rfl⟩)
        | (go_at_call 24; refine (nsec_any (w.heap.size + 1) 0 n2 _ (by simp [go_sem]) h3 h4).mono ?_; rintro e w' ⟨rfl, rfl⟩))
    rw [hd]
    go_region_held3 (fun w' => w'.cell? ⟨w.heap.size, 0, none⟩ = some (.int .u64 n1) ∧ w'.cell? ⟨w.heap.size, 1, none⟩ = some (.int .i64 s1) ∧ w'.cell? ⟨w.heap.size, 2, none⟩ = some (.pointer none) ∧ w'.cell? ⟨w.heap.size + 1, 0, none⟩ = some (.int .u64 n2) ∧ w'.cell? ⟨w.heap.size + 1, 1, none⟩ = some (.int .i64 s2) ∧ w'.cell? ⟨w.heap.size + 1, 2, none⟩ = some (.pointer none)) (simp [go_sem, World.cell?_alloc_past])
      (first
        | (go_at_call 20; refine (add_any n2 s2 d h3 h4 k3 k4 hd0 hd1 _).mono ?_; rintro e w' ⟨rfl, c1, c2, rfl⟩)
        | (go_at_call 36; refine (equal_any ((n2 + d) % 1000000000) (s2 + (n2 + d) / 1000000000) n1 s1 (by omega) (by omega) h1 h2 _).mono ?_; rintro e w' ⟨rfl, c3, c4, rfl⟩))
    go_wp2_with (go_at_call 37; refine (before_any n1 s1 n2 s2 h1 h2 h3 h4 _).mono ?_; rintro e w' ⟨rfl, c5, c6, rfl⟩)
    go_ret
    refine ⟨rfl, ?_⟩
    repeat (first | with_reducible (refine Grown.drew ?_) | with_reducible (refine Grown.alloc ?_ _ _))
    with_reducible (exact Grown.refl _)

/-- The difference of two times, held at the ends of int64. -/
def satD (D : Int) : Int := if 9223372036854775807 < D then 9223372036854775807 else if D < -9223372036854775808 then -9223372036854775808 else D
theorem satD_bd (D : Int) : -9223372036854775808 ≤ satD D ∧ satD D ≤ 9223372036854775807 := by
  unfold satD
  split
  · omega
  · split <;> omega

/-- '(Time).Sub' of two times that are so many nanoseconds from the zero Time. -/
theorem sub_any (t u : Int) (h1 : -9223372036854775808 ≤ t) (h2 : t ≤ 9223372036854775807) (h3 : -9223372036854775808 ≤ u) (h4 : u ≤ 9223372036854775807) (w : World) :
    Calls Trym.prog 34 #[.agg #[.int .u64 (t % 1000000000), .int .i64 (t / 1000000000), .pointer none], .agg #[.int .u64 (u % 1000000000), .int .i64 (u / 1000000000), .pointer none]] w fun e w' =>
      e = .returned (.int .i64 (satD (t - u))) ∧ Grown w w' := by
  have e : wrap64 (wrap64 ((t / 1000000000 - u / 1000000000) * 1000000000) + (t % 1000000000 - u % 1000000000)) = wrap64 (t - u) := by
    unfold wrap64
    omega
  have hd0 : -9223372036854775808 ≤ wrap64 (t - u) := by unfold wrap64; omega
  have hd1 : wrap64 (t - u) ≤ 9223372036854775807 := by unfold wrap64; omega
  by_cases c1 : 9223372036854775807 < t - u
  · have hs : satD (t - u) = cond false (-9223372036854775808) 9223372036854775807 := by
      unfold satD
      rw [if_pos c1]
      rfl
    rw [hs]
    refine sub_out _ _ _ _ _ (by omega) (by omega) (by omega) (by omega) (by omega) (by omega) (by omega) (by omega) hd0 hd1 e ?_ false ?_ w
    · unfold eqT wrap64
      rw [Bool.and_eq_false_iff, beq_eq_false_iff_ne, beq_eq_false_iff_ne]
      omega
    · unfold ltT
      rw [Bool.or_eq_false_iff, Bool.and_eq_false_iff, beq_eq_false_iff_ne, decide_eq_false_iff_not, decide_eq_false_iff_not]
      omega
  by_cases c2 : t - u < -9223372036854775808
  · have hs : satD (t - u) = cond true (-9223372036854775808) 9223372036854775807 := by
      unfold satD
      rw [if_neg c1, if_pos c2]
      rfl
    rw [hs]
    refine sub_out _ _ _ _ _ (by omega) (by omega) (by omega) (by omega) (by omega) (by omega) (by omega) (by omega) hd0 hd1 e ?_ true ?_ w
    · unfold eqT wrap64
      rw [Bool.and_eq_false_iff, beq_eq_false_iff_ne, beq_eq_false_iff_ne]
      omega
    · unfold ltT
      rw [Bool.or_eq_true, Bool.and_eq_true, beq_iff_eq, decide_eq_true_iff, decide_eq_true_iff]
      omega
  · have hw : wrap64 (t - u) = t - u := by unfold wrap64; omega
    have hs : satD (t - u) = t - u := by
      unfold satD
      rw [if_neg c1, if_neg c2]
    rw [hs]
    rw [hw] at e hd0 hd1
    refine sub_mid _ _ _ _ _ (by omega) (by omega) (by omega) (by omega) (by omega) (by omega) (by omega) (by omega) hd0 hd1 e ?_ w
    unfold eqT
    rw [Bool.and_eq_true, beq_iff_eq, beq_iff_eq]
    omega
end Go.Proofs.Qxb6612553aMods.Tm
