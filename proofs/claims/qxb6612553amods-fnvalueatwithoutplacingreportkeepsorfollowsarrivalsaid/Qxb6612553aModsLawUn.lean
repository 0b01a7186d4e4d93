/-
  THE LAW's WALKS (seat b6612553aM, FnValueAtWithoutPlacingReportKeepsOrFollowsArrival), one for each way through its first test.
-/
import Derived.Test.Qxb6612553aModsUnplaced
namespace Go.Proofs.Qxb6612553aMods.fnValueAtWithoutPlacingReportKeepsOrFollowsArrival
open Go.RowKit Va Plain Tm Tk
set_option linter.unusedVariables false
set_option linter.unusedSimpArgs false

/-- The law where both reports place the packet: it says nothing. -/
theorem walk_placed (a0 a1 a3 a4 a5 a6 a8 a9 a10 : Int) (h1 : (a8 == a3) = true) (h2 : (a6 != 0) = true) (w : World) :
    Calls Trym.prog 4 #[.int .u32 a0, .int .u32 a1, .bool true, .int .u32 a3, .int .u32 a4, .int .i64 a5, .int .u32 a6, .bool true, .int .u32 a8, .int .u32 a9, .int .i64 a10] w fun e w' => e = .returned (.bool true) ∧ Grown w w' := by
  go_enter Trym.func4, Trym.ntmps4
  go_wp2
  go_ret
  exact ⟨rfl, Grown.refl _⟩

set_option maxRecDepth 100000 in
set_option maxHeartbeats 4000000 in
/-- The law where the line has no report. -/
theorem walk_c1 (a0 a1 a3 a4 a5 a6 : Int) (a7 : Bool) (a8 a9 a10 V : Int)
    (h1 : 0 ≤ a1) (h1' : a1 ≤ 4294967295) (h4 : 0 ≤ a4) (h4' : a4 ≤ 4294967295) (h5 : -9223372036854775808 ≤ a5) (h5' : a5 ≤ 9223372036854775807) (h6 : 0 ≤ a6) (h6' : a6 ≤ 4294967295) (h9 : 0 ≤ a9) (h9' : a9 ≤ 4294967295) (h10 : -9223372036854775808 ≤ a10) (h10' : a10 ≤ 9223372036854775807)
    (HA : Hid (∀ (bl bs bt : Nat) (w : World), w.cell? ⟨bl, 3, none⟩ = some (.int .u32 a1) → w.cell? ⟨bl, 7, none⟩ = some (.bool false) → w.cell? ⟨bs, 1, none⟩ = some (.int .u32 a6) → w.cell? ⟨bs, 11, none⟩ = some (.int .u32 a8) → w.cell? ⟨bs, 12, none⟩ = some (.int .u64 0) → w.cell? ⟨bs, 13, none⟩ = some (.int .u32 0) → w.cell? ⟨bs, 21, none⟩ = some (.bool a7) → w.cell? ⟨bt, 2, none⟩ = some (.int .u32 a9) → w.cell? ⟨bt, 3, none⟩ = some (.int .u64 (a10 % 1000000000)) → w.cell? ⟨bt, 4, none⟩ = some (.int .i64 (a10 / 1000000000)) → w.cell? ⟨bt, 5, none⟩ = some (.pointer none) →
      Calls Trym.prog 9 #[.pointer (some ⟨bl, 0, none⟩), .int .u32 a3, .int .u32 a4, .agg #[.int .u64 (a5 % 1000000000), .int .i64 (a5 / 1000000000), .pointer none], .pointer (some ⟨bs, 0, none⟩), .pointer (some ⟨bt, 0, none⟩)] w fun e w' => e = .returned (.int .u32 V) ∧ Grown w w'))
    (HB : Hid (∀ (bl bs bt : Nat) (w : World), w.cell? ⟨bl, 3, none⟩ = some (.int .u32 0) → w.cell? ⟨bl, 7, none⟩ = some (.bool false) → w.cell? ⟨bs, 1, none⟩ = some (.int .u32 a6) → w.cell? ⟨bs, 11, none⟩ = some (.int .u32 a8) → w.cell? ⟨bs, 12, none⟩ = some (.int .u64 0) → w.cell? ⟨bs, 13, none⟩ = some (.int .u32 0) → w.cell? ⟨bs, 21, none⟩ = some (.bool a7) → w.cell? ⟨bt, 2, none⟩ = some (.int .u32 a9) → w.cell? ⟨bt, 3, none⟩ = some (.int .u64 (a10 % 1000000000)) → w.cell? ⟨bt, 4, none⟩ = some (.int .i64 (a10 / 1000000000)) → w.cell? ⟨bt, 5, none⟩ = some (.pointer none) →
      Calls Trym.prog 9 #[.pointer (some ⟨bl, 0, none⟩), .int .u32 a3, .int .u32 ((a4 + a1) % 4294967296), .agg #[.int .u64 (a5 % 1000000000), .int .i64 (a5 / 1000000000), .pointer none], .pointer (some ⟨bs, 0, none⟩), .pointer (some ⟨bt, 0, none⟩)] w fun e w' => e = .returned (.int .u32 V) ∧ Grown w w'))
    (D T arr C : Int) (harr : (a9 + T) % 4294967296 = arr) (b0 : 0 ≤ T) (b1 : T ≤ 4294967295) (b2 : 0 ≤ arr) (b3 : arr ≤ 4294967295)
    (H14 : Hid (∀ w, Calls Trym.prog 14 #[.int .i64 a5, .int .i64 a10] w fun e w' => e = .returned (.int .i64 D) ∧ w' = w))
    (H13 : Hid (∀ w, Calls Trym.prog 13 #[.int .i64 D, .int .u32 a6] w fun e w' => e = .returned (.int .u32 T) ∧ w' = w))
    (H15 : Hid (∀ w, Calls Trym.prog 15 #[.int .u32 ((a4 + a1 - arr) % 4294967296)] w fun e w' => e = .returned (.int .u32 C) ∧ w' = w))
    (E : Hid (((a10 != 0) = false ∧ (a4 + a1) % 4294967296 = V) ∨ ((a10 != 0) = true ∧ (¬ a6 / 10 < C) ∧ (a4 + a1) % 4294967296 = V) ∨ ((a10 != 0) = true ∧ a6 / 10 < C ∧ arr = V)))
    (w : World) :
    Calls Trym.prog 4 #[.int .u32 a0, .int .u32 a1, .bool false, .int .u32 a3, .int .u32 a4, .int .i64 a5, .int .u32 a6, .bool a7, .int .u32 a8, .int .u32 a9, .int .i64 a10] w fun e w' => e = .returned (.bool true) ∧ Grown w w' := by
  go_enter Trym.func4, Trym.ntmps4
  go_wp2_with (go_at_call 8; first | (refine (zzTime_any a5 h5 h5' _).mono ?_; rintro e w' ⟨rfl, c1, c2, c3, rfl⟩) | (refine (zzTime_any a10 h10 h10' _).mono ?_; rintro e w' ⟨rfl, c4, c5, c6, rfl⟩))
  go_region_held3 (fun w' => w'.cell? ⟨(w.heap.size + 1 + 1 + 1), 0, none⟩ = some (.int .u64 (a5 % 1000000000)) ∧ w'.cell? ⟨(w.heap.size + 1 + 1 + 1), 1, none⟩ = some (.int .i64 (a5 / 1000000000)) ∧ w'.cell? ⟨(w.heap.size + 1 + 1 + 1), 2, none⟩ = some (.pointer none) ∧ w'.cell? ⟨(w.heap.size + 1 + 1 + 1 + 1 + 1 + 1 + 1), 0, none⟩ = some (.int .u64 (a10 % 1000000000)) ∧ w'.cell? ⟨(w.heap.size + 1 + 1 + 1 + 1 + 1 + 1 + 1), 1, none⟩ = some (.int .i64 (a10 / 1000000000)) ∧ w'.cell? ⟨(w.heap.size + 1 + 1 + 1 + 1 + 1 + 1 + 1), 2, none⟩ = some (.pointer none))
    (first
      | (simp [go_sem, World.cell?_alloc_past, *]; done)
      | (refine ⟨?_, ?_, ?_, ?_, ?_, ?_⟩ <;> (refine (grown_cell hg1 _ ?_).trans ?_) <;> first | (simp [go_sem, World.cell?_alloc_past, *]; done) | (simp [go_sem]; omega)))
    (first
      | (go_at_call 10; refine (newLine_any a0 a1 false 0 0 _).mono ?_; rintro e w' ⟨rfl, rfl⟩)
      | (go_at_call 11; refine (newSrc_any a6 a7 a8 0 0 _).mono ?_; rintro e w' ⟨rfl, d1, rfl, s1, s11, s12, s13, s21⟩)
      | (go_at_call 12; refine (newTx_any a9 (a10 % 1000000000) (a10 / 1000000000) _).mono ?_; rintro e w' ⟨rfl, e1, rfl⟩)
      | (go_at_call 9; refine (HA.out (w.heap.size + 1 + 1 + 1 + 1 + 1 + 1 + 1 + 1) (w.heap.size + 1 + 1 + 1 + 1 + 1 + 1 + 1 + 1 + 1) (w.heap.size + 1 + 1 + 1 + 1 + 1 + 1 + 1 + 1 + 1 + 1 + 1) _ (by simp [go_sem, *]) (by simp [go_sem, *]) (by simp [go_sem, *]) (by simp [go_sem, *]) (by simp [go_sem, *]) (by simp [go_sem, *]) (by simp [go_sem, *]) (by simp [go_sem, *]) (by simp [go_sem, *]) (by simp [go_sem, *]) (by simp [go_sem, *])).mono ?_; rintro e W1 ⟨rfl, hg1⟩))
  have hG1 : Grown w W1 := by
    refine grown_trans ?_ hg1
    repeat (first | with_reducible (refine Grown.drew ?_) | with_reducible (refine Grown.alloc ?_ _ _))
    with_reducible (exact Grown.refl _)
  have hS1 : W1.cell? ⟨(w.heap.size + 1 + 1 + 1), 0, none⟩ = some (.int .u64 (a5 % 1000000000)) ∧ W1.cell? ⟨(w.heap.size + 1 + 1 + 1), 1, none⟩ = some (.int .i64 (a5 / 1000000000)) ∧ W1.cell? ⟨(w.heap.size + 1 + 1 + 1), 2, none⟩ = some (.pointer none) ∧ W1.cell? ⟨(w.heap.size + 1 + 1 + 1 + 1 + 1 + 1 + 1), 0, none⟩ = some (.int .u64 (a10 % 1000000000)) ∧ W1.cell? ⟨(w.heap.size + 1 + 1 + 1 + 1 + 1 + 1 + 1), 1, none⟩ = some (.int .i64 (a10 / 1000000000)) ∧ W1.cell? ⟨(w.heap.size + 1 + 1 + 1 + 1 + 1 + 1 + 1), 2, none⟩ = some (.pointer none) := by assumption
  clear hg1 s1 s11 s12 s13 s21
  generalize (w.heap.size + 1 + 1 + 1 + 1 + 1 + 1 + 1) = bo at *
  generalize (w.heap.size + 1 + 1 + 1) = ba at *
  obtain ⟨m0, m1, m2, m3, m4, m5⟩ := hS1
  have hba := World.block_lt_of_cell? W1 _ m0
  have hbo := World.block_lt_of_cell? W1 _ m3
  have q1 : ba < W1.heap.size + 1 := Nat.lt_succ_of_lt hba
  have q2 : ba < W1.heap.size + 1 + 1 := Nat.lt_succ_of_lt q1
  have q3 : ba < W1.heap.size + 1 + 1 + 1 := Nat.lt_succ_of_lt q2
  have q4 : ba < W1.heap.size + 1 + 1 + 1 + 1 := Nat.lt_succ_of_lt q3
  have r1 : bo < W1.heap.size + 1 := Nat.lt_succ_of_lt hbo
  have r2 : bo < W1.heap.size + 1 + 1 := Nat.lt_succ_of_lt r1
  have r3 : bo < W1.heap.size + 1 + 1 + 1 := Nat.lt_succ_of_lt r2
  have r4 : bo < W1.heap.size + 1 + 1 + 1 + 1 := Nat.lt_succ_of_lt r3
  go_wp2_with fail
  go_region_held3 (fun w' => w'.cell? ⟨ba, 0, none⟩ = some (.int .u64 (a5 % 1000000000)) ∧ w'.cell? ⟨ba, 1, none⟩ = some (.int .i64 (a5 / 1000000000)) ∧ w'.cell? ⟨ba, 2, none⟩ = some (.pointer none) ∧ w'.cell? ⟨bo, 0, none⟩ = some (.int .u64 (a10 % 1000000000)) ∧ w'.cell? ⟨bo, 1, none⟩ = some (.int .i64 (a10 / 1000000000)) ∧ w'.cell? ⟨bo, 2, none⟩ = some (.pointer none))
    (first
      | (simp [go_sem, World.cell?_alloc_past, *]; done)
      | (refine ⟨?_, ?_, ?_, ?_, ?_, ?_⟩ <;> (refine (grown_cell hg2 _ ?_).trans ?_) <;> first | (simp [go_sem, World.cell?_alloc_past, *]; done) | (simp [go_sem]; omega)))
    (first
      | (go_at_call 10; refine (newLine_any a0 0 false 0 0 _).mono ?_; rintro e w' ⟨rfl, rfl⟩)
      | (go_at_call 11; refine (newSrc_any a6 a7 a8 0 0 _).mono ?_; rintro e w' ⟨rfl, d2, rfl, s1, s11, s12, s13, s21⟩)
      | (go_at_call 12; refine (newTx_any a9 (a10 % 1000000000) (a10 / 1000000000) _).mono ?_; rintro e w' ⟨rfl, e2, rfl⟩)
      | (go_at_call 9; refine (HB.out W1.heap.size (W1.heap.size + 1) (W1.heap.size + 1 + 1 + 1) _ (by simp [go_sem, *]) (by simp [go_sem, *]) (by simp [go_sem, *]) (by simp [go_sem, *]) (by simp [go_sem, *]) (by simp [go_sem, *]) (by simp [go_sem, *]) (by simp [go_sem, *]) (by simp [go_sem, *]) (by simp [go_sem, *]) (by simp [go_sem, *])).mono ?_; rintro e W2 ⟨rfl, hg2⟩))
  have hG2 : Grown w W2 := by
    refine grown_trans ?_ hg2
    repeat (first | with_reducible (refine Grown.drew ?_) | with_reducible (refine Grown.alloc ?_ _ _))
    exact hG1
  clear hg2 s1 s11 s12 s13 s21 m0 m1 m2 m3 m4 m5 q1 q2 q3 q4 r1 r2 r3 r4 hG1
  rcases E.out with ⟨z, rfl⟩ | ⟨z, nC, rfl⟩ | ⟨z, nC, rfl⟩
  · clear E
    go_wp2
    go_ret
    exact ⟨rfl, hG2⟩
  · clear E
    go_wp2_with (first
      | (go_at_call 14; refine (H14.out _).mono ?_; rintro e w' ⟨rfl, rfl⟩)
      | (go_at_call 13; refine (H13.out _).mono ?_; rintro e w' ⟨rfl, rfl⟩)
      | (go_at_call 15; refine (H15.out _).mono ?_; rintro e w' ⟨rfl, rfl⟩))
    go_ret
    exact ⟨rfl, hG2⟩
  · clear E
    go_wp2_with (first
      | (go_at_call 14; refine (H14.out _).mono ?_; rintro e w' ⟨rfl, rfl⟩)
      | (go_at_call 13; refine (H13.out _).mono ?_; rintro e w' ⟨rfl, rfl⟩)
      | (go_at_call 15; refine (H15.out _).mono ?_; rintro e w' ⟨rfl, rfl⟩))
    go_ret
    exact ⟨rfl, hG2⟩

set_option maxRecDepth 100000 in
set_option maxHeartbeats 4000000 in
/-- The law where the main source has no report. -/
theorem walk_c2 (a0 a1 a3 a4 a5 a6 a8 a9 a10 V : Int)
    (h1 : 0 ≤ a1) (h1' : a1 ≤ 4294967295) (h4 : 0 ≤ a4) (h4' : a4 ≤ 4294967295) (h5 : -9223372036854775808 ≤ a5) (h5' : a5 ≤ 9223372036854775807) (h6 : 0 ≤ a6) (h6' : a6 ≤ 4294967295) (h9 : 0 ≤ a9) (h9' : a9 ≤ 4294967295) (h10 : -9223372036854775808 ≤ a10) (h10' : a10 ≤ 9223372036854775807)
    (HA : Hid (∀ (bl bs bt : Nat) (w : World), w.cell? ⟨bl, 3, none⟩ = some (.int .u32 a1) → w.cell? ⟨bl, 7, none⟩ = some (.bool true) → w.cell? ⟨bs, 1, none⟩ = some (.int .u32 a6) → w.cell? ⟨bs, 11, none⟩ = some (.int .u32 a8) → w.cell? ⟨bs, 12, none⟩ = some (.int .u64 0) → w.cell? ⟨bs, 13, none⟩ = some (.int .u32 0) → w.cell? ⟨bs, 21, none⟩ = some (.bool false) → w.cell? ⟨bt, 2, none⟩ = some (.int .u32 a9) → w.cell? ⟨bt, 3, none⟩ = some (.int .u64 (a10 % 1000000000)) → w.cell? ⟨bt, 4, none⟩ = some (.int .i64 (a10 / 1000000000)) → w.cell? ⟨bt, 5, none⟩ = some (.pointer none) →
      Calls Trym.prog 9 #[.pointer (some ⟨bl, 0, none⟩), .int .u32 a3, .int .u32 a4, .agg #[.int .u64 (a5 % 1000000000), .int .i64 (a5 / 1000000000), .pointer none], .pointer (some ⟨bs, 0, none⟩), .pointer (some ⟨bt, 0, none⟩)] w fun e w' => e = .returned (.int .u32 V) ∧ Grown w w'))
    (HB : Hid (∀ (bl bs bt : Nat) (w : World), w.cell? ⟨bl, 3, none⟩ = some (.int .u32 0) → w.cell? ⟨bl, 7, none⟩ = some (.bool true) → w.cell? ⟨bs, 1, none⟩ = some (.int .u32 a6) → w.cell? ⟨bs, 11, none⟩ = some (.int .u32 a8) → w.cell? ⟨bs, 12, none⟩ = some (.int .u64 0) → w.cell? ⟨bs, 13, none⟩ = some (.int .u32 0) → w.cell? ⟨bs, 21, none⟩ = some (.bool false) → w.cell? ⟨bt, 2, none⟩ = some (.int .u32 a9) → w.cell? ⟨bt, 3, none⟩ = some (.int .u64 (a10 % 1000000000)) → w.cell? ⟨bt, 4, none⟩ = some (.int .i64 (a10 / 1000000000)) → w.cell? ⟨bt, 5, none⟩ = some (.pointer none) →
      Calls Trym.prog 9 #[.pointer (some ⟨bl, 0, none⟩), .int .u32 a3, .int .u32 ((a4 + a1) % 4294967296), .agg #[.int .u64 (a5 % 1000000000), .int .i64 (a5 / 1000000000), .pointer none], .pointer (some ⟨bs, 0, none⟩), .pointer (some ⟨bt, 0, none⟩)] w fun e w' => e = .returned (.int .u32 V) ∧ Grown w w'))
    (D T arr C : Int) (harr : (a9 + T) % 4294967296 = arr) (b0 : 0 ≤ T) (b1 : T ≤ 4294967295) (b2 : 0 ≤ arr) (b3 : arr ≤ 4294967295)
    (H14 : Hid (∀ w, Calls Trym.prog 14 #[.int .i64 a5, .int .i64 a10] w fun e w' => e = .returned (.int .i64 D) ∧ w' = w))
    (H13 : Hid (∀ w, Calls Trym.prog 13 #[.int .i64 D, .int .u32 a6] w fun e w' => e = .returned (.int .u32 T) ∧ w' = w))
    (H15 : Hid (∀ w, Calls Trym.prog 15 #[.int .u32 ((a4 + a1 - arr) % 4294967296)] w fun e w' => e = .returned (.int .u32 C) ∧ w' = w))
    (E : Hid (((a10 != 0) = false ∧ (a4 + a1) % 4294967296 = V) ∨ ((a10 != 0) = true ∧ (¬ a6 / 10 < C) ∧ (a4 + a1) % 4294967296 = V) ∨ ((a10 != 0) = true ∧ a6 / 10 < C ∧ arr = V)))
    (w : World) :
    Calls Trym.prog 4 #[.int .u32 a0, .int .u32 a1, .bool true, .int .u32 a3, .int .u32 a4, .int .i64 a5, .int .u32 a6, .bool false, .int .u32 a8, .int .u32 a9, .int .i64 a10] w fun e w' => e = .returned (.bool true) ∧ Grown w w' := by
  go_enter Trym.func4, Trym.ntmps4
  go_wp2_with (go_at_call 8; first | (refine (zzTime_any a5 h5 h5' _).mono ?_; rintro e w' ⟨rfl, c1, c2, c3, rfl⟩) | (refine (zzTime_any a10 h10 h10' _).mono ?_; rintro e w' ⟨rfl, c4, c5, c6, rfl⟩))
  go_region_held3 (fun w' => w'.cell? ⟨(w.heap.size + 1 + 1 + 1), 0, none⟩ = some (.int .u64 (a5 % 1000000000)) ∧ w'.cell? ⟨(w.heap.size + 1 + 1 + 1), 1, none⟩ = some (.int .i64 (a5 / 1000000000)) ∧ w'.cell? ⟨(w.heap.size + 1 + 1 + 1), 2, none⟩ = some (.pointer none) ∧ w'.cell? ⟨(w.heap.size + 1 + 1 + 1 + 1 + 1 + 1 + 1), 0, none⟩ = some (.int .u64 (a10 % 1000000000)) ∧ w'.cell? ⟨(w.heap.size + 1 + 1 + 1 + 1 + 1 + 1 + 1), 1, none⟩ = some (.int .i64 (a10 / 1000000000)) ∧ w'.cell? ⟨(w.heap.size + 1 + 1 + 1 + 1 + 1 + 1 + 1), 2, none⟩ = some (.pointer none))
    (first
      | (simp [go_sem, World.cell?_alloc_past, *]; done)
      | (refine ⟨?_, ?_, ?_, ?_, ?_, ?_⟩ <;> (refine (grown_cell hg1 _ ?_).trans ?_) <;> first | (simp [go_sem, World.cell?_alloc_past, *]; done) | (simp [go_sem]; omega)))
    (first
      | (go_at_call 10; refine (newLine_any a0 a1 true 0 0 _).mono ?_; rintro e w' ⟨rfl, rfl⟩)
      | (go_at_call 11; refine (newSrc_any a6 false a8 0 0 _).mono ?_; rintro e w' ⟨rfl, d1, rfl, s1, s11, s12, s13, s21⟩)
      | (go_at_call 12; refine (newTx_any a9 (a10 % 1000000000) (a10 / 1000000000) _).mono ?_; rintro e w' ⟨rfl, e1, rfl⟩)
      | (go_at_call 9; refine (HA.out (w.heap.size + 1 + 1 + 1 + 1 + 1 + 1 + 1 + 1) (w.heap.size + 1 + 1 + 1 + 1 + 1 + 1 + 1 + 1 + 1) (w.heap.size + 1 + 1 + 1 + 1 + 1 + 1 + 1 + 1 + 1 + 1 + 1) _ (by simp [go_sem, *]) (by simp [go_sem, *]) (by simp [go_sem, *]) (by simp [go_sem, *]) (by simp [go_sem, *]) (by simp [go_sem, *]) (by simp [go_sem, *]) (by simp [go_sem, *]) (by simp [go_sem, *]) (by simp [go_sem, *]) (by simp [go_sem, *])).mono ?_; rintro e W1 ⟨rfl, hg1⟩))
  have hG1 : Grown w W1 := by
    refine grown_trans ?_ hg1
    repeat (first | with_reducible (refine Grown.drew ?_) | with_reducible (refine Grown.alloc ?_ _ _))
    with_reducible (exact Grown.refl _)
  have hS1 : W1.cell? ⟨(w.heap.size + 1 + 1 + 1), 0, none⟩ = some (.int .u64 (a5 % 1000000000)) ∧ W1.cell? ⟨(w.heap.size + 1 + 1 + 1), 1, none⟩ = some (.int .i64 (a5 / 1000000000)) ∧ W1.cell? ⟨(w.heap.size + 1 + 1 + 1), 2, none⟩ = some (.pointer none) ∧ W1.cell? ⟨(w.heap.size + 1 + 1 + 1 + 1 + 1 + 1 + 1), 0, none⟩ = some (.int .u64 (a10 % 1000000000)) ∧ W1.cell? ⟨(w.heap.size + 1 + 1 + 1 + 1 + 1 + 1 + 1), 1, none⟩ = some (.int .i64 (a10 / 1000000000)) ∧ W1.cell? ⟨(w.heap.size + 1 + 1 + 1 + 1 + 1 + 1 + 1), 2, none⟩ = some (.pointer none) := by assumption
  clear hg1 s1 s11 s12 s13 s21
  generalize (w.heap.size + 1 + 1 + 1 + 1 + 1 + 1 + 1) = bo at *
  generalize (w.heap.size + 1 + 1 + 1) = ba at *
  obtain ⟨m0, m1, m2, m3, m4, m5⟩ := hS1
  have hba := World.block_lt_of_cell? W1 _ m0
  have hbo := World.block_lt_of_cell? W1 _ m3
  have q1 : ba < W1.heap.size + 1 := Nat.lt_succ_of_lt hba
  have q2 : ba < W1.heap.size + 1 + 1 := Nat.lt_succ_of_lt q1
  have q3 : ba < W1.heap.size + 1 + 1 + 1 := Nat.lt_succ_of_lt q2
  have q4 : ba < W1.heap.size + 1 + 1 + 1 + 1 := Nat.lt_succ_of_lt q3
  have r1 : bo < W1.heap.size + 1 := Nat.lt_succ_of_lt hbo
  have r2 : bo < W1.heap.size + 1 + 1 := Nat.lt_succ_of_lt r1
  have r3 : bo < W1.heap.size + 1 + 1 + 1 := Nat.lt_succ_of_lt r2
  have r4 : bo < W1.heap.size + 1 + 1 + 1 + 1 := Nat.lt_succ_of_lt r3
  go_wp2_with fail
  go_region_held3 (fun w' => w'.cell? ⟨ba, 0, none⟩ = some (.int .u64 (a5 % 1000000000)) ∧ w'.cell? ⟨ba, 1, none⟩ = some (.int .i64 (a5 / 1000000000)) ∧ w'.cell? ⟨ba, 2, none⟩ = some (.pointer none) ∧ w'.cell? ⟨bo, 0, none⟩ = some (.int .u64 (a10 % 1000000000)) ∧ w'.cell? ⟨bo, 1, none⟩ = some (.int .i64 (a10 / 1000000000)) ∧ w'.cell? ⟨bo, 2, none⟩ = some (.pointer none))
    (first
      | (simp [go_sem, World.cell?_alloc_past, *]; done)
      | (refine ⟨?_, ?_, ?_, ?_, ?_, ?_⟩ <;> (refine (grown_cell hg2 _ ?_).trans ?_) <;> first | (simp [go_sem, World.cell?_alloc_past, *]; done) | (simp [go_sem]; omega)))
    (first
      | (go_at_call 10; refine (newLine_any a0 0 true 0 0 _).mono ?_; rintro e w' ⟨rfl, rfl⟩)
      | (go_at_call 11; refine (newSrc_any a6 false a8 0 0 _).mono ?_; rintro e w' ⟨rfl, d2, rfl, s1, s11, s12, s13, s21⟩)
      | (go_at_call 12; refine (newTx_any a9 (a10 % 1000000000) (a10 / 1000000000) _).mono ?_; rintro e w' ⟨rfl, e2, rfl⟩)
      | (go_at_call 9; refine (HB.out W1.heap.size (W1.heap.size + 1) (W1.heap.size + 1 + 1 + 1) _ (by simp [go_sem, *]) (by simp [go_sem, *]) (by simp [go_sem, *]) (by simp [go_sem, *]) (by simp [go_sem, *]) (by simp [go_sem, *]) (by simp [go_sem, *]) (by simp [go_sem, *]) (by simp [go_sem, *]) (by simp [go_sem, *]) (by simp [go_sem, *])).mono ?_; rintro e W2 ⟨rfl, hg2⟩))
  have hG2 : Grown w W2 := by
    refine grown_trans ?_ hg2
    repeat (first | with_reducible (refine Grown.drew ?_) | with_reducible (refine Grown.alloc ?_ _ _))
    exact hG1
  clear hg2 s1 s11 s12 s13 s21 m0 m1 m2 m3 m4 m5 q1 q2 q3 q4 r1 r2 r3 r4 hG1
  rcases E.out with ⟨z, rfl⟩ | ⟨z, nC, rfl⟩ | ⟨z, nC, rfl⟩
  · clear E
    go_wp2
    go_ret
    exact ⟨rfl, hG2⟩
  · clear E
    go_wp2_with (first
      | (go_at_call 14; refine (H14.out _).mono ?_; rintro e w' ⟨rfl, rfl⟩)
      | (go_at_call 13; refine (H13.out _).mono ?_; rintro e w' ⟨rfl, rfl⟩)
      | (go_at_call 15; refine (H15.out _).mono ?_; rintro e w' ⟨rfl, rfl⟩))
    go_ret
    exact ⟨rfl, hG2⟩
  · clear E
    go_wp2_with (first
      | (go_at_call 14; refine (H14.out _).mono ?_; rintro e w' ⟨rfl, rfl⟩)
      | (go_at_call 13; refine (H13.out _).mono ?_; rintro e w' ⟨rfl, rfl⟩)
      | (go_at_call 15; refine (H15.out _).mono ?_; rintro e w' ⟨rfl, rfl⟩))
    go_ret
    exact ⟨rfl, hG2⟩

set_option maxRecDepth 100000 in
set_option maxHeartbeats 4000000 in
/-- The law where the report is of another SSRC. -/
theorem walk_c3 (a0 a1 a3 a4 a5 a6 a8 a9 a10 V : Int) (hq : (a8 == a3) = false)
    (h1 : 0 ≤ a1) (h1' : a1 ≤ 4294967295) (h4 : 0 ≤ a4) (h4' : a4 ≤ 4294967295) (h5 : -9223372036854775808 ≤ a5) (h5' : a5 ≤ 9223372036854775807) (h6 : 0 ≤ a6) (h6' : a6 ≤ 4294967295) (h9 : 0 ≤ a9) (h9' : a9 ≤ 4294967295) (h10 : -9223372036854775808 ≤ a10) (h10' : a10 ≤ 9223372036854775807)
    (HA : Hid (∀ (bl bs bt : Nat) (w : World), w.cell? ⟨bl, 3, none⟩ = some (.int .u32 a1) → w.cell? ⟨bl, 7, none⟩ = some (.bool true) → w.cell? ⟨bs, 1, none⟩ = some (.int .u32 a6) → w.cell? ⟨bs, 11, none⟩ = some (.int .u32 a8) → w.cell? ⟨bs, 12, none⟩ = some (.int .u64 0) → w.cell? ⟨bs, 13, none⟩ = some (.int .u32 0) → w.cell? ⟨bs, 21, none⟩ = some (.bool true) → w.cell? ⟨bt, 2, none⟩ = some (.int .u32 a9) → w.cell? ⟨bt, 3, none⟩ = some (.int .u64 (a10 % 1000000000)) → w.cell? ⟨bt, 4, none⟩ = some (.int .i64 (a10 / 1000000000)) → w.cell? ⟨bt, 5, none⟩ = some (.pointer none) →
      Calls Trym.prog 9 #[.pointer (some ⟨bl, 0, none⟩), .int .u32 a3, .int .u32 a4, .agg #[.int .u64 (a5 % 1000000000), .int .i64 (a5 / 1000000000), .pointer none], .pointer (some ⟨bs, 0, none⟩), .pointer (some ⟨bt, 0, none⟩)] w fun e w' => e = .returned (.int .u32 V) ∧ Grown w w'))
    (HB : Hid (∀ (bl bs bt : Nat) (w : World), w.cell? ⟨bl, 3, none⟩ = some (.int .u32 0) → w.cell? ⟨bl, 7, none⟩ = some (.bool true) → w.cell? ⟨bs, 1, none⟩ = some (.int .u32 a6) → w.cell? ⟨bs, 11, none⟩ = some (.int .u32 a8) → w.cell? ⟨bs, 12, none⟩ = some (.int .u64 0) → w.cell? ⟨bs, 13, none⟩ = some (.int .u32 0) → w.cell? ⟨bs, 21, none⟩ = some (.bool true) → w.cell? ⟨bt, 2, none⟩ = some (.int .u32 a9) → w.cell? ⟨bt, 3, none⟩ = some (.int .u64 (a10 % 1000000000)) → w.cell? ⟨bt, 4, none⟩ = some (.int .i64 (a10 / 1000000000)) → w.cell? ⟨bt, 5, none⟩ = some (.pointer none) →
      Calls Trym.prog 9 #[.pointer (some ⟨bl, 0, none⟩), .int .u32 a3, .int .u32 ((a4 + a1) % 4294967296), .agg #[.int .u64 (a5 % 1000000000), .int .i64 (a5 / 1000000000), .pointer none], .pointer (some ⟨bs, 0, none⟩), .pointer (some ⟨bt, 0, none⟩)] w fun e w' => e = .returned (.int .u32 V) ∧ Grown w w'))
    (D T arr C : Int) (harr : (a9 + T) % 4294967296 = arr) (b0 : 0 ≤ T) (b1 : T ≤ 4294967295) (b2 : 0 ≤ arr) (b3 : arr ≤ 4294967295)
    (H14 : Hid (∀ w, Calls Trym.prog 14 #[.int .i64 a5, .int .i64 a10] w fun e w' => e = .returned (.int .i64 D) ∧ w' = w))
    (H13 : Hid (∀ w, Calls Trym.prog 13 #[.int .i64 D, .int .u32 a6] w fun e w' => e = .returned (.int .u32 T) ∧ w' = w))
    (H15 : Hid (∀ w, Calls Trym.prog 15 #[.int .u32 ((a4 + a1 - arr) % 4294967296)] w fun e w' => e = .returned (.int .u32 C) ∧ w' = w))
    (E : Hid (((a10 != 0) = false ∧ (a4 + a1) % 4294967296 = V) ∨ ((a10 != 0) = true ∧ (¬ a6 / 10 < C) ∧ (a4 + a1) % 4294967296 = V) ∨ ((a10 != 0) = true ∧ a6 / 10 < C ∧ arr = V)))
    (w : World) :
    Calls Trym.prog 4 #[.int .u32 a0, .int .u32 a1, .bool true, .int .u32 a3, .int .u32 a4, .int .i64 a5, .int .u32 a6, .bool true, .int .u32 a8, .int .u32 a9, .int .i64 a10] w fun e w' => e = .returned (.bool true) ∧ Grown w w' := by
  go_enter Trym.func4, Trym.ntmps4
  go_wp2_with (go_at_call 8; first | (refine (zzTime_any a5 h5 h5' _).mono ?_; rintro e w' ⟨rfl, c1, c2, c3, rfl⟩) | (refine (zzTime_any a10 h10 h10' _).mono ?_; rintro e w' ⟨rfl, c4, c5, c6, rfl⟩))
  go_region_held3 (fun w' => w'.cell? ⟨(w.heap.size + 1 + 1 + 1), 0, none⟩ = some (.int .u64 (a5 % 1000000000)) ∧ w'.cell? ⟨(w.heap.size + 1 + 1 + 1), 1, none⟩ = some (.int .i64 (a5 / 1000000000)) ∧ w'.cell? ⟨(w.heap.size + 1 + 1 + 1), 2, none⟩ = some (.pointer none) ∧ w'.cell? ⟨(w.heap.size + 1 + 1 + 1 + 1 + 1 + 1 + 1), 0, none⟩ = some (.int .u64 (a10 % 1000000000)) ∧ w'.cell? ⟨(w.heap.size + 1 + 1 + 1 + 1 + 1 + 1 + 1), 1, none⟩ = some (.int .i64 (a10 / 1000000000)) ∧ w'.cell? ⟨(w.heap.size + 1 + 1 + 1 + 1 + 1 + 1 + 1), 2, none⟩ = some (.pointer none))
    (first
      | (simp [go_sem, World.cell?_alloc_past, *]; done)
      | (refine ⟨?_, ?_, ?_, ?_, ?_, ?_⟩ <;> (refine (grown_cell hg1 _ ?_).trans ?_) <;> first | (simp [go_sem, World.cell?_alloc_past, *]; done) | (simp [go_sem]; omega)))
    (first
      | (go_at_call 10; refine (newLine_any a0 a1 true 0 0 _).mono ?_; rintro e w' ⟨rfl, rfl⟩)
      | (go_at_call 11; refine (newSrc_any a6 true a8 0 0 _).mono ?_; rintro e w' ⟨rfl, d1, rfl, s1, s11, s12, s13, s21⟩)
      | (go_at_call 12; refine (newTx_any a9 (a10 % 1000000000) (a10 / 1000000000) _).mono ?_; rintro e w' ⟨rfl, e1, rfl⟩)
      | (go_at_call 9; refine (HA.out (w.heap.size + 1 + 1 + 1 + 1 + 1 + 1 + 1 + 1) (w.heap.size + 1 + 1 + 1 + 1 + 1 + 1 + 1 + 1 + 1) (w.heap.size + 1 + 1 + 1 + 1 + 1 + 1 + 1 + 1 + 1 + 1 + 1) _ (by simp [go_sem, *]) (by simp [go_sem, *]) (by simp [go_sem, *]) (by simp [go_sem, *]) (by simp [go_sem, *]) (by simp [go_sem, *]) (by simp [go_sem, *]) (by simp [go_sem, *]) (by simp [go_sem, *]) (by simp [go_sem, *]) (by simp [go_sem, *])).mono ?_; rintro e W1 ⟨rfl, hg1⟩))
  have hG1 : Grown w W1 := by
    refine grown_trans ?_ hg1
    repeat (first | with_reducible (refine Grown.drew ?_) | with_reducible (refine Grown.alloc ?_ _ _))
    with_reducible (exact Grown.refl _)
  have hS1 : W1.cell? ⟨(w.heap.size + 1 + 1 + 1), 0, none⟩ = some (.int .u64 (a5 % 1000000000)) ∧ W1.cell? ⟨(w.heap.size + 1 + 1 + 1), 1, none⟩ = some (.int .i64 (a5 / 1000000000)) ∧ W1.cell? ⟨(w.heap.size + 1 + 1 + 1), 2, none⟩ = some (.pointer none) ∧ W1.cell? ⟨(w.heap.size + 1 + 1 + 1 + 1 + 1 + 1 + 1), 0, none⟩ = some (.int .u64 (a10 % 1000000000)) ∧ W1.cell? ⟨(w.heap.size + 1 + 1 + 1 + 1 + 1 + 1 + 1), 1, none⟩ = some (.int .i64 (a10 / 1000000000)) ∧ W1.cell? ⟨(w.heap.size + 1 + 1 + 1 + 1 + 1 + 1 + 1), 2, none⟩ = some (.pointer none) := by assumption
  clear hg1 s1 s11 s12 s13 s21
  generalize (w.heap.size + 1 + 1 + 1 + 1 + 1 + 1 + 1) = bo at *
  generalize (w.heap.size + 1 + 1 + 1) = ba at *
  obtain ⟨m0, m1, m2, m3, m4, m5⟩ := hS1
  have hba := World.block_lt_of_cell? W1 _ m0
  have hbo := World.block_lt_of_cell? W1 _ m3
  have q1 : ba < W1.heap.size + 1 := Nat.lt_succ_of_lt hba
  have q2 : ba < W1.heap.size + 1 + 1 := Nat.lt_succ_of_lt q1
  have q3 : ba < W1.heap.size + 1 + 1 + 1 := Nat.lt_succ_of_lt q2
  have q4 : ba < W1.heap.size + 1 + 1 + 1 + 1 := Nat.lt_succ_of_lt q3
  have r1 : bo < W1.heap.size + 1 := Nat.lt_succ_of_lt hbo
  have r2 : bo < W1.heap.size + 1 + 1 := Nat.lt_succ_of_lt r1
  have r3 : bo < W1.heap.size + 1 + 1 + 1 := Nat.lt_succ_of_lt r2
  have r4 : bo < W1.heap.size + 1 + 1 + 1 + 1 := Nat.lt_succ_of_lt r3
  go_wp2_with fail
  go_region_held3 (fun w' => w'.cell? ⟨ba, 0, none⟩ = some (.int .u64 (a5 % 1000000000)) ∧ w'.cell? ⟨ba, 1, none⟩ = some (.int .i64 (a5 / 1000000000)) ∧ w'.cell? ⟨ba, 2, none⟩ = some (.pointer none) ∧ w'.cell? ⟨bo, 0, none⟩ = some (.int .u64 (a10 % 1000000000)) ∧ w'.cell? ⟨bo, 1, none⟩ = some (.int .i64 (a10 / 1000000000)) ∧ w'.cell? ⟨bo, 2, none⟩ = some (.pointer none))
    (first
      | (simp [go_sem, World.cell?_alloc_past, *]; done)
      | (refine ⟨?_, ?_, ?_, ?_, ?_, ?_⟩ <;> (refine (grown_cell hg2 _ ?_).trans ?_) <;> first | (simp [go_sem, World.cell?_alloc_past, *]; done) | (simp [go_sem]; omega)))
    (first
      | (go_at_call 10; refine (newLine_any a0 0 true 0 0 _).mono ?_; rintro e w' ⟨rfl, rfl⟩)
      | (go_at_call 11; refine (newSrc_any a6 true a8 0 0 _).mono ?_; rintro e w' ⟨rfl, d2, rfl, s1, s11, s12, s13, s21⟩)
      | (go_at_call 12; refine (newTx_any a9 (a10 % 1000000000) (a10 / 1000000000) _).mono ?_; rintro e w' ⟨rfl, e2, rfl⟩)
      | (go_at_call 9; refine (HB.out W1.heap.size (W1.heap.size + 1) (W1.heap.size + 1 + 1 + 1) _ (by simp [go_sem, *]) (by simp [go_sem, *]) (by simp [go_sem, *]) (by simp [go_sem, *]) (by simp [go_sem, *]) (by simp [go_sem, *]) (by simp [go_sem, *]) (by simp [go_sem, *]) (by simp [go_sem, *]) (by simp [go_sem, *]) (by simp [go_sem, *])).mono ?_; rintro e W2 ⟨rfl, hg2⟩))
  have hG2 : Grown w W2 := by
    refine grown_trans ?_ hg2
    repeat (first | with_reducible (refine Grown.drew ?_) | with_reducible (refine Grown.alloc ?_ _ _))
    exact hG1
  clear hg2 s1 s11 s12 s13 s21 m0 m1 m2 m3 m4 m5 q1 q2 q3 q4 r1 r2 r3 r4 hG1
  rcases E.out with ⟨z, rfl⟩ | ⟨z, nC, rfl⟩ | ⟨z, nC, rfl⟩
  · clear E
    go_wp2
    go_ret
    exact ⟨rfl, hG2⟩
  · clear E
    go_wp2_with (first
      | (go_at_call 14; refine (H14.out _).mono ?_; rintro e w' ⟨rfl, rfl⟩)
      | (go_at_call 13; refine (H13.out _).mono ?_; rintro e w' ⟨rfl, rfl⟩)
      | (go_at_call 15; refine (H15.out _).mono ?_; rintro e w' ⟨rfl, rfl⟩))
    go_ret
    exact ⟨rfl, hG2⟩
  · clear E
    go_wp2_with (first
      | (go_at_call 14; refine (H14.out _).mono ?_; rintro e w' ⟨rfl, rfl⟩)
      | (go_at_call 13; refine (H13.out _).mono ?_; rintro e w' ⟨rfl, rfl⟩)
      | (go_at_call 15; refine (H15.out _).mono ?_; rintro e w' ⟨rfl, rfl⟩))
    go_ret
    exact ⟨rfl, hG2⟩

set_option maxRecDepth 100000 in
set_option maxHeartbeats 4000000 in
/-- The law where the rate is 0. -/
theorem walk_c4 (a0 a1 a3 a4 a5 a9 a10 V : Int)
    (h1 : 0 ≤ a1) (h1' : a1 ≤ 4294967295) (h4 : 0 ≤ a4) (h4' : a4 ≤ 4294967295) (h5 : -9223372036854775808 ≤ a5) (h5' : a5 ≤ 9223372036854775807) (h9 : 0 ≤ a9) (h9' : a9 ≤ 4294967295) (h10 : -9223372036854775808 ≤ a10) (h10' : a10 ≤ 9223372036854775807)
    (HA : Hid (∀ (bl bs bt : Nat) (w : World), w.cell? ⟨bl, 3, none⟩ = some (.int .u32 a1) → w.cell? ⟨bl, 7, none⟩ = some (.bool true) → w.cell? ⟨bs, 1, none⟩ = some (.int .u32 0) → w.cell? ⟨bs, 11, none⟩ = some (.int .u32 a3) → w.cell? ⟨bs, 12, none⟩ = some (.int .u64 0) → w.cell? ⟨bs, 13, none⟩ = some (.int .u32 0) → w.cell? ⟨bs, 21, none⟩ = some (.bool true) → w.cell? ⟨bt, 2, none⟩ = some (.int .u32 a9) → w.cell? ⟨bt, 3, none⟩ = some (.int .u64 (a10 % 1000000000)) → w.cell? ⟨bt, 4, none⟩ = some (.int .i64 (a10 / 1000000000)) → w.cell? ⟨bt, 5, none⟩ = some (.pointer none) →
      Calls Trym.prog 9 #[.pointer (some ⟨bl, 0, none⟩), .int .u32 a3, .int .u32 a4, .agg #[.int .u64 (a5 % 1000000000), .int .i64 (a5 / 1000000000), .pointer none], .pointer (some ⟨bs, 0, none⟩), .pointer (some ⟨bt, 0, none⟩)] w fun e w' => e = .returned (.int .u32 V) ∧ Grown w w'))
    (HB : Hid (∀ (bl bs bt : Nat) (w : World), w.cell? ⟨bl, 3, none⟩ = some (.int .u32 0) → w.cell? ⟨bl, 7, none⟩ = some (.bool true) → w.cell? ⟨bs, 1, none⟩ = some (.int .u32 0) → w.cell? ⟨bs, 11, none⟩ = some (.int .u32 a3) → w.cell? ⟨bs, 12, none⟩ = some (.int .u64 0) → w.cell? ⟨bs, 13, none⟩ = some (.int .u32 0) → w.cell? ⟨bs, 21, none⟩ = some (.bool true) → w.cell? ⟨bt, 2, none⟩ = some (.int .u32 a9) → w.cell? ⟨bt, 3, none⟩ = some (.int .u64 (a10 % 1000000000)) → w.cell? ⟨bt, 4, none⟩ = some (.int .i64 (a10 / 1000000000)) → w.cell? ⟨bt, 5, none⟩ = some (.pointer none) →
      Calls Trym.prog 9 #[.pointer (some ⟨bl, 0, none⟩), .int .u32 a3, .int .u32 ((a4 + a1) % 4294967296), .agg #[.int .u64 (a5 % 1000000000), .int .i64 (a5 / 1000000000), .pointer none], .pointer (some ⟨bs, 0, none⟩), .pointer (some ⟨bt, 0, none⟩)] w fun e w' => e = .returned (.int .u32 V) ∧ Grown w w'))
    (D T arr C : Int) (harr : (a9 + T) % 4294967296 = arr) (b0 : 0 ≤ T) (b1 : T ≤ 4294967295) (b2 : 0 ≤ arr) (b3 : arr ≤ 4294967295)
    (H14 : Hid (∀ w, Calls Trym.prog 14 #[.int .i64 a5, .int .i64 a10] w fun e w' => e = .returned (.int .i64 D) ∧ w' = w))
    (H13 : Hid (∀ w, Calls Trym.prog 13 #[.int .i64 D, .int .u32 0] w fun e w' => e = .returned (.int .u32 T) ∧ w' = w))
    (H15 : Hid (∀ w, Calls Trym.prog 15 #[.int .u32 ((a4 + a1 - arr) % 4294967296)] w fun e w' => e = .returned (.int .u32 C) ∧ w' = w))
    (E : Hid (((a10 != 0) = false ∧ (a4 + a1) % 4294967296 = V) ∨ ((a10 != 0) = true ∧ (¬ 0 / 10 < C) ∧ (a4 + a1) % 4294967296 = V) ∨ ((a10 != 0) = true ∧ 0 / 10 < C ∧ arr = V)))
    (w : World) :
    Calls Trym.prog 4 #[.int .u32 a0, .int .u32 a1, .bool true, .int .u32 a3, .int .u32 a4, .int .i64 a5, .int .u32 0, .bool true, .int .u32 a3, .int .u32 a9, .int .i64 a10] w fun e w' => e = .returned (.bool true) ∧ Grown w w' := by
  go_enter Trym.func4, Trym.ntmps4
  go_wp2_with (go_at_call 8; first | (refine (zzTime_any a5 h5 h5' _).mono ?_; rintro e w' ⟨rfl, c1, c2, c3, rfl⟩) | (refine (zzTime_any a10 h10 h10' _).mono ?_; rintro e w' ⟨rfl, c4, c5, c6, rfl⟩))
  go_region_held3 (fun w' => w'.cell? ⟨(w.heap.size + 1 + 1 + 1), 0, none⟩ = some (.int .u64 (a5 % 1000000000)) ∧ w'.cell? ⟨(w.heap.size + 1 + 1 + 1), 1, none⟩ = some (.int .i64 (a5 / 1000000000)) ∧ w'.cell? ⟨(w.heap.size + 1 + 1 + 1), 2, none⟩ = some (.pointer none) ∧ w'.cell? ⟨(w.heap.size + 1 + 1 + 1 + 1 + 1 + 1 + 1), 0, none⟩ = some (.int .u64 (a10 % 1000000000)) ∧ w'.cell? ⟨(w.heap.size + 1 + 1 + 1 + 1 + 1 + 1 + 1), 1, none⟩ = some (.int .i64 (a10 / 1000000000)) ∧ w'.cell? ⟨(w.heap.size + 1 + 1 + 1 + 1 + 1 + 1 + 1), 2, none⟩ = some (.pointer none))
    (first
      | (simp [go_sem, World.cell?_alloc_past, *]; done)
      | (refine ⟨?_, ?_, ?_, ?_, ?_, ?_⟩ <;> (refine (grown_cell hg1 _ ?_).trans ?_) <;> first | (simp [go_sem, World.cell?_alloc_past, *]; done) | (simp [go_sem]; omega)))
    (first
      | (go_at_call 10; refine (newLine_any a0 a1 true 0 0 _).mono ?_; rintro e w' ⟨rfl, rfl⟩)
      | (go_at_call 11; refine (newSrc_any 0 true a3 0 0 _).mono ?_; rintro e w' ⟨rfl, d1, rfl, s1, s11, s12, s13, s21⟩)
      | (go_at_call 12; refine (newTx_any a9 (a10 % 1000000000) (a10 / 1000000000) _).mono ?_; rintro e w' ⟨rfl, e1, rfl⟩)
      | (go_at_call 9; refine (HA.out (w.heap.size + 1 + 1 + 1 + 1 + 1 + 1 + 1 + 1) (w.heap.size + 1 + 1 + 1 + 1 + 1 + 1 + 1 + 1 + 1) (w.heap.size + 1 + 1 + 1 + 1 + 1 + 1 + 1 + 1 + 1 + 1 + 1) _ (by simp [go_sem, *]) (by simp [go_sem, *]) (by simp [go_sem, *]) (by simp [go_sem, *]) (by simp [go_sem, *]) (by simp [go_sem, *]) (by simp [go_sem, *]) (by simp [go_sem, *]) (by simp [go_sem, *]) (by simp [go_sem, *]) (by simp [go_sem, *])).mono ?_; rintro e W1 ⟨rfl, hg1⟩))
  have hG1 : Grown w W1 := by
    refine grown_trans ?_ hg1
    repeat (first | with_reducible (refine Grown.drew ?_) | with_reducible (refine Grown.alloc ?_ _ _))
    with_reducible (exact Grown.refl _)
  have hS1 : W1.cell? ⟨(w.heap.size + 1 + 1 + 1), 0, none⟩ = some (.int .u64 (a5 % 1000000000)) ∧ W1.cell? ⟨(w.heap.size + 1 + 1 + 1), 1, none⟩ = some (.int .i64 (a5 / 1000000000)) ∧ W1.cell? ⟨(w.heap.size + 1 + 1 + 1), 2, none⟩ = some (.pointer none) ∧ W1.cell? ⟨(w.heap.size + 1 + 1 + 1 + 1 + 1 + 1 + 1), 0, none⟩ = some (.int .u64 (a10 % 1000000000)) ∧ W1.cell? ⟨(w.heap.size + 1 + 1 + 1 + 1 + 1 + 1 + 1), 1, none⟩ = some (.int .i64 (a10 / 1000000000)) ∧ W1.cell? ⟨(w.heap.size + 1 + 1 + 1 + 1 + 1 + 1 + 1), 2, none⟩ = some (.pointer none) := by assumption
  clear hg1 s1 s11 s12 s13 s21
  generalize (w.heap.size + 1 + 1 + 1 + 1 + 1 + 1 + 1) = bo at *
  generalize (w.heap.size + 1 + 1 + 1) = ba at *
  obtain ⟨m0, m1, m2, m3, m4, m5⟩ := hS1
  have hba := World.block_lt_of_cell? W1 _ m0
  have hbo := World.block_lt_of_cell? W1 _ m3
  have q1 : ba < W1.heap.size + 1 := Nat.lt_succ_of_lt hba
  have q2 : ba < W1.heap.size + 1 + 1 := Nat.lt_succ_of_lt q1
  have q3 : ba < W1.heap.size + 1 + 1 + 1 := Nat.lt_succ_of_lt q2
  have q4 : ba < W1.heap.size + 1 + 1 + 1 + 1 := Nat.lt_succ_of_lt q3
  have r1 : bo < W1.heap.size + 1 := Nat.lt_succ_of_lt hbo
  have r2 : bo < W1.heap.size + 1 + 1 := Nat.lt_succ_of_lt r1
  have r3 : bo < W1.heap.size + 1 + 1 + 1 := Nat.lt_succ_of_lt r2
  have r4 : bo < W1.heap.size + 1 + 1 + 1 + 1 := Nat.lt_succ_of_lt r3
  go_wp2_with fail
  go_region_held3 (fun w' => w'.cell? ⟨ba, 0, none⟩ = some (.int .u64 (a5 % 1000000000)) ∧ w'.cell? ⟨ba, 1, none⟩ = some (.int .i64 (a5 / 1000000000)) ∧ w'.cell? ⟨ba, 2, none⟩ = some (.pointer none) ∧ w'.cell? ⟨bo, 0, none⟩ = some (.int .u64 (a10 % 1000000000)) ∧ w'.cell? ⟨bo, 1, none⟩ = some (.int .i64 (a10 / 1000000000)) ∧ w'.cell? ⟨bo, 2, none⟩ = some (.pointer none))
    (first
      | (simp [go_sem, World.cell?_alloc_past, *]; done)
      | (refine ⟨?_, ?_, ?_, ?_, ?_, ?_⟩ <;> (refine (grown_cell hg2 _ ?_).trans ?_) <;> first | (simp [go_sem, World.cell?_alloc_past, *]; done) | (simp [go_sem]; omega)))
    (first
      | (go_at_call 10; refine (newLine_any a0 0 true 0 0 _).mono ?_; rintro e w' ⟨rfl, rfl⟩)
      | (go_at_call 11; refine (newSrc_any 0 true a3 0 0 _).mono ?_; rintro e w' ⟨rfl, d2, rfl, s1, s11, s12, s13, s21⟩)
      | (go_at_call 12; refine (newTx_any a9 (a10 % 1000000000) (a10 / 1000000000) _).mono ?_; rintro e w' ⟨rfl, e2, rfl⟩)
      | (go_at_call 9; refine (HB.out W1.heap.size (W1.heap.size + 1) (W1.heap.size + 1 + 1 + 1) _ (by simp [go_sem, *]) (by simp [go_sem, *]) (by simp [go_sem, *]) (by simp [go_sem, *]) (by simp [go_sem, *]) (by simp [go_sem, *]) (by simp [go_sem, *]) (by simp [go_sem, *]) (by simp [go_sem, *]) (by simp [go_sem, *]) (by simp [go_sem, *])).mono ?_; rintro e W2 ⟨rfl, hg2⟩))
  have hG2 : Grown w W2 := by
    refine grown_trans ?_ hg2
    repeat (first | with_reducible (refine Grown.drew ?_) | with_reducible (refine Grown.alloc ?_ _ _))
    exact hG1
  clear hg2 s1 s11 s12 s13 s21 m0 m1 m2 m3 m4 m5 q1 q2 q3 q4 r1 r2 r3 r4 hG1
  rcases E.out with ⟨z, rfl⟩ | ⟨z, nC, rfl⟩ | ⟨z, nC, rfl⟩
  · clear E
    go_wp2
    go_ret
    exact ⟨rfl, hG2⟩
  · clear E
    go_wp2_with (first
      | (go_at_call 14; refine (H14.out _).mono ?_; rintro e w' ⟨rfl, rfl⟩)
      | (go_at_call 13; refine (H13.out _).mono ?_; rintro e w' ⟨rfl, rfl⟩)
      | (go_at_call 15; refine (H15.out _).mono ?_; rintro e w' ⟨rfl, rfl⟩))
    go_ret
    exact ⟨rfl, hG2⟩
  · clear E
    go_wp2_with (first
      | (go_at_call 14; refine (H14.out _).mono ?_; rintro e w' ⟨rfl, rfl⟩)
      | (go_at_call 13; refine (H13.out _).mono ?_; rintro e w' ⟨rfl, rfl⟩)
      | (go_at_call 15; refine (H15.out _).mono ?_; rintro e w' ⟨rfl, rfl⟩))
    go_ret
    exact ⟨rfl, hG2⟩

end Go.Proofs.Qxb6612553aMods.fnValueAtWithoutPlacingReportKeepsOrFollowsArrival
