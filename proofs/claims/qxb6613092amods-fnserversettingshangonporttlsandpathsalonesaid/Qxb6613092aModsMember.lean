/-
  THE WALKS over a member (seat b6613092aM): zzBytes_.., zzAdd, zzMemberBytes, ZZnewMember, receiverHangs, ZZreceiverHangs, zzHangs.
-/
import Derived.Test.Qxb6613092aModsProg
import Derived.WalkKit
import Derived.RowKit3
import Derived.WalkSpells
import Derived.Laws.Rows
import Derived.Deep.WholeRow
import Derived.KernelRfl
namespace Go.Proofs.Qxb6613092aMods.Me
open Go.RowKit
set_option linter.unusedVariables false

theorem grown_trans {a b c : World} (h : Grown a b) (k : Grown b c) : Grown a c :=
  ⟨World.keptBut_trans h.1 k.1, fun x => (k.2.1 x).trans (h.2.1 x), Nat.le_trans h.2.2 k.2.2⟩

/-- 'zzAdd': whatever it comes to, it lies between 0 and the bound and one. -/
theorem add_any (acc : Int) (s : ByteArray) (h0 : 0 ≤ acc) (h1 : acc ≤ 2097153) (w : World) :
    Calls Trym.prog 21 #[.int .i64 acc, .string s] w fun e w' => ∃ n : Int, e = .returned (.int .i64 n) ∧ 0 ≤ n ∧ n ≤ 2097153 ∧ w' = w := by
  by_cases g1 : 1048576 < acc
  · go_enter Trym.func21, Trym.ntmps21
    go_wp2
    go_ret
    exact ⟨_, rfl, by decide, by decide, rfl⟩
  · have g1' : decide (1048576 < acc) = false := by simpa using g1
    by_cases g2 : 1048576 < (s.size : Int)
    · go_enter Trym.func21, Trym.ntmps21
      go_wp2
      go_ret
      exact ⟨_, rfl, by decide, by decide, rfl⟩
    · go_enter Trym.func21, Trym.ntmps21
      go_wp2
      go_ret
      exact ⟨_, rfl, by omega, by omega, rfl⟩

/-- 'zzBytes_FnReceiverHangsJustPastItsStopping': it answers a bool. -/
theorem bytes1_any (a0 : Int) (a1 : ByteArray) (a2 : ByteArray) (a3 : Bool) (a4 : Int) (a5 : Bool) (a6 : Bool) (a7 : Bool) (a8 : Bool) (a9 : Int) (a10 : Int) (a11 : Int) (a12 : Int) (a13 : Int) (a14 : ByteArray) (t : Int) (h1 : a1.size ≤ maxLen) (h2 : a2.size ≤ maxLen) (h14 : a14.size ≤ maxLen) (w : World) :
    Calls Trym.prog 17 #[.agg #[.int .i64 a0, .string a1, .string a2, .bool a3, .int .u64 a4, .bool a5, .bool a6, .bool a7, .bool a8, .int .i64 a9, .int .i64 a10, .int .i64 a11, .int .i64 a12, .int .i64 a13, .string a14], .int .i64 t] w fun e w' => ∃ b : Bool, e = .returned (.bool b) ∧ ∃ c1 : Array Value, w' = w.alloc (.cells c1 54) := by
  unfold maxLen at h1 h2 h14
  go_enter Trym.func17, Trym.ntmps17
  go_wp2
  all_goals
    go_ret
    exact ⟨_, rfl, _, rfl⟩

/-- 'zzMemberBytes'. -/
theorem memberBytes_any (acc : Int) (a0 : Int) (a1 : ByteArray) (a2 : ByteArray) (a3 : Bool) (a4 : Int) (a5 : Bool) (a6 : Bool) (a7 : Bool) (a8 : Bool) (a9 : Int) (a10 : Int) (a11 : Int) (a12 : Int) (a13 : Int) (a14 : ByteArray) (h0 : 0 ≤ acc) (h1 : acc ≤ 2097153) (w : World) :
    Calls Trym.prog 18 #[.int .i64 acc, .agg #[.int .i64 a0, .string a1, .string a2, .bool a3, .int .u64 a4, .bool a5, .bool a6, .bool a7, .bool a8, .int .i64 a9, .int .i64 a10, .int .i64 a11, .int .i64 a12, .int .i64 a13, .string a14]] w fun e w' => ∃ n : Int, e = .returned (.int .i64 n) ∧ 0 ≤ n ∧ n ≤ 2097153 ∧ ∃ c1 : Array Value, w' = w.alloc (.cells c1 54) := by
  go_enter Trym.func18, Trym.ntmps18
  go_wp2_with fail
  refine (add_any acc a1 h0 h1 _).mono ?_
  rintro e w' ⟨n1, rfl, x1, y1, rfl⟩
  go_wp2_with fail
  refine (add_any n1 a2 x1 y1 _).mono ?_
  rintro e w' ⟨n2, rfl, x2, y2, rfl⟩
  go_wp2_with fail
  refine (add_any n2 a14 x2 y2 _).mono ?_
  rintro e w' ⟨n3, rfl, x3, y3, rfl⟩
  go_wp2
  go_ret
  exact ⟨_, rfl, x3, y3, _, rfl⟩

/-- 'ZZnewMember'. -/
theorem newMember_any (a0 : Int) (a1 : ByteArray) (a2 : ByteArray) (a3 : Bool) (a4 : Int) (a5 : Bool) (a6 : Bool) (a7 : Bool) (a8 : Bool) (a9 : Int) (a10 : Int) (a11 : Int) (a12 : Int) (a13 : Int) (a14 : ByteArray) (w : World) :
    Calls Trym.prog 25 #[.int .i64 a0, .string a1, .string a2, .bool a3, .int .u64 a4, .bool a5, .bool a6, .bool a7, .bool a8, .int .i64 a9, .int .i64 a10, .int .i64 a11, .int .i64 a12, .int .i64 a13, .string a14] w fun e w' => e = .returned (.agg #[.int .i64 a0, .string a1, .string a2, .bool a3, .int .u64 a4, .bool a5, .bool a6, .bool a7, .bool a8, .int .i64 a9, .slice none 0 0, .slice none 0 0, .map none, .slice none 0 0, .slice none 0 0, .int .i64 a10, .int .i64 a11, .int .i64 a12, .int .i64 a13, .string a14]) ∧ ∃ c1 : Array Value, w' = w.alloc (.cells c1 69) := by
  have h1 : (#[.int .i64 a0, .string a1, .string a2, .bool a3, .int .u64 a4, .bool a5, .bool a6, .bool a7, .bool a8, .int .i64 a9, .slice none 0 0, .slice none 0 0, .map none, .slice none 0 0, .slice none 0 0, .int .i64 a10, .int .i64 a11, .int .i64 a12, .int .i64 a13, .string a14] : Array Value).all (·.oneCell') = true := by simp [Value.oneCell']
  go_enter Trym.func25, Trym.ntmps25
  go_wp2_with (refine wpList_store_row rfl 69 _ _ rfl w.heap.size #[.int .i64 a0, .string a1, .string a2, .bool a3, .int .u64 a4, .bool a5, .bool a6, .bool a7, .bool a8, .int .i64 a9, .slice none 0 0, .slice none 0 0, .map none, .slice none 0 0, .slice none 0 0, .int .i64 a10, .int .i64 a11, .int .i64 a12, .int .i64 a13, .string a14] rfl rfl 69 _ (heap_alloc_new w _) (by kernel_rfl) rfl h1 ?_)
  rw [World.setRow_alloc_new]
  exact bodyPost_ret (v := .agg #[.int .i64 a0, .string a1, .string a2, .bool a3, .int .u64 a4, .bool a5, .bool a6, .bool a7, .bool a8, .int .i64 a9, .slice none 0 0, .slice none 0 0, .map none, .slice none 0 0, .slice none 0 0, .int .i64 a10, .int .i64 a11, .int .i64 a12, .int .i64 a13, .string a14]) (results_cell_row Trym.results25 _ _ w.heap.size 69 #[.int .i64 a0, .string a1, .string a2, .bool a3, .int .u64 a4, .bool a5, .bool a6, .bool a7, .bool a8, .int .i64 a9, .slice none 0 0, .slice none 0 0, .map none, .slice none 0 0, .slice none 0 0, .int .i64 a10, .int .i64 a11, .int .i64 a12, .int .i64 a13, .string a14] (0, 0) _ rfl (heap_alloc_new w _) Trym.underlying69 rfl (by kernel_rfl)) rfl ⟨rfl, _, rfl⟩

/-- '(member).receiverHangs'. -/
theorem hangs_any (a0 : Int) (a1 : ByteArray) (a2 : ByteArray) (a3 : Bool) (a4 : Int) (a5 : Bool) (a6 : Bool) (a7 : Bool) (a8 : Bool) (a9 : Int) (a10 : Int) (a11 : Int) (a12 : Int) (a13 : Int) (a14 : ByteArray) (t : Int) (w : World) :
    Calls Trym.prog 27 #[.agg #[.int .i64 a0, .string a1, .string a2, .bool a3, .int .u64 a4, .bool a5, .bool a6, .bool a7, .bool a8, .int .i64 a9, .slice none 0 0, .slice none 0 0, .map none, .slice none 0 0, .slice none 0 0, .int .i64 a10, .int .i64 a11, .int .i64 a12, .int .i64 a13, .string a14], .int .i64 t] w fun e w' => e = .returned (.bool (decide (t < a11))) ∧ ∃ c1 : Array Value, w' = w.alloc (.cells c1 69) := by
  go_enter Trym.func27, Trym.ntmps27
  go_wp2
  go_ret
  exact ⟨rfl, _, rfl⟩

/-- 'ZZreceiverHangs'. -/
theorem zzRecv_any (a0 : Int) (a1 : ByteArray) (a2 : ByteArray) (a3 : Bool) (a4 : Int) (a5 : Bool) (a6 : Bool) (a7 : Bool) (a8 : Bool) (a9 : Int) (a10 : Int) (a11 : Int) (a12 : Int) (a13 : Int) (a14 : ByteArray) (t : Int) (w : World) :
    Calls Trym.prog 24 #[.agg #[.int .i64 a0, .string a1, .string a2, .bool a3, .int .u64 a4, .bool a5, .bool a6, .bool a7, .bool a8, .int .i64 a9, .slice none 0 0, .slice none 0 0, .map none, .slice none 0 0, .slice none 0 0, .int .i64 a10, .int .i64 a11, .int .i64 a12, .int .i64 a13, .string a14], .int .i64 t] w fun e w' => e = .returned (.bool (decide (t < a11))) ∧ ∃ c1 c2 : Array Value, w' = (w.alloc (.cells c1 69)).alloc (.cells c2 69) := by
  go_enter Trym.func24, Trym.ntmps24
  go_wp2_with (first
    | (refine wpList_load_row rfl 69 _ rfl w.heap.size rfl 69 #[.int .i64 a0, .string a1, .string a2, .bool a3, .int .u64 a4, .bool a5, .bool a6, .bool a7, .bool a8, .int .i64 a9, .slice none 0 0, .slice none 0 0, .map none, .slice none 0 0, .slice none 0 0, .int .i64 a10, .int .i64 a11, .int .i64 a12, .int .i64 a13, .string a14] (0, 0) _ (heap_alloc_new w _) Trym.underlying69 rfl (by kernel_rfl) ?_)
    | (go_at_call 27; refine (hangs_any a0 a1 a2 a3 a4 a5 a6 a7 a8 a9 a10 a11 a12 a13 a14 t _).mono ?_; rintro e w' ⟨rfl, c1, rfl⟩))
  go_ret
  exact ⟨rfl, _, _, rfl⟩

/-- 'zzHangs'. -/
theorem zzHangs_any (a0 : Int) (a1 : ByteArray) (a2 : ByteArray) (a3 : Bool) (a4 : Int) (a5 : Bool) (a6 : Bool) (a7 : Bool) (a8 : Bool) (a9 : Int) (a10 : Int) (a11 : Int) (a12 : Int) (a13 : Int) (a14 : ByteArray) (t : Int) (w : World) :
    Calls Trym.prog 19 #[.agg #[.int .i64 a0, .string a1, .string a2, .bool a3, .int .u64 a4, .bool a5, .bool a6, .bool a7, .bool a8, .int .i64 a9, .int .i64 a10, .int .i64 a11, .int .i64 a12, .int .i64 a13, .string a14], .int .i64 t] w fun e w' => e = .returned (.bool (decide (t < a11))) ∧ ∃ c1 c2 c3 c4 : Array Value, w' = (((w.alloc (.cells c1 54)).alloc (.cells c2 69)).alloc (.cells c3 69)).alloc (.cells c4 69) := by
  go_enter Trym.func19, Trym.ntmps19
  go_wp2_with (first
    | (go_at_call 25; refine (newMember_any a0 a1 a2 a3 a4 a5 a6 a7 a8 a9 a10 a11 a12 a13 a14 _).mono ?_; rintro e w' ⟨rfl, c1, rfl⟩)
    | (go_at_call 24; refine (zzRecv_any a0 a1 a2 a3 a4 a5 a6 a7 a8 a9 a10 a11 a12 a13 a14 t _).mono ?_; rintro e w' ⟨rfl, c2, c3, rfl⟩))
  go_ret
  exact ⟨rfl, _, _, _, _, rfl⟩
end Go.Proofs.Qxb6613092aMods.Me
