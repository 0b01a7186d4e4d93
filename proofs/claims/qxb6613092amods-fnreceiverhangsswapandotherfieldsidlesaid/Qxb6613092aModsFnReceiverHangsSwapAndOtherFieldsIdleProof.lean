/-
  THE PROOF OF 'Rows.FnReceiverHangsSwapAndOtherFieldsIdleSaid': the guide's template (howto, 4) at this function's number and types, its struct parameters opened by Qxb6613092aModsOpen's laws; the walk over contracts of the callees.
-/
import Derived.Test.Qxb6613092aModsRows
import Derived.Test.Qxb6613092aModsOpen
import Derived.Test.Qxb6613092aModsMember
import Derived.WalkKit
import Derived.ProofKit
import Derived.OpenShut
import Derived.ShutString
namespace Go.Proofs.Qxb6613092aMods.fnReceiverHangsSwapAndOtherFieldsIdle
open Go.ChangeShapes Go.WideShapes Go.ChangeAt Go.RowKit
open Go.ChangeMaps (open_string shut_string)
set_option linter.unusedVariables false

theorem own : ownKnob Trym.prog.godebug = none := by kernel_rfl

/-- A block that was there is as it was. -/
theorem grown_block {w w' : World} (h : Grown w w') {b : Nat} {c : Array Value} {t : TypeId} {fr : Nat × Nat} (hb : w.heap[b]? = some (.cells c t fr)) : w'.heap[b]? = some (.cells c t fr) := by
  have hlt : b < w.heap.size := (Array.getElem?_eq_some_iff.1 hb).1
  have h3 := h.1.2.2 b hlt
  rw [hb] at h3
  generalize w'.heap[b]? = y at h3 ⊢
  cases y with
  | none => simp at h3
  | some o =>
    cases o
    case cells c' t' fr' =>
      obtain ⟨rfl, rfl, h5, h6⟩ := h3
      congr 2
      apply Array.ext_getElem?
      intro i
      exact h6 i (fun f => f)
    all_goals simp at h3
theorem setRow_alloc2 (w : World) (X : Obj) (c c' : Array Value) (t : TypeId) : ((w.alloc X).alloc (.cells c t)).setRow (w.heap.size + 1) c' = (w.alloc X).alloc (.cells c' t) := by
  have h := World.setRow_alloc_new (w.alloc X) c c' t
  have e : (w.alloc X).heap.size = w.heap.size + 1 := by
    show (w.heap.push X).size = _
    simp
  rwa [e] at h

set_option maxHeartbeats 1000000 in
/-- 'zzBytes_FnReceiverHangsSwapAndOtherFieldsIdle': it answers a bool. -/
theorem bytes2_any (a0x0 : Int) (a0x1 : ByteArray) (a0x2 : ByteArray) (a0x3 : Bool) (a0x4 : Int) (a0x5 : Bool) (a0x6 : Bool) (a0x7 : Bool) (a0x8 : Bool) (a0x9 : Int) (a0x10 : Int) (a0x11 : Int) (a0x12 : Int) (a0x13 : Int) (a0x14 : ByteArray) (a1x0 : Int) (a1x1 : ByteArray) (a1x2 : ByteArray) (a1x3 : Bool) (a1x4 : Int) (a1x5 : Bool) (a1x6 : Bool) (a1x7 : Bool) (a1x8 : Bool) (a1x9 : Int) (a1x10 : Int) (a1x11 : Int) (a1x12 : Int) (a1x13 : Int) (a1x14 : ByteArray) (t : Int) (h1 : a0x1.size ≤ maxLen) (h2 : a0x2.size ≤ maxLen) (h14 : a0x14.size ≤ maxLen) (k1 : a1x1.size ≤ maxLen) (k2 : a1x2.size ≤ maxLen) (k14 : a1x14.size ≤ maxLen) (w : World) :
    Calls Trym.prog 20 #[.agg #[.int .i64 a0x0, .string a0x1, .string a0x2, .bool a0x3, .int .u64 a0x4, .bool a0x5, .bool a0x6, .bool a0x7, .bool a0x8, .int .i64 a0x9, .int .i64 a0x10, .int .i64 a0x11, .int .i64 a0x12, .int .i64 a0x13, .string a0x14], .agg #[.int .i64 a1x0, .string a1x1, .string a1x2, .bool a1x3, .int .u64 a1x4, .bool a1x5, .bool a1x6, .bool a1x7, .bool a1x8, .int .i64 a1x9, .int .i64 a1x10, .int .i64 a1x11, .int .i64 a1x12, .int .i64 a1x13, .string a1x14], .int .i64 t] w fun e w' => ∃ b : Bool, e = .returned (.bool b) ∧ Grown w w' := by
  unfold maxLen at h1 h2 h14 k1 k2 k14
  go_enter Trym.func20, Trym.ntmps20
  go_wp2
  all_goals
    go_ret
    exact ⟨_, rfl, Grown.alloc (Grown.alloc (Grown.refl _) _ _) _ _⟩
theorem bytesM_any (acc : Int) (a0 : Int) (a1 : ByteArray) (a2 : ByteArray) (a3 : Bool) (a4 : Int) (a5 : Bool) (a6 : Bool) (a7 : Bool) (a8 : Bool) (a9 : Int) (a10 : Int) (a11 : Int) (a12 : Int) (a13 : Int) (a14 : ByteArray) (h0 : 0 ≤ acc) (h1 : acc ≤ 2097153) (w : World) :
    Calls Trym.prog 18 #[.int .i64 acc, .agg #[.int .i64 a0, .string a1, .string a2, .bool a3, .int .u64 a4, .bool a5, .bool a6, .bool a7, .bool a8, .int .i64 a9, .int .i64 a10, .int .i64 a11, .int .i64 a12, .int .i64 a13, .string a14]] w fun e w' => ∃ n : Int, e = .returned (.int .i64 n) ∧ 0 ≤ n ∧ n ≤ 2097153 ∧ Grown w w' := by
  refine (Me.memberBytes_any acc a0 a1 a2 a3 a4 a5 a6 a7 a8 a9 a10 a11 a12 a13 a14 h0 h1 w).mono ?_
  rintro e w' ⟨n, rfl, x, y, c1, rfl⟩
  exact ⟨n, rfl, x, y, Grown.alloc (Grown.refl _) _ _⟩
theorem hangs_any (a0 : Int) (a1 : ByteArray) (a2 : ByteArray) (a3 : Bool) (a4 : Int) (a5 : Bool) (a6 : Bool) (a7 : Bool) (a8 : Bool) (a9 : Int) (a10 : Int) (a11 : Int) (a12 : Int) (a13 : Int) (a14 : ByteArray) (t : Int) (w : World) :
    Calls Trym.prog 19 #[.agg #[.int .i64 a0, .string a1, .string a2, .bool a3, .int .u64 a4, .bool a5, .bool a6, .bool a7, .bool a8, .int .i64 a9, .int .i64 a10, .int .i64 a11, .int .i64 a12, .int .i64 a13, .string a14], .int .i64 t] w fun e w' => e = .returned (.bool (decide (t < a11))) ∧ Grown w w' := by
  refine (Me.zzHangs_any a0 a1 a2 a3 a4 a5 a6 a7 a8 a9 a10 a11 a12 a13 a14 t w).mono ?_
  rintro e w' ⟨rfl, c1, c2, c3, c4, rfl⟩
  exact ⟨rfl, Grown.alloc (Grown.alloc (Grown.alloc (Grown.alloc (Grown.refl _) _ _) _ _) _ _) _ _⟩

set_option maxRecDepth 100000 in
set_option maxHeartbeats 8000000 in
/-- The law's walk, call by call. -/
theorem walk_at (a0x0 : Int) (a0x1 : ByteArray) (a0x2 : ByteArray) (a0x3 : Bool) (a0x4 : Int) (a0x5 : Bool) (a0x6 : Bool) (a0x7 : Bool) (a0x8 : Bool) (a0x9 : Int) (a0x10 : Int) (a0x11 : Int) (a0x12 : Int) (a0x13 : Int) (a0x14 : ByteArray) (a1x0 : Int) (a1x1 : ByteArray) (a1x2 : ByteArray) (a1x3 : Bool) (a1x4 : Int) (a1x5 : Bool) (a1x6 : Bool) (a1x7 : Bool) (a1x8 : Bool) (a1x9 : Int) (a1x10 : Int) (a1x11 : Int) (a1x12 : Int) (a1x13 : Int) (a1x14 : ByteArray) (a2 : Int) (h1 : a0x1.size ≤ maxLen) (h2 : a0x2.size ≤ maxLen) (h14 : a0x14.size ≤ maxLen) (k1 : a1x1.size ≤ maxLen) (k2 : a1x2.size ≤ maxLen) (k14 : a1x14.size ≤ maxLen) (w : World) :
    Calls Trym.prog 6 #[.agg #[.int .i64 a0x0, .string a0x1, .string a0x2, .bool a0x3, .int .u64 a0x4, .bool a0x5, .bool a0x6, .bool a0x7, .bool a0x8, .int .i64 a0x9, .int .i64 a0x10, .int .i64 a0x11, .int .i64 a0x12, .int .i64 a0x13, .string a0x14], .agg #[.int .i64 a1x0, .string a1x1, .string a1x2, .bool a1x3, .int .u64 a1x4, .bool a1x5, .bool a1x6, .bool a1x7, .bool a1x8, .int .i64 a1x9, .int .i64 a1x10, .int .i64 a1x11, .int .i64 a1x12, .int .i64 a1x13, .string a1x14], .int .i64 a2] w fun e w' => e = .returned (.bool true) ∧ Grown w w' := by
  have oA : (#[.int .i64 a0x0, .string a0x1, .string a0x2, .bool a0x3, .int .u64 a0x4, .bool a0x5, .bool a0x6, .bool a0x7, .bool a0x8, .int .i64 a0x9, .int .i64 a0x10, .int .i64 a0x11, .int .i64 a0x12, .int .i64 a0x13, .string a0x14] : Array Value).all (·.oneCell') = true := by simp [Value.oneCell']
  have oB : (#[.int .i64 a1x0, .string a1x1, .string a1x2, .bool a1x3, .int .u64 a1x4, .bool a1x5, .bool a1x6, .bool a1x7, .bool a1x8, .int .i64 a1x9, .int .i64 a1x10, .int .i64 a1x11, .int .i64 a1x12, .int .i64 a1x13, .string a1x14] : Array Value).all (·.oneCell') = true := by simp [Value.oneCell']
  have OA : Hid _ := oA
  have OB : Hid _ := oB
  clear oA oB
  go_enter Trym.func6, Trym.ntmps6
  go_wp2_with (first
    | (refine wpList_load_row rfl 54 _ rfl w.heap.size rfl 54 #[.int .i64 a0x0, .string a0x1, .string a0x2, .bool a0x3, .int .u64 a0x4, .bool a0x5, .bool a0x6, .bool a0x7, .bool a0x8, .int .i64 a0x9, .int .i64 a0x10, .int .i64 a0x11, .int .i64 a0x12, .int .i64 a0x13, .string a0x14] (0, 0) _ (heap_alloc2_old w _ _) Trym.underlying54 rfl (by kernel_rfl) ?_)
    | (refine wpList_load_row rfl 54 _ rfl (w.heap.size + 1) rfl 54 #[.int .i64 a1x0, .string a1x1, .string a1x2, .bool a1x3, .int .u64 a1x4, .bool a1x5, .bool a1x6, .bool a1x7, .bool a1x8, .int .i64 a1x9, .int .i64 a1x10, .int .i64 a1x11, .int .i64 a1x12, .int .i64 a1x13, .string a1x14] (0, 0) _ (heap_alloc2_new w _ _) Trym.underlying54 rfl (by kernel_rfl) ?_))
  refine (bytes2_any a0x0 a0x1 a0x2 a0x3 a0x4 a0x5 a0x6 a0x7 a0x8 a0x9 a0x10 a0x11 a0x12 a0x13 a0x14 a1x0 a1x1 a1x2 a1x3 a1x4 a1x5 a1x6 a1x7 a1x8 a1x9 a1x10 a1x11 a1x12 a1x13 a1x14 a2 h1 h2 h14 k1 k2 k14 _).mono ?_
  rintro e W1 ⟨b, rfl, hg1⟩
  clear h1 h2 h14 k1 k2 k14
  have fA := grown_block hg1 (heap_alloc2_old w _ _)
  have fB := grown_block hg1 (heap_alloc2_new w _ _)
  have hG : Grown w W1 := Me.grown_trans (Grown.alloc (Grown.alloc (Grown.refl _) _ _) _ _) hg1
  clear hg1
  generalize hbb : w.heap.size + 1 = bb at *
  generalize hba : w.heap.size = ba at *
  clear hba hbb
  have FA : Hid _ := fA
  have FB : Hid _ := fB
  clear fA fB
  cases b
  · go_wp2
    go_ret
    exact ⟨rfl, hG⟩
  go_wp2_with (refine wpList_load_row rfl 54 _ rfl ba rfl 54 #[.int .i64 a0x0, .string a0x1, .string a0x2, .bool a0x3, .int .u64 a0x4, .bool a0x5, .bool a0x6, .bool a0x7, .bool a0x8, .int .i64 a0x9, .int .i64 a0x10, .int .i64 a0x11, .int .i64 a0x12, .int .i64 a0x13, .string a0x14] (0, 0) _ FA.out Trym.underlying54 rfl (by kernel_rfl) ?_)
  refine (bytesM_any 0 a0x0 a0x1 a0x2 a0x3 a0x4 a0x5 a0x6 a0x7 a0x8 a0x9 a0x10 a0x11 a0x12 a0x13 a0x14 (by decide) (by decide) _).mono ?_
  rintro e W2 ⟨n, rfl, n0, n1, hg2⟩
  have FA2 : Hid _ := grown_block hg2 FA.out
  have FB2 : Hid _ := grown_block hg2 FB.out
  have hG2 := Me.grown_trans hG hg2
  clear hg2 FA FB hG
  go_wp2_with (refine wpList_load_row rfl 54 _ rfl bb rfl 54 #[.int .i64 a1x0, .string a1x1, .string a1x2, .bool a1x3, .int .u64 a1x4, .bool a1x5, .bool a1x6, .bool a1x7, .bool a1x8, .int .i64 a1x9, .int .i64 a1x10, .int .i64 a1x11, .int .i64 a1x12, .int .i64 a1x13, .string a1x14] (0, 0) _ FB2.out Trym.underlying54 rfl (by kernel_rfl) ?_)
  refine (bytesM_any n a1x0 a1x1 a1x2 a1x3 a1x4 a1x5 a1x6 a1x7 a1x8 a1x9 a1x10 a1x11 a1x12 a1x13 a1x14 n0 n1 _).mono ?_
  rintro e W3 ⟨m, rfl, m0, m1, hg3⟩
  have fA := grown_block hg3 FA2.out
  have fB := grown_block hg3 FB2.out
  have hG3 := Me.grown_trans hG2 hg3
  clear hg3 FA2 FB2 hG2 n0 n1
  by_cases hn : 1048576 < m
  · clear fA fB
    go_wp2
    go_ret
    exact ⟨rfl, hG3⟩
  have cA : W3.cell? ⟨ba, 11, none⟩ = some (.int .i64 a0x11) := cell_of_row W3 ba 11 _ 54 (0, 0) fA
  have lA : ba < W3.heap.size := (Array.getElem?_eq_some_iff.1 fA).1
  have lB : bb < W3.heap.size := (Array.getElem?_eq_some_iff.1 fB).1
  have FA0 : Hid _ := fA
  have FB0 : Hid _ := fB
  have FA1 : Hid (∀ X, (W3.alloc X).heap[ba]? = some (.cells #[.int .i64 a0x0, .string a0x1, .string a0x2, .bool a0x3, .int .u64 a0x4, .bool a0x5, .bool a0x6, .bool a0x7, .bool a0x8, .int .i64 a0x9, .int .i64 a0x10, .int .i64 a0x11, .int .i64 a0x12, .int .i64 a0x13, .string a0x14] 54 (0, 0))) := fun X => (heap_alloc_old W3 X lA).trans fA
  have FA2 : Hid (∀ X Y, ((W3.alloc X).alloc Y).heap[ba]? = some (.cells #[.int .i64 a0x0, .string a0x1, .string a0x2, .bool a0x3, .int .u64 a0x4, .bool a0x5, .bool a0x6, .bool a0x7, .bool a0x8, .int .i64 a0x9, .int .i64 a0x10, .int .i64 a0x11, .int .i64 a0x12, .int .i64 a0x13, .string a0x14] 54 (0, 0))) := fun X Y => (heap_alloc_old _ Y (by show ba < (W3.heap.push X).size; simp; omega)).trans (FA1.out X)
  clear fA fB
  go_wp2_with (first
    | (refine wpList_load_row rfl 54 _ rfl bb rfl 54 #[.int .i64 a1x0, .string a1x1, .string a1x2, .bool a1x3, .int .u64 a1x4, .bool a1x5, .bool a1x6, .bool a1x7, .bool a1x8, .int .i64 a1x9, .int .i64 a1x10, .int .i64 a1x11, .int .i64 a1x12, .int .i64 a1x13, .string a1x14] (0, 0) _ FB0.out Trym.underlying54 rfl (by kernel_rfl) ?_)
    | (refine wpList_load_row rfl 54 _ rfl ba rfl 54 #[.int .i64 a0x0, .string a0x1, .string a0x2, .bool a0x3, .int .u64 a0x4, .bool a0x5, .bool a0x6, .bool a0x7, .bool a0x8, .int .i64 a0x9, .int .i64 a0x10, .int .i64 a0x11, .int .i64 a0x12, .int .i64 a0x13, .string a0x14] (0, 0) _ (FA1.out _) Trym.underlying54 rfl (by kernel_rfl) ?_)
    | (refine wpList_load_row rfl 54 _ rfl ba rfl 54 #[.int .i64 a0x0, .string a0x1, .string a0x2, .bool a0x3, .int .u64 a0x4, .bool a0x5, .bool a0x6, .bool a0x7, .bool a0x8, .int .i64 a0x9, .int .i64 a0x10, .int .i64 a0x11, .int .i64 a0x12, .int .i64 a0x13, .string a0x14] (0, 0) _ (FA2.out _ _) Trym.underlying54 rfl (by kernel_rfl) ?_)
    | (refine wpList_store_row rfl 54 _ _ rfl W3.heap.size #[.int .i64 a1x0, .string a1x1, .string a1x2, .bool a1x3, .int .u64 a1x4, .bool a1x5, .bool a1x6, .bool a1x7, .bool a1x8, .int .i64 a1x9, .int .i64 a1x10, .int .i64 a1x11, .int .i64 a1x12, .int .i64 a1x13, .string a1x14] rfl rfl 54 _ (heap_alloc_new W3 _) (by kernel_rfl) rfl OB.out ?_; rw [World.setRow_alloc_new])
    | (refine wpList_store_row rfl 54 _ _ rfl (W3.heap.size + 1) #[.int .i64 a0x0, .string a0x1, .string a0x2, .bool a0x3, .int .u64 a0x4, .bool a0x5, .bool a0x6, .bool a0x7, .bool a0x8, .int .i64 a0x9, .int .i64 a0x10, .int .i64 a0x11, .int .i64 a0x12, .int .i64 a0x13, .string a0x14] rfl rfl 54 _ (heap_alloc2_new W3 _ _) (by kernel_rfl) rfl OA.out ?_; rw [setRow_alloc2]))
  refine (hangs_any a0x0 a0x1 a0x2 a0x3 a0x4 a0x5 a0x6 a0x7 a0x8 a0x9 a0x10 a0x11 a0x12 a0x13 a0x14 a2 _).mono ?_
  rintro e W4 ⟨rfl, hg4⟩
  have FB4 : Hid _ := grown_block hg4 (heap_alloc2_old W3 _ _)
  have FA4 : Hid _ := grown_block hg4 (heap_alloc2_new W3 _ _)
  have hG4 : Grown w W4 := Me.grown_trans (Grown.alloc (Grown.alloc hG3 _ _) _ _) hg4
  clear hg4 hG3 FA0 FB0 FA1 FA2 cA
  go_wp2_with (refine wpList_load_row rfl 54 _ rfl W3.heap.size rfl 54 #[.int .i64 a1x0, .string a1x1, .string a1x2, .bool a1x3, .int .u64 a1x4, .bool a1x5, .bool a1x6, .bool a1x7, .bool a1x8, .int .i64 a1x9, .int .i64 a1x10, .int .i64 a0x11, .int .i64 a1x12, .int .i64 a1x13, .string a1x14] (0, 0) _ FB4.out Trym.underlying54 rfl (by kernel_rfl) ?_)
  refine (hangs_any a1x0 a1x1 a1x2 a1x3 a1x4 a1x5 a1x6 a1x7 a1x8 a1x9 a1x10 a0x11 a1x12 a1x13 a1x14 a2 _).mono ?_
  rintro e W5 ⟨rfl, hg5⟩
  have FA5 : Hid _ := grown_block hg5 FA4.out
  have hG5 := Me.grown_trans hG4 hg5
  clear hg5 hG4 FA4 FB4
  go_wp2_with (refine wpList_load_row rfl 54 _ rfl (W3.heap.size + 1) rfl 54 #[.int .i64 a0x0, .string a0x1, .string a0x2, .bool a0x3, .int .u64 a0x4, .bool a0x5, .bool a0x6, .bool a0x7, .bool a0x8, .int .i64 a0x9, .int .i64 a0x10, .int .i64 a2, .int .i64 a0x12, .int .i64 a0x13, .string a0x14] (0, 0) _ FA5.out Trym.underlying54 rfl (by kernel_rfl) ?_)
  refine (hangs_any a0x0 a0x1 a0x2 a0x3 a0x4 a0x5 a0x6 a0x7 a0x8 a0x9 a0x10 a2 a0x12 a0x13 a0x14 a0x11 _).mono ?_
  rintro e W6 ⟨rfl, hg6⟩
  have hG6 := Me.grown_trans hG5 hg6
  clear hg6 hG5 FA5
  rcases Int.lt_trichotomy a0x11 a2 with hlt | heq | hgt
  · have q1 : decide (a2 < a0x11) = false := by simp; omega
    have q2 : decide (a0x11 < a2) = true := by simp; omega
    have q3 : (a0x11 == a2) = false := by rw [beq_eq_false_iff_ne]; omega
    rw [q1, q2]
    go_wp2
    go_ret
    exact ⟨rfl, hG6⟩
  · subst heq
    have q1 : decide (a0x11 < a0x11) = false := by simp
    rw [q1]
    go_wp2
    go_ret
    exact ⟨rfl, hG6⟩
  · have q1 : decide (a2 < a0x11) = true := by simp; omega
    have q2 : decide (a0x11 < a2) = false := by simp; omega
    have q3 : (a0x11 == a2) = false := by rw [beq_eq_false_iff_ne]; omega
    rw [q1, q2]
    go_wp2
    go_ret
    exact ⟨rfl, hG6⟩

/-! ### THE WALK -/
theorem walk (a0x0 : Int) (a0x1 : ByteArray) (a0x2 : ByteArray) (a0x3 : Bool) (a0x4 : Int) (a0x5 : Bool) (a0x6 : Bool) (a0x7 : Bool) (a0x8 : Bool) (a0x9 : Int) (a0x10 : Int) (a0x11 : Int) (a0x12 : Int) (a0x13 : Int) (a0x14 : ByteArray) (a1x0 : Int) (a1x1 : ByteArray) (a1x2 : ByteArray) (a1x3 : Bool) (a1x4 : Int) (a1x5 : Bool) (a1x6 : Bool) (a1x7 : Bool) (a1x8 : Bool) (a1x9 : Int) (a1x10 : Int) (a1x11 : Int) (a1x12 : Int) (a1x13 : Int) (a1x14 : ByteArray) (a2 : Int) (w0x0 : (Lit.int .i64 a0x0).wf = true) (w0x1 : a0x1.size ≤ maxLen) (w0x2 : a0x2.size ≤ maxLen) (w0x4 : (Lit.int .u64 a0x4).wf = true) (w0x9 : (Lit.int .i64 a0x9).wf = true) (w0x10 : (Lit.int .i64 a0x10).wf = true) (w0x11 : (Lit.int .i64 a0x11).wf = true) (w0x12 : (Lit.int .i64 a0x12).wf = true) (w0x13 : (Lit.int .i64 a0x13).wf = true) (w0x14 : a0x14.size ≤ maxLen) (w1x0 : (Lit.int .i64 a1x0).wf = true) (w1x1 : a1x1.size ≤ maxLen) (w1x2 : a1x2.size ≤ maxLen) (w1x4 : (Lit.int .u64 a1x4).wf = true) (w1x9 : (Lit.int .i64 a1x9).wf = true) (w1x10 : (Lit.int .i64 a1x10).wf = true) (w1x11 : (Lit.int .i64 a1x11).wf = true) (w1x12 : (Lit.int .i64 a1x12).wf = true) (w1x13 : (Lit.int .i64 a1x13).wf = true) (w1x14 : a1x14.size ≤ maxLen) (w2 : (Lit.int .i64 a2).wf = true) (w : World) :
    Calls Trym.prog 6 #[.agg #[.int .i64 a0x0, .string a0x1, .string a0x2, .bool a0x3, .int .u64 a0x4, .bool a0x5, .bool a0x6, .bool a0x7, .bool a0x8, .int .i64 a0x9, .int .i64 a0x10, .int .i64 a0x11, .int .i64 a0x12, .int .i64 a0x13, .string a0x14], .agg #[.int .i64 a1x0, .string a1x1, .string a1x2, .bool a1x3, .int .u64 a1x4, .bool a1x5, .bool a1x6, .bool a1x7, .bool a1x8, .int .i64 a1x9, .int .i64 a1x10, .int .i64 a1x11, .int .i64 a1x12, .int .i64 a1x13, .string a1x14], .int .i64 a2] w fun e w' => e = .returned (.bool true) ∧ Grown w w' := by
  exact walk_at a0x0 a0x1 a0x2 a0x3 a0x4 a0x5 a0x6 a0x7 a0x8 a0x9 a0x10 a0x11 a0x12 a0x13 a0x14 a1x0 a1x1 a1x2 a1x3 a1x4 a1x5 a1x6 a1x7 a1x8 a1x9 a1x10 a1x11 a1x12 a1x13 a1x14 a2 w0x1 w0x2 w0x14 w1x1 w1x2 w1x14 w

/-! ### THE ROW's STEP -/
set_option maxRecDepth 100000 in
theorem lifted (os : Os) (started : os.Started) (H : Type) (enc : TypeId × Value → H) :
    ReturnsInHanded {} Trym.checked os 6 .any (Rows.fnReceiverHangsSwapAndOtherFieldsIdleSpec.pre6 enc Trym.prog Trym.f6 Rows.fnReceiverHangsSwapAndOtherFieldsIdleRow.domain false) (Rows.fnReceiverHangsSwapAndOtherFieldsIdleSpec.post enc Trym.prog Trym.f6 false true false false) := by
  refine returnsInHanded_of_change (C := Trym.checked) own started (by kernel_rfl) Trym.func6
    (ChangeSpec.witness6 (enc := enc) (C := Trym.checked) false ⟨#[], #[.agg #[.int .i64 0, .string ByteArray.empty, .string ByteArray.empty, .bool false, .int .u64 0, .bool false, .bool false, .bool false, .bool false, .int .i64 0, .int .i64 0, .int .i64 0, .int .i64 0, .int .i64 0, .string ByteArray.empty], .agg #[.int .i64 0, .string ByteArray.empty, .string ByteArray.empty, .bool false, .int .u64 0, .bool false, .bool false, .bool false, .bool false, .int .i64 0, .int .i64 0, .int .i64 0, .int .i64 0, .int .i64 0, .string ByteArray.empty], .int .i64 0], []⟩ 8 (by kernel_rfl) (by kernel_rfl) (by kernel_rfl) (by kernel_rfl)) ?_
  intro W base args ds gs before hval0 hW hcnd _
  have hval : ∀ (j : Nat) t v, Trym.f6.params[j]? = some t → args[j]? = some v → Value.okWide Trym.prog W .any base t v := hval0
  have hW' := hW
  obtain ⟨p, q, hA0, hV, rfl, hfz, hnd⟩ := hW
  have hA : DataW.TrodAll enc Trym.prog W 0 (fun _ => true) true Trym.f6.params.toList args.toList ds p := hA0
  rw [Trym.params6] at hA hval
  obtain ⟨v0, vs0, d0, ds0, p0, q0, hargs, rfl, rfl, h0, r0⟩ := trodAll_cons hA
  obtain ⟨v1, vs1, d1, ds1, p1, q1, rfl, rfl, rfl, h1, r1⟩ := trodAll_cons r0
  obtain ⟨v2, vs2, d2, ds2, p2, q2, rfl, rfl, rfl, h2, r2⟩ := trodAll_cons r1
  obtain ⟨rfl, rfl, rfl⟩ := trodAll_nil r2
  obtain rfl : args = #[v0, v1, v2] := by cases args; simp_all
  obtain ⟨rfl, rfl⟩ := trodVars_none hV
  obtain ⟨a0x0, a0x1, a0x2, a0x3, a0x4, a0x5, a0x6, a0x7, a0x8, a0x9, a0x10, a0x11, a0x12, a0x13, a0x14, rfl, rfl, ⟨w0x0, w0x1, w0x2, w0x4, w0x9, w0x10, w0x11, w0x12, w0x13, w0x14⟩, sh0⟩ := Op.open54 (hval 0 54 v0 rfl rfl) h0
  obtain ⟨a1x0, a1x1, a1x2, a1x3, a1x4, a1x5, a1x6, a1x7, a1x8, a1x9, a1x10, a1x11, a1x12, a1x13, a1x14, rfl, rfl, ⟨w1x0, w1x1, w1x2, w1x4, w1x9, w1x10, w1x11, w1x12, w1x13, w1x14⟩, sh1⟩ := Op.open54 (hval 1 54 v1 rfl rfl) h1
  obtain ⟨a2, rfl, rfl, rfl, w2⟩ := open_int Trym.underlying2 (hval 2 2 v2 rfl rfl) h2
  clear hA0 hval0
  simp only [List.append_nil] at hW'
  refine (walk a0x0 a0x1 a0x2 a0x3 a0x4 a0x5 a0x6 a0x7 a0x8 a0x9 a0x10 a0x11 a0x12 a0x13 a0x14 a1x0 a1x1 a1x2 a1x3 a1x4 a1x5 a1x6 a1x7 a1x8 a1x9 a1x10 a1x11 a1x12 a1x13 a1x14 a2 w0x0 w0x1 w0x2 w0x4 w0x9 w0x10 w0x11 w0x12 w0x13 w0x14 w1x0 w1x1 w1x2 w1x4 w1x9 w1x10 w1x11 w1x12 w1x13 w1x14 w2 W).mono fun e W' ⟨he, hg⟩ => ?_
  subst he
  exact ⟨_, rfl, post_of_same (pa := []) (pv := []) hW' (fun _ _ _ => (trodAll_cons_mk (shut_bool Trym.underlying4 _) trodAll_mk0)) (fun sp _ => (trodAll_cons_mk (sh0 _ _ _ _) (trodAll_cons_mk (sh1 _ _ _ _) (trodAll_cons_mk (shut_int Trym.underlying2 w2) trodAll_mk0)))) (fun _ _ => rfl) rfl
    (hg.frame _) hg.2.1 (ok_one (by kernel_rfl) rfl (okWide_bool_mk Trym.underlying4 _))⟩

theorem over : Rows.fnReceiverHangsSwapAndOtherFieldsIdleRow.holds Trym.pinned (OpenSpec.ofChange Rows.fnReceiverHangsSwapAndOtherFieldsIdleSpec) :=
  OpenClaim.holds_of_wide 6 Trym.f6 rfl rfl rfl rfl rfl rfl rfl ⟨rfl, rfl, rfl, rfl, rfl⟩ rfl rfl rfl rfl rfl (by kernel_rfl) Trym.func6 (by kernel_rfl)
    (of_decide_eq_true (by kernel_rfl)) (by unfold Func.isWrapper; first | (rw [if_pos (by decide +kernel)]; kernel_rfl) | (rw [if_neg (by decide +kernel)]; exact ⟨rfl, rfl⟩))
    (fun os started H enc _ => lifted os started H enc)

/-- ████ THE STATEMENT ████ -/
theorem proved : Rows.FnReceiverHangsSwapAndOtherFieldsIdleSaid :=
  over
#print axioms proved
end Go.Proofs.Qxb6613092aMods.fnReceiverHangsSwapAndOtherFieldsIdle
