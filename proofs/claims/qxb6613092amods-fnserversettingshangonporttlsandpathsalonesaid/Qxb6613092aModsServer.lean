/-
  THE WALKS over the server's settings (seat b6613092aM): zzCfgBytes, zzPathsBytes, zzConfig, zzPaths, TLS, serverSettings, ZZserverSettings.
-/
import Derived.Test.Qxb6613092aModsMember
import Derived.Deep.RegionHeld3
import Derived.BigQuiet
namespace Go.Proofs.Qxb6613092aMods.Se
open Go.RowKit
set_option linter.unusedVariables false

theorem setRow_alloc2 (w : World) (X : Obj) (c c' : Array Value) (t : TypeId) : ((w.alloc X).alloc (.cells c t)).setRow (w.heap.size + 1) c' = (w.alloc X).alloc (.cells c' t) := by
  have h := World.setRow_alloc_new (w.alloc X) c c' t
  have e : (w.alloc X).heap.size = w.heap.size + 1 := by
    show (w.heap.push X).size = _
    simp
  rwa [e] at h

/-- 'zzCfgBytes'. -/
theorem cfgBytes_any (acc : Int) (a0 : ByteArray) (a1 : ByteArray) (a2 : ByteArray) (a3 : Int) (a4 : ByteArray) (a5 : ByteArray) (a6 : ByteArray) (a7 : ByteArray) (a8 : ByteArray) (a9 : ByteArray) (a10 : ByteArray) (h0 : 0 ≤ acc) (h1 : acc ≤ 2097153) (w : World) :
    Calls Trym.prog 8 #[.int .i64 acc, .agg #[.string a0, .string a1, .string a2, .int .i64 a3, .string a4, .string a5, .string a6, .string a7, .string a8, .string a9, .string a10]] w fun e w' => ∃ n : Int, e = .returned (.int .i64 n) ∧ 0 ≤ n ∧ n ≤ 2097153 ∧ Grown w w' := by
  go_enter Trym.func8, Trym.ntmps8
  go_wp2_with fail
  refine (Me.add_any acc a0 h0 h1 _).mono ?_
  rintro e w' ⟨n0, rfl, x0, y0, rfl⟩
  go_wp2_with fail
  refine (Me.add_any n0 a1 x0 y0 _).mono ?_
  rintro e w' ⟨n1, rfl, x1, y1, rfl⟩
  go_wp2_with fail
  refine (Me.add_any n1 a2 x1 y1 _).mono ?_
  rintro e w' ⟨n2, rfl, x2, y2, rfl⟩
  go_wp2_with fail
  refine (Me.add_any n2 a4 x2 y2 _).mono ?_
  rintro e w' ⟨n3, rfl, x3, y3, rfl⟩
  go_wp2_with fail
  refine (Me.add_any n3 a5 x3 y3 _).mono ?_
  rintro e w' ⟨n4, rfl, x4, y4, rfl⟩
  go_wp2_with fail
  refine (Me.add_any n4 a6 x4 y4 _).mono ?_
  rintro e w' ⟨n5, rfl, x5, y5, rfl⟩
  go_wp2_with fail
  refine (Me.add_any n5 a7 x5 y5 _).mono ?_
  rintro e w' ⟨n6, rfl, x6, y6, rfl⟩
  go_wp2_with fail
  refine (Me.add_any n6 a8 x6 y6 _).mono ?_
  rintro e w' ⟨n7, rfl, x7, y7, rfl⟩
  go_wp2_with fail
  refine (Me.add_any n7 a9 x7 y7 _).mono ?_
  rintro e w' ⟨n8, rfl, x8, y8, rfl⟩
  go_wp2_with fail
  refine (Me.add_any n8 a10 x8 y8 _).mono ?_
  rintro e w' ⟨n9, rfl, x9, y9, rfl⟩
  go_wp2
  go_ret
  exact ⟨_, rfl, x9, y9, Grown.alloc (Grown.refl _) _ _⟩

/-- 'zzPathsBytes'. -/
theorem pathsBytes_any (acc : Int) (p0 : ByteArray) (p1 : ByteArray) (p2 : ByteArray) (p3 : ByteArray) (p4 : ByteArray) (p5 : ByteArray) (p6 : ByteArray) (p7 : ByteArray) (p8 : ByteArray) (p9 : ByteArray) (p10 : ByteArray) (h0 : 0 ≤ acc) (h1 : acc ≤ 2097153) (w : World) :
    Calls Trym.prog 9 #[.int .i64 acc, .agg #[.string p0, .string p1, .string p2, .string p3, .string p4, .string p5, .string p6, .string p7, .string p8, .string p9, .string p10]] w fun e w' => ∃ n : Int, e = .returned (.int .i64 n) ∧ 0 ≤ n ∧ n ≤ 2097153 ∧ Grown w w' := by
  go_enter Trym.func9, Trym.ntmps9
  go_wp2_with fail
  refine (Me.add_any acc p0 h0 h1 _).mono ?_
  rintro e w' ⟨n0, rfl, x0, y0, rfl⟩
  go_wp2_with fail
  refine (Me.add_any n0 p1 x0 y0 _).mono ?_
  rintro e w' ⟨n1, rfl, x1, y1, rfl⟩
  go_wp2_with fail
  refine (Me.add_any n1 p2 x1 y1 _).mono ?_
  rintro e w' ⟨n2, rfl, x2, y2, rfl⟩
  go_wp2_with fail
  refine (Me.add_any n2 p3 x2 y2 _).mono ?_
  rintro e w' ⟨n3, rfl, x3, y3, rfl⟩
  go_wp2_with fail
  refine (Me.add_any n3 p4 x3 y3 _).mono ?_
  rintro e w' ⟨n4, rfl, x4, y4, rfl⟩
  go_wp2_with fail
  refine (Me.add_any n4 p5 x4 y4 _).mono ?_
  rintro e w' ⟨n5, rfl, x5, y5, rfl⟩
  go_wp2_with fail
  refine (Me.add_any n5 p6 x5 y5 _).mono ?_
  rintro e w' ⟨n6, rfl, x6, y6, rfl⟩
  go_wp2_with fail
  refine (Me.add_any n6 p7 x6 y6 _).mono ?_
  rintro e w' ⟨n7, rfl, x7, y7, rfl⟩
  go_wp2_with fail
  refine (Me.add_any n7 p8 x7 y7 _).mono ?_
  rintro e w' ⟨n8, rfl, x8, y8, rfl⟩
  go_wp2_with fail
  refine (Me.add_any n8 p9 x8 y8 _).mono ?_
  rintro e w' ⟨n9, rfl, x9, y9, rfl⟩
  go_wp2_with fail
  refine (Me.add_any n9 p10 x9 y9 _).mono ?_
  rintro e w' ⟨n10, rfl, x10, y10, rfl⟩
  go_wp2
  go_ret
  exact ⟨_, rfl, x10, y10, Grown.alloc (Grown.refl _) _ _⟩

/-- 'zzConfig'. -/
theorem config_any (a0 : ByteArray) (a1 : ByteArray) (a2 : ByteArray) (a3 : Int) (a4 : ByteArray) (a5 : ByteArray) (a6 : ByteArray) (a7 : ByteArray) (a8 : ByteArray) (a9 : ByteArray) (a10 : ByteArray) (w : World) :
    Calls Trym.prog 11 #[.agg #[.string a0, .string a1, .string a2, .int .i64 a3, .string a4, .string a5, .string a6, .string a7, .string a8, .string a9, .string a10]] w fun e w' => e = .returned (.agg #[.string a0, .string a1, .string a2, .int .i64 a3, .string a4, .string a5, .string a6, .string a7, .string a8, .string a9, .string a10, .pointer none, .pointer none, .pointer none, .pointer none]) ∧ Grown w w' := by
  have o1 : (#[.string a0, .string a1, .string a2, .int .i64 a3, .string a4, .string a5, .string a6, .string a7, .string a8, .string a9, .string a10, .pointer none, .pointer none, .pointer none, .pointer none] : Array Value).all (·.oneCell') = true := by simp [Value.oneCell']
  have O1 : Hid _ := o1
  clear o1
  go_enter Trym.func11, Trym.ntmps11
  go_wp2_with (refine wpList_store_row rfl 42 _ _ rfl (w.heap.size + 1) #[.string a0, .string a1, .string a2, .int .i64 a3, .string a4, .string a5, .string a6, .string a7, .string a8, .string a9, .string a10, .pointer none, .pointer none, .pointer none, .pointer none] rfl rfl 42 _ (heap_alloc2_new w _ _) (by kernel_rfl) rfl O1.out ?_)
  exact bodyPost_ret (v := .agg #[.string a0, .string a1, .string a2, .int .i64 a3, .string a4, .string a5, .string a6, .string a7, .string a8, .string a9, .string a10, .pointer none, .pointer none, .pointer none, .pointer none]) (results_cell_row Trym.results11 _ _ (w.heap.size + 1) 42 #[.string a0, .string a1, .string a2, .int .i64 a3, .string a4, .string a5, .string a6, .string a7, .string a8, .string a9, .string a10, .pointer none, .pointer none, .pointer none, .pointer none] (0, 0) _ rfl (by rw [setRow_alloc2]; exact heap_alloc2_new w _ _) Trym.underlying42 rfl (by kernel_rfl)) rfl ⟨rfl, by rw [setRow_alloc2]; exact Grown.alloc (Grown.alloc (Grown.refl _) _ _) _ _⟩

/-- 'zzPaths'. -/
theorem paths_any (p0 : ByteArray) (p1 : ByteArray) (p2 : ByteArray) (p3 : ByteArray) (p4 : ByteArray) (p5 : ByteArray) (p6 : ByteArray) (p7 : ByteArray) (p8 : ByteArray) (p9 : ByteArray) (p10 : ByteArray) (w : World) :
    Calls Trym.prog 12 #[.agg #[.string p0, .string p1, .string p2, .string p3, .string p4, .string p5, .string p6, .string p7, .string p8, .string p9, .string p10]] w fun e w' => e = .returned (.agg #[.string p0, .string p1, .string p2, .string p3, .string p4, .string p5, .string p6, .string p7, .string p8, .string p9, .string p10]) ∧ Grown w w' := by
  have o1 : (#[.string p0, .string p1, .string p2, .string p3, .string p4, .string p5, .string p6, .string p7, .string p8, .string p9, .string p10] : Array Value).all (·.oneCell') = true := by simp [Value.oneCell']
  have O1 : Hid _ := o1
  clear o1
  go_enter Trym.func12, Trym.ntmps12
  go_wp2_with (refine wpList_store_row rfl 44 _ _ rfl (w.heap.size + 1) #[.string p0, .string p1, .string p2, .string p3, .string p4, .string p5, .string p6, .string p7, .string p8, .string p9, .string p10] rfl rfl 44 _ (heap_alloc2_new w _ _) (by kernel_rfl) rfl O1.out ?_)
  exact bodyPost_ret (v := .agg #[.string p0, .string p1, .string p2, .string p3, .string p4, .string p5, .string p6, .string p7, .string p8, .string p9, .string p10]) (results_cell_row Trym.results12 _ _ (w.heap.size + 1) 44 #[.string p0, .string p1, .string p2, .string p3, .string p4, .string p5, .string p6, .string p7, .string p8, .string p9, .string p10] (0, 0) _ rfl (by rw [setRow_alloc2]; exact heap_alloc2_new w _ _) Trym.underlying44 rfl (by kernel_rfl)) rfl ⟨rfl, by rw [setRow_alloc2]; exact Grown.alloc (Grown.alloc (Grown.refl _) _ _) _ _⟩

/-- Does the string say 'self-signed'? -/
def isTLS (s : ByteArray) : Bool := s.toList == [115, 101, 108, 102, 45, 115, 105, 103, 110, 101, 100]
/-- '(SSL).TLS'. -/
theorem tls_any (s : ByteArray) (w : World) :
    Calls Trym.prog 16 #[.string s] w fun e w' => e = .returned (.bool (isTLS s)) ∧ w' = w := by
  go_enter Trym.func16, Trym.ntmps16
  go_wp2
  go_ret
  exact ⟨rfl, rfl⟩
/-- '(Config).TLS'. -/
theorem cfgTls_any (a0 : ByteArray) (a1 : ByteArray) (a2 : ByteArray) (a3 : Int) (a4 : ByteArray) (a5 : ByteArray) (a6 : ByteArray) (a7 : ByteArray) (a8 : ByteArray) (a9 : ByteArray) (a10 : ByteArray) (w : World) :
    Calls Trym.prog 26 #[.agg #[.string a0, .string a1, .string a2, .int .i64 a3, .string a4, .string a5, .string a6, .string a7, .string a8, .string a9, .string a10, .pointer none, .pointer none, .pointer none, .pointer none]] w fun e w' => e = .returned (.bool (isTLS a6)) ∧ Grown w w' := by
  go_enter Trym.func26, Trym.ntmps26
  go_wp2_with (go_at_call 16; refine (tls_any a6 _).mono ?_; rintro e w' ⟨rfl, rfl⟩)
  go_ret
  exact ⟨rfl, Grown.alloc (Grown.refl _) _ _⟩

/-! ### blocks behind blocks -/
theorem grown_block {w w' : World} (h : Grown w w') {b : Nat} {c : Array Value} {t : TypeId} {fr : Nat × Nat} (hb : w.heap[b]? = some (.cells c t fr)) : w'.heap[b]? = some (.cells c t fr) := by
  have hlt : b < w.heap.size := (Array.getElem?_eq_some_iff.1 hb).1
  have h3 := h.1.2.2 b hlt
  rw [hb] at h3
  generalize w'.heap[b]? = y at h3 ⊢
  cases y with
  | none => simp at h3
  | some o =>
    cases o
    case cells c' t' fr' =>
      obtain ⟨rfl, rfl, h5, h6⟩ := h3
      congr 2
      apply Array.ext_getElem?
      intro i
      exact h6 i (fun f => f)
    all_goals simp at h3
theorem grown_setRow {W w' : World} (h : Grown W w') {b : Nat} {c0 : Array Value} {t : TypeId} (hw : w'.heap[b]? = some (.cells c0 t (0, 0))) (hb : W.heap.size ≤ b) (c : Array Value) : Grown W (w'.setRow b c) := by
  obtain ⟨⟨h1, h2, h3⟩, hf, hs⟩ := h
  refine ⟨⟨h1, h2, fun i hi => ?_⟩, fun x => ?_, by simpa using hs⟩
  · rw [setRow_other w' b i c (by omega)]
    exact h3 i hi
  · rw [← hf x]
    by_cases hx : x.block = b
    · have e1 : (w'.setRow b c).heap[x.block]? = some (.cells c t (0, 0)) := by rw [hx]; exact setRow_heap w' b c0 _ t _ hw
      have e2 : w'.heap[x.block]? = some (.cells c0 t (0, 0)) := by rw [hx]; exact hw
      simp [World.frozen?, e1, e2]
    · simp [World.frozen?, setRow_other w' b x.block c hx]
theorem h4_0 (w : World) (A B C D : Obj) : ((((w.alloc A).alloc B).alloc C).alloc D).heap[w.heap.size]? = some A := by
  show ((((w.heap.push A).push B).push C).push D)[w.heap.size]? = _
  simp only [Array.getElem?_push, Array.size_push]
  rw [if_neg (by omega), if_neg (by omega), if_neg (by omega), if_pos trivial]
theorem h4_1 (w : World) (A B C D : Obj) : ((((w.alloc A).alloc B).alloc C).alloc D).heap[w.heap.size + 1]? = some B := by
  show ((((w.heap.push A).push B).push C).push D)[w.heap.size + 1]? = _
  simp only [Array.getElem?_push, Array.size_push]
  rw [if_neg (by omega), if_neg (by omega), if_pos trivial]
theorem h4_2 (w : World) (A B C D : Obj) : ((((w.alloc A).alloc B).alloc C).alloc D).heap[w.heap.size + 1 + 1]? = some C := by
  show ((((w.heap.push A).push B).push C).push D)[w.heap.size + 1 + 1]? = _
  simp only [Array.getElem?_push, Array.size_push]
  rw [if_neg (by omega), if_pos trivial]
theorem h4_3 (w : World) (A B C D : Obj) : ((((w.alloc A).alloc B).alloc C).alloc D).heap[w.heap.size + 1 + 1 + 1]? = some D := by
  show ((((w.heap.push A).push B).push C).push D)[w.heap.size + 1 + 1 + 1]? = _
  simp only [Array.getElem?_push, Array.size_push]
  rw [if_pos trivial]

set_option maxHeartbeats 400000 in
/-- 'serverSettings' without TLS. -/
theorem server_no (a0 : ByteArray) (a1 : ByteArray) (a2 : ByteArray) (a3 : Int) (a4 : ByteArray) (a5 : ByteArray) (a6 : ByteArray) (a7 : ByteArray) (a8 : ByteArray) (a9 : ByteArray) (a10 : ByteArray) (p0 : ByteArray) (p1 : ByteArray) (p2 : ByteArray) (p3 : ByteArray) (p4 : ByteArray) (p5 : ByteArray) (p6 : ByteArray) (p7 : ByteArray) (p8 : ByteArray) (p9 : ByteArray) (p10 : ByteArray) (w : World) (ht : isTLS a6 = false) :
    Calls Trym.prog 22 #[.agg #[.string a0, .string a1, .string a2, .int .i64 a3, .string a4, .string a5, .string a6, .string a7, .string a8, .string a9, .string a10, .pointer none, .pointer none, .pointer none, .pointer none], .agg #[.string p0, .string p1, .string p2, .string p3, .string p4, .string p5, .string p6, .string p7, .string p8, .string p9, .string p10]] w fun e w' => e = .returned (.agg #[.int .i64 a3, .string p4, .string ⟨#[42]⟩, .string ⟨#[]⟩, .bool false, .slice none 0 0, .bool false, .int .i64 300, .int .i64 0, .int .i64 0, .int .i64 0, .pointer none, .pointer none]) ∧ Grown w w' := by
  have o1 : (#[.int .i64 a3, .string p4, .string ⟨#[42]⟩, .string ⟨#[]⟩, .bool false, .slice none 0 0, .bool false, .int .i64 300, .int .i64 0, .int .i64 0, .int .i64 0, .pointer none, .pointer none] : Array Value).all (·.oneCell') = true := by simp [Value.oneCell']
  have O1 : Hid _ := o1
  clear o1
  go_enter Trym.func22, Trym.ntmps22
  go_wp2_with (refine wpList_load_row rfl 42 _ rfl w.heap.size rfl 42 #[.string a0, .string a1, .string a2, .int .i64 a3, .string a4, .string a5, .string a6, .string a7, .string a8, .string a9, .string a10, .pointer none, .pointer none, .pointer none, .pointer none] (0, 0) _ ?hx Trym.underlying42 rfl (by kernel_rfl) ?_)
  case hx => exact h4_0 w _ _ _ _
  refine (cfgTls_any a0 a1 a2 a3 a4 a5 a6 a7 a8 a9 a10 _).mono ?_
  rintro e W' ⟨rfl, hg⟩
  rw [ht]
  have fR := grown_block hg (h4_2 w _ _ _ _)
  have fS := grown_block hg (h4_3 w _ _ _ _)
  have hG : Grown w W' := Me.grown_trans (Grown.alloc (Grown.alloc (Grown.alloc (Grown.alloc (Grown.refl _) _ _) _ _) _ _) _ _) hg
  clear hg
  have FR : Hid _ := fR
  have FS : Hid _ := fS
  clear fR fS
  go_wp2_with (first
    | (refine wpList_load_row rfl 33 _ rfl (w.heap.size + 1 + 1 + 1) rfl 33 #[.int .i64 a3, .string p4, .string ⟨#[42]⟩, .string ⟨#[]⟩, .bool false, .slice none 0 0, .bool false, .int .i64 300, .int .i64 0, .int .i64 0, .int .i64 0, .pointer none, .pointer none] (0, 0) _ FS.out Trym.underlying33 rfl (by kernel_rfl) ?_)
    | (refine wpList_store_row rfl 33 _ _ rfl (w.heap.size + 1 + 1) #[.int .i64 a3, .string p4, .string ⟨#[42]⟩, .string ⟨#[]⟩, .bool false, .slice none 0 0, .bool false, .int .i64 300, .int .i64 0, .int .i64 0, .int .i64 0, .pointer none, .pointer none] rfl rfl 33 _ FR.out (by kernel_rfl) rfl O1.out ?_))
  exact bodyPost_ret (v := .agg #[.int .i64 a3, .string p4, .string ⟨#[42]⟩, .string ⟨#[]⟩, .bool false, .slice none 0 0, .bool false, .int .i64 300, .int .i64 0, .int .i64 0, .int .i64 0, .pointer none, .pointer none]) (results_cell_row Trym.results22 _ _ (w.heap.size + 1 + 1) 33 #[.int .i64 a3, .string p4, .string ⟨#[42]⟩, .string ⟨#[]⟩, .bool false, .slice none 0 0, .bool false, .int .i64 300, .int .i64 0, .int .i64 0, .int .i64 0, .pointer none, .pointer none] (0, 0) _ rfl (setRow_heap W' _ _ _ 33 _ FR.out) Trym.underlying33 rfl (by kernel_rfl)) rfl ⟨rfl, grown_setRow hG FR.out (by omega) _⟩

set_option maxHeartbeats 400000 in
/-- 'serverSettings' with TLS. -/
theorem server_yes (a0 : ByteArray) (a1 : ByteArray) (a2 : ByteArray) (a3 : Int) (a4 : ByteArray) (a5 : ByteArray) (a6 : ByteArray) (a7 : ByteArray) (a8 : ByteArray) (a9 : ByteArray) (a10 : ByteArray) (p0 : ByteArray) (p1 : ByteArray) (p2 : ByteArray) (p3 : ByteArray) (p4 : ByteArray) (p5 : ByteArray) (p6 : ByteArray) (p7 : ByteArray) (p8 : ByteArray) (p9 : ByteArray) (p10 : ByteArray) (w : World) (ht : isTLS a6 = true) :
    Calls Trym.prog 22 #[.agg #[.string a0, .string a1, .string a2, .int .i64 a3, .string a4, .string a5, .string a6, .string a7, .string a8, .string a9, .string a10, .pointer none, .pointer none, .pointer none, .pointer none], .agg #[.string p0, .string p1, .string p2, .string p3, .string p4, .string p5, .string p6, .string p7, .string p8, .string p9, .string p10]] w fun e w' => ∃ b : Nat, e = .returned (.agg #[.int .i64 a3, .string p4, .string ⟨#[42]⟩, .string ⟨#[]⟩, .bool false, .slice none 0 0, .bool false, .int .i64 300, .int .i64 0, .int .i64 0, .int .i64 0, .pointer (some ⟨b, 0, none⟩), .pointer none]) ∧ w.heap.size ≤ b ∧ w'.heap[b]? = some (.cells #[.string p9, .string p10] 51 (0, 0)) ∧ Grown w w' := by
  go_enter Trym.func22, Trym.ntmps22
  go_wp2_with (refine wpList_load_row rfl 42 _ rfl w.heap.size rfl 42 #[.string a0, .string a1, .string a2, .int .i64 a3, .string a4, .string a5, .string a6, .string a7, .string a8, .string a9, .string a10, .pointer none, .pointer none, .pointer none, .pointer none] (0, 0) _ ?hx Trym.underlying42 rfl (by kernel_rfl) ?_)
  case hx => exact h4_0 w _ _ _ _
  refine (cfgTls_any a0 a1 a2 a3 a4 a5 a6 a7 a8 a9 a10 _).mono ?_
  rintro e W' ⟨rfl, hg⟩
  rw [ht]
  have fP := grown_block hg (h4_1 w _ _ _ _)
  have fR := grown_block hg (h4_2 w _ _ _ _)
  have fS := grown_block hg (h4_3 w _ _ _ _)
  have hG : Grown w W' := Me.grown_trans (Grown.alloc (Grown.alloc (Grown.alloc (Grown.alloc (Grown.refl _) _ _) _ _) _ _) _ _) hg
  clear hg
  have o1 : (#[.int .i64 a3, .string p4, .string ⟨#[42]⟩, .string ⟨#[]⟩, .bool false, .slice none 0 0, .bool false, .int .i64 300, .int .i64 0, .int .i64 0, .int .i64 0, .pointer (some ⟨W'.heap.size, 0, none⟩), .pointer none] : Array Value).all (·.oneCell') = true := by simp [Value.oneCell']
  have O1 : Hid _ := o1
  clear o1
  have c9 : W'.cell? ⟨w.heap.size + 1, 9, none⟩ = some (.string p9) := cell_of_row W' _ 9 _ 44 (0, 0) fP
  have c10 : W'.cell? ⟨w.heap.size + 1, 10, none⟩ = some (.string p10) := cell_of_row W' _ 10 _ 44 (0, 0) fP
  have c11 : W'.cell? ⟨w.heap.size + 1 + 1 + 1, 11, none⟩ = some (.pointer none) := cell_of_row W' _ 11 _ 33 (0, 0) fS
  have z11 : W'.frozen? ⟨w.heap.size + 1 + 1 + 1, 11, none⟩ = false := frozen_of_row W' _ 11 _ 33 fS
  have lS : w.heap.size + 1 + 1 + 1 < W'.heap.size := (Array.getElem?_eq_some_iff.1 fS).1
  have lR : w.heap.size + 1 + 1 < W'.heap.size := (Array.getElem?_eq_some_iff.1 fR).1
  have hsz : ∀ a v, (W'.setCell a v).heap.size = W'.heap.size := fun a v => by simp [World.setCell]
  have FS : Hid (∀ X, ((W'.setCell ⟨w.heap.size + 1 + 1 + 1, 11, none⟩ (.pointer (some ⟨W'.heap.size, 0, none⟩))).alloc X).heap[w.heap.size + 1 + 1 + 1]? = some (.cells #[.int .i64 a3, .string p4, .string ⟨#[42]⟩, .string ⟨#[]⟩, .bool false, .slice none 0 0, .bool false, .int .i64 300, .int .i64 0, .int .i64 0, .int .i64 0, .pointer (some ⟨W'.heap.size, 0, none⟩), .pointer none] 33 (0, 0))) := fun X =>
    (heap_alloc_old _ X (by rw [hsz]; exact lS)).trans (heap_setCell_same W' _ 11 _ 33 _ fS)
  have FR : Hid (∀ X, ((W'.setCell ⟨w.heap.size + 1 + 1 + 1, 11, none⟩ (.pointer (some ⟨W'.heap.size, 0, none⟩))).alloc X).heap[w.heap.size + 1 + 1]? = some (.cells #[.int .i64 0, .string ⟨#[]⟩, .string ⟨#[]⟩, .string ⟨#[]⟩, .bool false, .slice none 0 0, .bool false, .int .i64 0, .int .i64 0, .int .i64 0, .int .i64 0, .pointer none, .pointer none] 33 (0, 0))) := fun X =>
    (heap_alloc_old _ X (by rw [hsz]; exact lR)).trans ((heap_setCell_other W' _ _ _ (by simp)).trans fR)
  have HSZ : Hid _ := hsz
  clear fP fR fS hsz
  go_wp2_with (first
    | (refine wpList_load_row rfl 33 _ rfl (w.heap.size + 1 + 1 + 1) rfl 33 #[.int .i64 a3, .string p4, .string ⟨#[42]⟩, .string ⟨#[]⟩, .bool false, .slice none 0 0, .bool false, .int .i64 300, .int .i64 0, .int .i64 0, .int .i64 0, .pointer (some ⟨W'.heap.size, 0, none⟩), .pointer none] (0, 0) _ (FS.out _) Trym.underlying33 rfl (by kernel_rfl) ?_)
    | (refine wpList_store_row rfl 33 _ _ rfl (w.heap.size + 1 + 1) #[.int .i64 a3, .string p4, .string ⟨#[42]⟩, .string ⟨#[]⟩, .bool false, .slice none 0 0, .bool false, .int .i64 300, .int .i64 0, .int .i64 0, .int .i64 0, .pointer (some ⟨W'.heap.size, 0, none⟩), .pointer none] rfl rfl 33 _ (FR.out _) (by kernel_rfl) rfl O1.out ?_))
  refine bodyPost_ret (v := .agg #[.int .i64 a3, .string p4, .string ⟨#[42]⟩, .string ⟨#[]⟩, .bool false, .slice none 0 0, .bool false, .int .i64 300, .int .i64 0, .int .i64 0, .int .i64 0, .pointer (some ⟨W'.heap.size, 0, none⟩), .pointer none]) (results_cell_row Trym.results22 _ _ (w.heap.size + 1 + 1) 33 #[.int .i64 a3, .string p4, .string ⟨#[42]⟩, .string ⟨#[]⟩, .bool false, .slice none 0 0, .bool false, .int .i64 300, .int .i64 0, .int .i64 0, .int .i64 0, .pointer (some ⟨W'.heap.size, 0, none⟩), .pointer none] (0, 0) _ rfl (setRow_heap _ _ _ _ 33 _ (FR.out _)) Trym.underlying33 rfl (by kernel_rfl)) rfl ⟨W'.heap.size, rfl, hG.2.2, ?_, ?_⟩
  · rw [setRow_other _ _ _ _ (by omega)]
    have h := heap_alloc_new (W'.setCell ⟨w.heap.size + 1 + 1 + 1, 11, none⟩ (.pointer (some ⟨W'.heap.size, 0, none⟩))) (.cells #[.string p9, .string p10] 51)
    rw [HSZ.out] at h
    exact h
  · exact grown_setRow (Grown.alloc (Grown.setCell hG (by simp; omega) _) _ _) (FR.out _) (by omega) _

theorem h3_0 (w : World) (A B C : Obj) : (((w.alloc A).alloc B).alloc C).heap[w.heap.size]? = some A := by
  show (((w.heap.push A).push B).push C)[w.heap.size]? = _
  simp only [Array.getElem?_push, Array.size_push]
  rw [if_neg (by omega), if_neg (by omega), if_pos trivial]
theorem h3_1 (w : World) (A B C : Obj) : (((w.alloc A).alloc B).alloc C).heap[w.heap.size + 1]? = some B := by
  show (((w.heap.push A).push B).push C)[w.heap.size + 1]? = _
  simp only [Array.getElem?_push, Array.size_push]
  rw [if_neg (by omega), if_pos trivial]
theorem h3_2 (w : World) (A B C : Obj) : (((w.alloc A).alloc B).alloc C).heap[w.heap.size + 1 + 1]? = some C := by
  show (((w.heap.push A).push B).push C)[w.heap.size + 1 + 1]? = _
  simp only [Array.getElem?_push, Array.size_push]
  rw [if_pos trivial]

set_option maxHeartbeats 400000 in
/-- 'ZZserverSettings' without TLS. -/
theorem zzServer_no (a0 : ByteArray) (a1 : ByteArray) (a2 : ByteArray) (a3 : Int) (a4 : ByteArray) (a5 : ByteArray) (a6 : ByteArray) (a7 : ByteArray) (a8 : ByteArray) (a9 : ByteArray) (a10 : ByteArray) (p0 : ByteArray) (p1 : ByteArray) (p2 : ByteArray) (p3 : ByteArray) (p4 : ByteArray) (p5 : ByteArray) (p6 : ByteArray) (p7 : ByteArray) (p8 : ByteArray) (p9 : ByteArray) (p10 : ByteArray) (w : World) (ht : isTLS a6 = false) :
    Calls Trym.prog 10 #[.agg #[.string a0, .string a1, .string a2, .int .i64 a3, .string a4, .string a5, .string a6, .string a7, .string a8, .string a9, .string a10, .pointer none, .pointer none, .pointer none, .pointer none], .agg #[.string p0, .string p1, .string p2, .string p3, .string p4, .string p5, .string p6, .string p7, .string p8, .string p9, .string p10]] w fun e w' => e = .returned (.agg #[.int .i64 a3, .string p4, .string ⟨#[42]⟩, .string ⟨#[]⟩, .bool false, .slice none 0 0, .bool false, .int .i64 300, .int .i64 0, .int .i64 0, .int .i64 0, .pointer none, .pointer none]) ∧ Grown w w' := by
  go_enter Trym.func10, Trym.ntmps10
  go_wp2_with (first
    | (refine wpList_load_row rfl 42 _ rfl w.heap.size rfl 42 #[.string a0, .string a1, .string a2, .int .i64 a3, .string a4, .string a5, .string a6, .string a7, .string a8, .string a9, .string a10, .pointer none, .pointer none, .pointer none, .pointer none] (0, 0) _ ?hx Trym.underlying42 rfl (by kernel_rfl) ?_)
    | (refine wpList_load_row rfl 44 _ rfl (w.heap.size + 1) rfl 44 #[.string p0, .string p1, .string p2, .string p3, .string p4, .string p5, .string p6, .string p7, .string p8, .string p9, .string p10] (0, 0) _ ?hy Trym.underlying44 rfl (by kernel_rfl) ?_))
  case hx => exact h3_0 w _ _ _
  case hy => exact h3_1 w _ _ _
  refine (server_no a0 a1 a2 a3 a4 a5 a6 a7 a8 a9 a10 p0 p1 p2 p3 p4 p5 p6 p7 p8 p9 p10 _ ht).mono ?_
  rintro e W' ⟨rfl, hg⟩
  have o1 : (#[.int .i64 a3, .string p4, .string ⟨#[42]⟩, .string ⟨#[]⟩, .bool false, .slice none 0 0, .bool false, .int .i64 300, .int .i64 0, .int .i64 0, .int .i64 0, .pointer none, .pointer none] : Array Value).all (·.oneCell') = true := by simp [Value.oneCell']
  have O1 : Hid _ := o1
  clear o1
  have fR := grown_block hg (h3_2 w _ _ _)
  have hG : Grown w W' := Me.grown_trans (Grown.alloc (Grown.alloc (Grown.alloc (Grown.refl _) _ _) _ _) _ _) hg
  clear hg
  have FR : Hid _ := fR
  clear fR
  go_wp2_with (refine wpList_store_row rfl 33 _ _ rfl (w.heap.size + 1 + 1) #[.int .i64 a3, .string p4, .string ⟨#[42]⟩, .string ⟨#[]⟩, .bool false, .slice none 0 0, .bool false, .int .i64 300, .int .i64 0, .int .i64 0, .int .i64 0, .pointer none, .pointer none] rfl rfl 33 _ FR.out (by kernel_rfl) rfl O1.out ?_)
  exact bodyPost_ret (v := .agg #[.int .i64 a3, .string p4, .string ⟨#[42]⟩, .string ⟨#[]⟩, .bool false, .slice none 0 0, .bool false, .int .i64 300, .int .i64 0, .int .i64 0, .int .i64 0, .pointer none, .pointer none]) (results_cell_row Trym.results10 _ _ (w.heap.size + 1 + 1) 33 #[.int .i64 a3, .string p4, .string ⟨#[42]⟩, .string ⟨#[]⟩, .bool false, .slice none 0 0, .bool false, .int .i64 300, .int .i64 0, .int .i64 0, .int .i64 0, .pointer none, .pointer none] (0, 0) _ rfl (setRow_heap W' _ _ _ 33 _ FR.out) Trym.underlying33 rfl (by kernel_rfl)) rfl ⟨rfl, grown_setRow hG FR.out (by omega) _⟩

set_option maxHeartbeats 400000 in
/-- 'ZZserverSettings' with TLS. -/
theorem zzServer_yes (a0 : ByteArray) (a1 : ByteArray) (a2 : ByteArray) (a3 : Int) (a4 : ByteArray) (a5 : ByteArray) (a6 : ByteArray) (a7 : ByteArray) (a8 : ByteArray) (a9 : ByteArray) (a10 : ByteArray) (p0 : ByteArray) (p1 : ByteArray) (p2 : ByteArray) (p3 : ByteArray) (p4 : ByteArray) (p5 : ByteArray) (p6 : ByteArray) (p7 : ByteArray) (p8 : ByteArray) (p9 : ByteArray) (p10 : ByteArray) (w : World) (ht : isTLS a6 = true) :
    Calls Trym.prog 10 #[.agg #[.string a0, .string a1, .string a2, .int .i64 a3, .string a4, .string a5, .string a6, .string a7, .string a8, .string a9, .string a10, .pointer none, .pointer none, .pointer none, .pointer none], .agg #[.string p0, .string p1, .string p2, .string p3, .string p4, .string p5, .string p6, .string p7, .string p8, .string p9, .string p10]] w fun e w' => ∃ b : Nat, e = .returned (.agg #[.int .i64 a3, .string p4, .string ⟨#[42]⟩, .string ⟨#[]⟩, .bool false, .slice none 0 0, .bool false, .int .i64 300, .int .i64 0, .int .i64 0, .int .i64 0, .pointer (some ⟨b, 0, none⟩), .pointer none]) ∧ w.heap.size ≤ b ∧ w'.heap[b]? = some (.cells #[.string p9, .string p10] 51 (0, 0)) ∧ Grown w w' := by
  go_enter Trym.func10, Trym.ntmps10
  go_wp2_with (first
    | (refine wpList_load_row rfl 42 _ rfl w.heap.size rfl 42 #[.string a0, .string a1, .string a2, .int .i64 a3, .string a4, .string a5, .string a6, .string a7, .string a8, .string a9, .string a10, .pointer none, .pointer none, .pointer none, .pointer none] (0, 0) _ ?hx Trym.underlying42 rfl (by kernel_rfl) ?_)
    | (refine wpList_load_row rfl 44 _ rfl (w.heap.size + 1) rfl 44 #[.string p0, .string p1, .string p2, .string p3, .string p4, .string p5, .string p6, .string p7, .string p8, .string p9, .string p10] (0, 0) _ ?hy Trym.underlying44 rfl (by kernel_rfl) ?_))
  case hx => exact h3_0 w _ _ _
  case hy => exact h3_1 w _ _ _
  refine (server_yes a0 a1 a2 a3 a4 a5 a6 a7 a8 a9 a10 p0 p1 p2 p3 p4 p5 p6 p7 p8 p9 p10 _ ht).mono ?_
  rintro e W' ⟨b, rfl, hb, fC, hg⟩
  have o1 : (#[.int .i64 a3, .string p4, .string ⟨#[42]⟩, .string ⟨#[]⟩, .bool false, .slice none 0 0, .bool false, .int .i64 300, .int .i64 0, .int .i64 0, .int .i64 0, .pointer (some ⟨b, 0, none⟩), .pointer none] : Array Value).all (·.oneCell') = true := by simp [Value.oneCell']
  have O1 : Hid _ := o1
  clear o1
  have fR := grown_block hg (h3_2 w _ _ _)
  have hG : Grown w W' := Me.grown_trans (Grown.alloc (Grown.alloc (Grown.alloc (Grown.refl _) _ _) _ _) _ _) hg
  clear hg
  have FR : Hid _ := fR
  clear fR
  go_wp2_with (refine wpList_store_row rfl 33 _ _ rfl (w.heap.size + 1 + 1) #[.int .i64 a3, .string p4, .string ⟨#[42]⟩, .string ⟨#[]⟩, .bool false, .slice none 0 0, .bool false, .int .i64 300, .int .i64 0, .int .i64 0, .int .i64 0, .pointer (some ⟨b, 0, none⟩), .pointer none] rfl rfl 33 _ FR.out (by kernel_rfl) rfl O1.out ?_)
  refine bodyPost_ret (v := .agg #[.int .i64 a3, .string p4, .string ⟨#[42]⟩, .string ⟨#[]⟩, .bool false, .slice none 0 0, .bool false, .int .i64 300, .int .i64 0, .int .i64 0, .int .i64 0, .pointer (some ⟨b, 0, none⟩), .pointer none]) (results_cell_row Trym.results10 _ _ (w.heap.size + 1 + 1) 33 #[.int .i64 a3, .string p4, .string ⟨#[42]⟩, .string ⟨#[]⟩, .bool false, .slice none 0 0, .bool false, .int .i64 300, .int .i64 0, .int .i64 0, .int .i64 0, .pointer (some ⟨b, 0, none⟩), .pointer none] (0, 0) _ rfl (setRow_heap W' _ _ _ 33 _ FR.out) Trym.underlying33 rfl (by kernel_rfl)) rfl ⟨b, rfl, ?_, ?_, grown_setRow hG FR.out (by omega) _⟩
  · simp [go_sem] at hb
    omega
  · rw [setRow_other _ _ _ _ (by simp [go_sem] at hb; omega)]
    exact fC

end Go.Proofs.Qxb6613092aMods.Se
