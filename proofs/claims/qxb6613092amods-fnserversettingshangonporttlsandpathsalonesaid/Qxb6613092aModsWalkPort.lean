/-
  THE WALK of FnServerSettingsHangOnPortTLSAndPathsAlone (function 3, seat b6613092aM).
-/
import Derived.Test.Qxb6613092aModsTakes
import Derived.Test.Qxb6613092aModsBytes3
import Derived.Deep.DeepCutAuto
namespace Go.Proofs.Qxb6613092aMods.Wc
open Go.RowKit Se Sx Tk
set_option linter.unusedVariables false
set_option linter.unusedSimpArgs false
theorem h4_0 (w : World) (A B C D : Obj) : ((((w.alloc A).alloc B).alloc C).alloc D).heap[w.heap.size]? = some A := by
  show ((((w.heap.push A).push B).push C).push D)[w.heap.size]? = _
  simp only [Array.getElem?_push, Array.size_push]
  rw [if_neg (by omega), if_neg (by omega), if_neg (by omega), if_pos trivial]
theorem h4_1 (w : World) (A B C D : Obj) : ((((w.alloc A).alloc B).alloc C).alloc D).heap[w.heap.size + 1]? = some B := by
  show ((((w.heap.push A).push B).push C).push D)[w.heap.size + 1]? = _
  simp only [Array.getElem?_push, Array.size_push]
  rw [if_neg (by omega), if_neg (by omega), if_pos trivial]
theorem h4_2 (w : World) (A B C D : Obj) : ((((w.alloc A).alloc B).alloc C).alloc D).heap[w.heap.size + 1 + 1]? = some C := by
  show ((((w.heap.push A).push B).push C).push D)[w.heap.size + 1 + 1]? = _
  simp only [Array.getElem?_push, Array.size_push]
  rw [if_neg (by omega), if_pos trivial]
theorem h4_3 (w : World) (A B C D : Obj) : ((((w.alloc A).alloc B).alloc C).alloc D).heap[w.heap.size + 1 + 1 + 1]? = some D := by
  show ((((w.heap.push A).push B).push C).push D)[w.heap.size + 1 + 1 + 1]? = _
  simp only [Array.getElem?_push, Array.size_push]
  rw [if_pos trivial]
set_option maxRecDepth 100000 in
set_option maxHeartbeats 8000000 in
theorem walk_at (a0 : ByteArray) (a1 : ByteArray) (a2 : ByteArray) (a3 : Int) (a4 : ByteArray) (a5 : ByteArray) (a6 : ByteArray) (a7 : ByteArray) (a8 : ByteArray) (a9 : ByteArray) (a10 : ByteArray) (s0 : ByteArray) (s1 : ByteArray) (s2 : ByteArray) (s3 : Int) (s4 : ByteArray) (s5 : ByteArray) (s6 : ByteArray) (s7 : ByteArray) (s8 : ByteArray) (s9 : ByteArray) (s10 : ByteArray) (p0 : ByteArray) (p1 : ByteArray) (p2 : ByteArray) (p3 : ByteArray) (p4 : ByteArray) (p5 : ByteArray) (p6 : ByteArray) (p7 : ByteArray) (p8 : ByteArray) (p9 : ByteArray) (p10 : ByteArray) (r0 : ByteArray) (r1 : ByteArray) (r2 : ByteArray) (r3 : ByteArray) (r4 : ByteArray) (r5 : ByteArray) (r6 : ByteArray) (r7 : ByteArray) (r8 : ByteArray) (r9 : ByteArray) (r10 : ByteArray) (ha0 : a0.size ≤ maxLen) (ha1 : a1.size ≤ maxLen) (ha2 : a2.size ≤ maxLen) (ha4 : a4.size ≤ maxLen) (ha5 : a5.size ≤ maxLen) (ha6 : a6.size ≤ maxLen) (ha7 : a7.size ≤ maxLen) (ha8 : a8.size ≤ maxLen) (ha9 : a9.size ≤ maxLen) (ha10 : a10.size ≤ maxLen) (hs0 : s0.size ≤ maxLen) (hs1 : s1.size ≤ maxLen) (hs2 : s2.size ≤ maxLen) (hs4 : s4.size ≤ maxLen) (hs5 : s5.size ≤ maxLen) (hs6 : s6.size ≤ maxLen) (hs7 : s7.size ≤ maxLen) (hs8 : s8.size ≤ maxLen) (hs9 : s9.size ≤ maxLen) (hs10 : s10.size ≤ maxLen) (hp0 : p0.size ≤ maxLen) (hp1 : p1.size ≤ maxLen) (hp2 : p2.size ≤ maxLen) (hp3 : p3.size ≤ maxLen) (hp4 : p4.size ≤ maxLen) (hp5 : p5.size ≤ maxLen) (hp6 : p6.size ≤ maxLen) (hp7 : p7.size ≤ maxLen) (hp8 : p8.size ≤ maxLen) (hp9 : p9.size ≤ maxLen) (hp10 : p10.size ≤ maxLen) (hr0 : r0.size ≤ maxLen) (hr1 : r1.size ≤ maxLen) (hr2 : r2.size ≤ maxLen) (hr3 : r3.size ≤ maxLen) (hr4 : r4.size ≤ maxLen) (hr5 : r5.size ≤ maxLen) (hr6 : r6.size ≤ maxLen) (hr7 : r7.size ≤ maxLen) (hr8 : r8.size ≤ maxLen) (hr9 : r9.size ≤ maxLen) (hr10 : r10.size ≤ maxLen) (w : World) :
    Calls Trym.prog 3 #[.agg #[.string a0, .string a1, .string a2, .int .i64 a3, .string a4, .string a5, .string a6, .string a7, .string a8, .string a9, .string a10], .agg #[.string s0, .string s1, .string s2, .int .i64 s3, .string s4, .string s5, .string s6, .string s7, .string s8, .string s9, .string s10], .agg #[.string p0, .string p1, .string p2, .string p3, .string p4, .string p5, .string p6, .string p7, .string p8, .string p9, .string p10], .agg #[.string r0, .string r1, .string r2, .string r3, .string r4, .string r5, .string r6, .string r7, .string r8, .string r9, .string r10]] w fun e w' => e = .returned (.bool true) ∧ Grown w w' := by
  have oB : (#[.string s0, .string s1, .string s2, .int .i64 s3, .string s4, .string s5, .string s6, .string s7, .string s8, .string s9, .string s10] : Array Value).all (·.oneCell') = true := by simp [Value.oneCell']
  have OB : Hid _ := oB
  have oQ : (#[.string r0, .string r1, .string r2, .string r3, .string r4, .string r5, .string r6, .string r7, .string r8, .string r9, .string r10] : Array Value).all (·.oneCell') = true := by simp [Value.oneCell']
  have OQ : Hid _ := oQ
  clear oB oQ
  go_enter Trym.func3, Trym.ntmps3
  go_wp2_with (first
    | (refine wpList_load_row rfl 23 _ rfl w.heap.size rfl 23 #[.string a0, .string a1, .string a2, .int .i64 a3, .string a4, .string a5, .string a6, .string a7, .string a8, .string a9, .string a10] (0, 0) _ ?h0 Trym.underlying23 rfl (by kernel_rfl) ?_)
    | (refine wpList_load_row rfl 23 _ rfl (w.heap.size + 1) rfl 23 #[.string s0, .string s1, .string s2, .int .i64 s3, .string s4, .string s5, .string s6, .string s7, .string s8, .string s9, .string s10] (0, 0) _ ?h1 Trym.underlying23 rfl (by kernel_rfl) ?_)
    | (refine wpList_load_row rfl 25 _ rfl (w.heap.size + 1 + 1) rfl 25 #[.string p0, .string p1, .string p2, .string p3, .string p4, .string p5, .string p6, .string p7, .string p8, .string p9, .string p10] (0, 0) _ ?h2 Trym.underlying25 rfl (by kernel_rfl) ?_)
    | (refine wpList_load_row rfl 25 _ rfl (w.heap.size + 1 + 1 + 1) rfl 25 #[.string r0, .string r1, .string r2, .string r3, .string r4, .string r5, .string r6, .string r7, .string r8, .string r9, .string r10] (0, 0) _ ?h3 Trym.underlying25 rfl (by kernel_rfl) ?_))
  case h0 => exact h4_0 w _ _ _ _
  case h1 => exact h4_1 w _ _ _ _
  case h2 => exact h4_2 w _ _ _ _
  case h3 => exact h4_3 w _ _ _ _
  refine (By.bytes3_any a0 a1 a2 a3 a4 a5 a6 a7 a8 a9 a10 s0 s1 s2 s3 s4 s5 s6 s7 s8 s9 s10 p0 p1 p2 p3 p4 p5 p6 p7 p8 p9 p10 r0 r1 r2 r3 r4 r5 r6 r7 r8 r9 r10 ha0 ha1 ha2 ha4 ha5 ha6 ha7 ha8 ha9 ha10 hs0 hs1 hs2 hs4 hs5 hs6 hs7 hs8 hs9 hs10 hp0 hp1 hp2 hp3 hp4 hp5 hp6 hp7 hp8 hp9 hp10 hr0 hr1 hr2 hr3 hr4 hr5 hr6 hr7 hr8 hr9 hr10 _).mono ?_
  rintro e W1 ⟨b, rfl, hg1⟩
  clear ha0 ha1 ha2 ha4 ha5 ha6 ha7 ha8 ha9 ha10 hs0 hs1 hs2 hs4 hs5 hs6 hs7 hs8 hs9 hs10 hp0 hp1 hp2 hp3 hp4 hp5 hp6 hp7 hp8 hp9 hp10 hr0 hr1 hr2 hr3 hr4 hr5 hr6 hr7 hr8 hr9 hr10
  have FA : Hid _ := grown_block hg1 (h4_0 w _ _ _ _)
  have FS : Hid _ := grown_block hg1 (h4_1 w _ _ _ _)
  have FP : Hid _ := grown_block hg1 (h4_2 w _ _ _ _)
  have FR : Hid _ := grown_block hg1 (h4_3 w _ _ _ _)
  have hG : Grown w W1 := Me.grown_trans (Grown.alloc (Grown.alloc (Grown.alloc (Grown.alloc (Grown.refl _) _ _) _ _) _ _) _ _) hg1
  clear hg1
  generalize hbr : w.heap.size + 1 + 1 + 1 = br at *
  generalize hbp : w.heap.size + 1 + 1 = bp at *
  generalize hbs : w.heap.size + 1 = bs at *
  generalize hba : w.heap.size = ba at *
  clear hbr hbp hbs hba
  cases b
  · go_wp2
    go_ret
    exact ⟨rfl, hG⟩
  go_wp2_with (refine wpList_load_row rfl 23 _ rfl ba rfl 23 #[.string a0, .string a1, .string a2, .int .i64 a3, .string a4, .string a5, .string a6, .string a7, .string a8, .string a9, .string a10] (0, 0) _ FA.out Trym.underlying23 rfl (by kernel_rfl) ?_)
  refine (Se.cfgBytes_any 0 a0 a1 a2 a3 a4 a5 a6 a7 a8 a9 a10 (by decide) (by decide) _).mono ?_
  rintro e W2 ⟨n, rfl, n0, n1, hg2⟩
  have FA2 : Hid _ := grown_block hg2 FA.out
  have FS2 : Hid _ := grown_block hg2 FS.out
  have FP2 : Hid _ := grown_block hg2 FP.out
  have FR2 : Hid _ := grown_block hg2 FR.out
  have hG2 := Me.grown_trans hG hg2
  clear hg2 FA FS FP FR hG
  go_wp2_with (refine wpList_load_row rfl 23 _ rfl bs rfl 23 #[.string s0, .string s1, .string s2, .int .i64 s3, .string s4, .string s5, .string s6, .string s7, .string s8, .string s9, .string s10] (0, 0) _ FS2.out Trym.underlying23 rfl (by kernel_rfl) ?_)
  refine (Se.cfgBytes_any n s0 s1 s2 s3 s4 s5 s6 s7 s8 s9 s10 n0 n1 _).mono ?_
  rintro e W3 ⟨n', rfl, n0', n1', hg3⟩
  have FA3 : Hid _ := grown_block hg3 FA2.out
  have FS3 : Hid _ := grown_block hg3 FS2.out
  have FP3 : Hid _ := grown_block hg3 FP2.out
  have FR3 : Hid _ := grown_block hg3 FR2.out
  have hG3 := Me.grown_trans hG2 hg3
  clear hg3 FA2 FS2 FP2 FR2 hG2 n0 n1
  go_wp2_with (refine wpList_load_row rfl 25 _ rfl bp rfl 25 #[.string p0, .string p1, .string p2, .string p3, .string p4, .string p5, .string p6, .string p7, .string p8, .string p9, .string p10] (0, 0) _ FP3.out Trym.underlying25 rfl (by kernel_rfl) ?_)
  refine (Se.pathsBytes_any n' p0 p1 p2 p3 p4 p5 p6 p7 p8 p9 p10 n0' n1' _).mono ?_
  rintro e W4 ⟨m', rfl, m0', m1', hg4⟩
  have FA4 : Hid _ := grown_block hg4 FA3.out
  have FS4 : Hid _ := grown_block hg4 FS3.out
  have FP4 : Hid _ := grown_block hg4 FP3.out
  have FR4 : Hid _ := grown_block hg4 FR3.out
  have hG4 := Me.grown_trans hG3 hg4
  clear hg4 FA3 FS3 FP3 FR3 hG3 n0' n1'
  go_wp2_with (refine wpList_load_row rfl 25 _ rfl br rfl 25 #[.string r0, .string r1, .string r2, .string r3, .string r4, .string r5, .string r6, .string r7, .string r8, .string r9, .string r10] (0, 0) _ FR4.out Trym.underlying25 rfl (by kernel_rfl) ?_)
  refine (Se.pathsBytes_any m' r0 r1 r2 r3 r4 r5 r6 r7 r8 r9 r10 m0' m1' _).mono ?_
  rintro e W5 ⟨m, rfl, m0, m1, hg5⟩
  have FA5 : Hid _ := grown_block hg5 FA4.out
  have FS5 : Hid _ := grown_block hg5 FS4.out
  have FP5 : Hid _ := grown_block hg5 FP4.out
  have FR5 : Hid _ := grown_block hg5 FR4.out
  have hG5 := Me.grown_trans hG4 hg5
  clear hg5 FA4 FS4 FP4 FR4 hG4 m0' m1'
  by_cases hn : 1048576 < m
  · go_wp2
    go_ret
    exact ⟨rfl, hG5⟩
  clear m0 m1
  have c3 : W5.cell? ⟨ba, 3, none⟩ = some (.int .i64 a3) := cell_of_row W5 ba 3 _ 23 (0, 0) FA5.out
  have c6 : W5.cell? ⟨ba, 6, none⟩ = some (.string a6) := cell_of_row W5 ba 6 _ 23 (0, 0) FA5.out
  have k4 : W5.cell? ⟨bp, 4, none⟩ = some (.string p4) := cell_of_row W5 bp 4 _ 25 (0, 0) FP5.out
  have k9 : W5.cell? ⟨bp, 9, none⟩ = some (.string p9) := cell_of_row W5 bp 9 _ 25 (0, 0) FP5.out
  have k10 : W5.cell? ⟨bp, 10, none⟩ = some (.string p10) := cell_of_row W5 bp 10 _ 25 (0, 0) FP5.out
  have lA : ba < W5.heap.size := (Array.getElem?_eq_some_iff.1 FA5.out).1
  have lS : bs < W5.heap.size := (Array.getElem?_eq_some_iff.1 FS5.out).1
  have lP : bp < W5.heap.size := (Array.getElem?_eq_some_iff.1 FP5.out).1
  have lR : br < W5.heap.size := (Array.getElem?_eq_some_iff.1 FR5.out).1
  have FR6 : Hid (∀ X, (W5.alloc X).heap[br]? = some (.cells #[.string r0, .string r1, .string r2, .string r3, .string r4, .string r5, .string r6, .string r7, .string r8, .string r9, .string r10] 25 (0, 0))) := fun X => (heap_alloc_old W5 X lR).trans FR5.out
  go_wp2_with (first
    | (refine wpList_load_row rfl 23 _ rfl bs rfl 23 #[.string s0, .string s1, .string s2, .int .i64 s3, .string s4, .string s5, .string s6, .string s7, .string s8, .string s9, .string s10] (0, 0) _ FS5.out Trym.underlying23 rfl (by kernel_rfl) ?_)
    | (refine wpList_load_row rfl 25 _ rfl br rfl 25 #[.string r0, .string r1, .string r2, .string r3, .string r4, .string r5, .string r6, .string r7, .string r8, .string r9, .string r10] (0, 0) _ (FR6.out _) Trym.underlying25 rfl (by kernel_rfl) ?_)
    | (refine wpList_store_row rfl 23 _ _ rfl W5.heap.size #[.string s0, .string s1, .string s2, .int .i64 s3, .string s4, .string s5, .string s6, .string s7, .string s8, .string s9, .string s10] rfl rfl 23 _ (heap_alloc_new W5 _) (by kernel_rfl) rfl OB.out ?_; rw [World.setRow_alloc_new])
    | (refine wpList_store_row rfl 25 _ _ rfl (W5.heap.size + 1) #[.string r0, .string r1, .string r2, .string r3, .string r4, .string r5, .string r6, .string r7, .string r8, .string r9, .string r10] rfl rfl 25 _ (heap_alloc2_new W5 _ _) (by kernel_rfl) rfl OQ.out ?_; rw [setRow_alloc2]))
  generalize hW6 : (W5.alloc (.cells #[.string s0, .string s1, .string s2, .int .i64 a3, .string s4, .string s5, .string a6, .string s7, .string s8, .string s9, .string s10] 23)).alloc (.cells #[.string r0, .string r1, .string r2, .string r3, .string p4, .string r5, .string r6, .string r7, .string r8, .string p9, .string p10] 25) = W6
  have fA6 : W6.heap[ba]? = some (.cells #[.string a0, .string a1, .string a2, .int .i64 a3, .string a4, .string a5, .string a6, .string a7, .string a8, .string a9, .string a10] 23 (0, 0)) := by
    rw [← hW6]
    exact (heap_alloc_old _ _ (by show ba < (W5.heap.push _).size; simp; omega)).trans ((heap_alloc_old W5 _ lA).trans FA5.out)
  have fP6 : W6.heap[bp]? = some (.cells #[.string p0, .string p1, .string p2, .string p3, .string p4, .string p5, .string p6, .string p7, .string p8, .string p9, .string p10] 25 (0, 0)) := by
    rw [← hW6]
    exact (heap_alloc_old _ _ (by show bp < (W5.heap.push _).size; simp; omega)).trans ((heap_alloc_old W5 _ lP).trans FP5.out)
  have fO6 : W6.heap[W5.heap.size]? = some (.cells #[.string s0, .string s1, .string s2, .int .i64 a3, .string s4, .string s5, .string a6, .string s7, .string s8, .string s9, .string s10] 23 (0, 0)) := by rw [← hW6]; exact heap_alloc2_old W5 _ _
  have fQ6 : W6.heap[W5.heap.size + 1]? = some (.cells #[.string r0, .string r1, .string r2, .string r3, .string p4, .string r5, .string r6, .string r7, .string r8, .string p9, .string p10] 25 (0, 0)) := by rw [← hW6]; exact heap_alloc2_new W5 _ _
  have hG6 : Grown w W6 := by rw [← hW6]; exact Grown.alloc (Grown.alloc hG5 _ _) _ _
  clear hW6 hG5 FA5 FS5 FP5 FR5 FR6 lA lS lP lR c3 c6 k4 k9 k10 OB OQ
  generalize W5.heap.size + 1 = bq at *
  generalize W5.heap.size = bo at *
  have FA6 : Hid _ := fA6
  have FP6 : Hid _ := fP6
  have FO6 : Hid _ := fO6
  have FQ6 : Hid _ := fQ6
  clear fA6 fP6 fO6 fQ6
  go_cut [12] (fun s wc => ∃ (b : Nat) (q : Option Addr), s = .pointer (some ⟨b, 0, none⟩) ∧ wc.heap[b]? = some (.cells #[.int .i64 a3, .string p4, .string ⟨#[42]⟩, .string ⟨#[]⟩, .bool false, .slice none 0 0, .bool false, .int .i64 300, .int .i64 0, .int .i64 0, .int .i64 0, .pointer q, .pointer none] 33 (0, 0)) ∧ Cert (isTLS a6) q W6.heap.size p9 p10 wc ∧ W6.heap.size ≤ b ∧ Grown W6 wc)
  case first =>
    have lx : ba < W6.heap.size := (Array.getElem?_eq_some_iff.1 FA6.out).1
    have lp : bp < W6.heap.size := (Array.getElem?_eq_some_iff.1 FP6.out).1
    have c0 : ∀ w', Grown W6 w' → w'.cell? ⟨ba, 0, none⟩ = some (.string a0) := fun w' h => (grown_cell h 0 lx).trans (cell_of_row W6 ba 0 _ 23 (0, 0) FA6.out)
    have c1 : ∀ w', Grown W6 w' → w'.cell? ⟨ba, 1, none⟩ = some (.string a1) := fun w' h => (grown_cell h 1 lx).trans (cell_of_row W6 ba 1 _ 23 (0, 0) FA6.out)
    have c2 : ∀ w', Grown W6 w' → w'.cell? ⟨ba, 2, none⟩ = some (.string a2) := fun w' h => (grown_cell h 2 lx).trans (cell_of_row W6 ba 2 _ 23 (0, 0) FA6.out)
    have c3 : ∀ w', Grown W6 w' → w'.cell? ⟨ba, 3, none⟩ = some (.int .i64 a3) := fun w' h => (grown_cell h 3 lx).trans (cell_of_row W6 ba 3 _ 23 (0, 0) FA6.out)
    have c4 : ∀ w', Grown W6 w' → w'.cell? ⟨ba, 4, none⟩ = some (.string a4) := fun w' h => (grown_cell h 4 lx).trans (cell_of_row W6 ba 4 _ 23 (0, 0) FA6.out)
    have c5 : ∀ w', Grown W6 w' → w'.cell? ⟨ba, 5, none⟩ = some (.string a5) := fun w' h => (grown_cell h 5 lx).trans (cell_of_row W6 ba 5 _ 23 (0, 0) FA6.out)
    have c6 : ∀ w', Grown W6 w' → w'.cell? ⟨ba, 6, none⟩ = some (.string a6) := fun w' h => (grown_cell h 6 lx).trans (cell_of_row W6 ba 6 _ 23 (0, 0) FA6.out)
    have c7 : ∀ w', Grown W6 w' → w'.cell? ⟨ba, 7, none⟩ = some (.string a7) := fun w' h => (grown_cell h 7 lx).trans (cell_of_row W6 ba 7 _ 23 (0, 0) FA6.out)
    have c8 : ∀ w', Grown W6 w' → w'.cell? ⟨ba, 8, none⟩ = some (.string a8) := fun w' h => (grown_cell h 8 lx).trans (cell_of_row W6 ba 8 _ 23 (0, 0) FA6.out)
    have c9 : ∀ w', Grown W6 w' → w'.cell? ⟨ba, 9, none⟩ = some (.string a9) := fun w' h => (grown_cell h 9 lx).trans (cell_of_row W6 ba 9 _ 23 (0, 0) FA6.out)
    have c10 : ∀ w', Grown W6 w' → w'.cell? ⟨ba, 10, none⟩ = some (.string a10) := fun w' h => (grown_cell h 10 lx).trans (cell_of_row W6 ba 10 _ 23 (0, 0) FA6.out)
    have d0 : ∀ w', Grown W6 w' → w'.cell? ⟨bp, 0, none⟩ = some (.string p0) := fun w' h => (grown_cell h 0 lp).trans (cell_of_row W6 bp 0 _ 25 (0, 0) FP6.out)
    have d1 : ∀ w', Grown W6 w' → w'.cell? ⟨bp, 1, none⟩ = some (.string p1) := fun w' h => (grown_cell h 1 lp).trans (cell_of_row W6 bp 1 _ 25 (0, 0) FP6.out)
    have d2 : ∀ w', Grown W6 w' → w'.cell? ⟨bp, 2, none⟩ = some (.string p2) := fun w' h => (grown_cell h 2 lp).trans (cell_of_row W6 bp 2 _ 25 (0, 0) FP6.out)
    have d3 : ∀ w', Grown W6 w' → w'.cell? ⟨bp, 3, none⟩ = some (.string p3) := fun w' h => (grown_cell h 3 lp).trans (cell_of_row W6 bp 3 _ 25 (0, 0) FP6.out)
    have d4 : ∀ w', Grown W6 w' → w'.cell? ⟨bp, 4, none⟩ = some (.string p4) := fun w' h => (grown_cell h 4 lp).trans (cell_of_row W6 bp 4 _ 25 (0, 0) FP6.out)
    have d5 : ∀ w', Grown W6 w' → w'.cell? ⟨bp, 5, none⟩ = some (.string p5) := fun w' h => (grown_cell h 5 lp).trans (cell_of_row W6 bp 5 _ 25 (0, 0) FP6.out)
    have d6 : ∀ w', Grown W6 w' → w'.cell? ⟨bp, 6, none⟩ = some (.string p6) := fun w' h => (grown_cell h 6 lp).trans (cell_of_row W6 bp 6 _ 25 (0, 0) FP6.out)
    have d7 : ∀ w', Grown W6 w' → w'.cell? ⟨bp, 7, none⟩ = some (.string p7) := fun w' h => (grown_cell h 7 lp).trans (cell_of_row W6 bp 7 _ 25 (0, 0) FP6.out)
    have d8 : ∀ w', Grown W6 w' → w'.cell? ⟨bp, 8, none⟩ = some (.string p8) := fun w' h => (grown_cell h 8 lp).trans (cell_of_row W6 bp 8 _ 25 (0, 0) FP6.out)
    have d9 : ∀ w', Grown W6 w' → w'.cell? ⟨bp, 9, none⟩ = some (.string p9) := fun w' h => (grown_cell h 9 lp).trans (cell_of_row W6 bp 9 _ 25 (0, 0) FP6.out)
    have d10 : ∀ w', Grown W6 w' → w'.cell? ⟨bp, 10, none⟩ = some (.string p10) := fun w' h => (grown_cell h 10 lp).trans (cell_of_row W6 bp 10 _ 25 (0, 0) FP6.out)
    go_region_held3 (fun w' => Grown W6 w') (((try dsimp only); (repeat (first | with_reducible (refine Grown.drew ?_) | with_reducible (refine Grown.alloc ?_ _ _) | with_reducible (refine Grown.setCell ?_ (by simp <;> omega) _))); (first | with_reducible (exact Grown.refl _) | (refine grown_trans ?_ hg7; (repeat (first | with_reducible (refine Grown.drew ?_) | with_reducible (refine Grown.alloc ?_ _ _) | with_reducible (refine Grown.setCell ?_ (by simp <;> omega) _))); with_reducible (exact Grown.refl _)))))
      (first
        | (go_at_call 11; refine (config_x a0 a1 a2 a3 a4 a5 a6 a7 a8 a9 a10 _).mono ?_; rintro e w' ⟨rfl, e1, e2, rfl⟩)
        | (go_at_call 12; refine (paths_x p0 p1 p2 p3 p4 p5 p6 p7 p8 p9 p10 _).mono ?_; rintro e w' ⟨rfl, e3, e4, rfl⟩)
        | (go_at_call 10; refine (server_any a0 a1 a2 a3 a4 a5 a6 a7 a8 a9 a10 p0 p1 p2 p3 p4 p5 p6 p7 p8 p9 p10 _).mono ?_; rintro e V7 ⟨q, rfl, hcert, hg7⟩; have hcl := fun (b o : Nat) (hb : b < _) => grown_cell hg7 o hb; have hfr := hg7.2.1))
    all_goals go_wp2
    all_goals go_meet
    · have hK : Grown W6 _ := Grown.drew (Grown.alloc (Grown.alloc (Grown.alloc (Grown.alloc (Grown.refl W6) e1 23) e2 42) e3 25) e4 44)
      exact ⟨_, q, rfl, heap_alloc_new V7 _, (hcert.low hK.2.2).grown (Grown.alloc (Grown.refl _) _ _), (grown_trans hK hg7).2.2, Grown.alloc (grown_trans hK hg7) _ _⟩
    · have hK := grown5 (Grown.refl W6) e1 e2 e3 e4 #[.int .i64 0, .string ⟨#[]⟩, .string ⟨#[]⟩, .string ⟨#[]⟩, .bool false, .slice none 0 0, .bool false, .int .i64 0, .int .i64 0, .int .i64 0, .int .i64 0, .pointer none, .pointer none] 23 42 25 44 33
      exact ⟨_, q, rfl, set13 V7 _ _ rfl (grown_block hg7 (h5_4 W6 _ _ _ _ _)) _ _ _ _ _ _ _ _ _ _ _ _ _, (hcert.other (fun x hx => set13_other V7 _ x (by rw [size5] at hx; omega) _ _ _ _ _ _ _ _ _ _ _ _ _)).low hK.2.2, by omega, grown_set13 (grown_trans hK hg7) _ (by omega) _ _ _ _ _ _ _ _ _ _ _ _ _⟩
    · have hK := grown5 (Grown.refl W6) e1 e2 #[.int .i64 0, .string ⟨#[]⟩, .string ⟨#[]⟩, .string ⟨#[]⟩, .bool false, .slice none 0 0, .bool false, .int .i64 0, .int .i64 0, .int .i64 0, .int .i64 0, .pointer none, .pointer none] e3 e4 23 42 33 25 44
      exact ⟨_, q, rfl, set13 V7 _ _ rfl (grown_block hg7 (h5_2 W6 _ _ _ _ _)) _ _ _ _ _ _ _ _ _ _ _ _ _, (hcert.other (fun x hx => set13_other V7 _ x (by rw [size5] at hx; omega) _ _ _ _ _ _ _ _ _ _ _ _ _)).low hK.2.2, by omega, grown_set13 (grown_trans hK hg7) _ (by omega) _ _ _ _ _ _ _ _ _ _ _ _ _⟩
    · have hK := grown5 (Grown.refl W6) #[.int .i64 0, .string ⟨#[]⟩, .string ⟨#[]⟩, .string ⟨#[]⟩, .bool false, .slice none 0 0, .bool false, .int .i64 0, .int .i64 0, .int .i64 0, .int .i64 0, .pointer none, .pointer none] e1 e2 e3 e4 33 23 42 25 44
      exact ⟨_, q, rfl, set13 V7 _ _ rfl (grown_block hg7 (h5_0 W6 _ _ _ _ _)) _ _ _ _ _ _ _ _ _ _ _ _ _, (hcert.other (fun x hx => set13_other V7 _ x (by rw [size5] at hx; omega) _ _ _ _ _ _ _ _ _ _ _ _ _)).low hK.2.2, by omega, grown_set13 (grown_trans hK hg7) _ (by omega) _ _ _ _ _ _ _ _ _ _ _ _ _⟩
  case rest =>
    obtain ⟨bx, q1, rfl, fX, cert1, lbx, hg7⟩ := hcut
    have FX8 : Hid _ := fX
    have FA8 : Hid _ := grown_block hg7 FA6.out
    have FP8 : Hid _ := grown_block hg7 FP6.out
    have FO8 : Hid _ := grown_block hg7 FO6.out
    have FQ8 : Hid _ := grown_block hg7 FQ6.out
    have CE8 : Hid _ := cert1
    have hG8 := grown_trans hG6 hg7
    clear fX cert1 hg7 hG6 FA6 FP6 FO6 FQ6 lbx
    obtain ⟨W8, hW8⟩ : ∃ W8, W8 = wc := ⟨_, rfl⟩
    subst hW8
    go_wp2_with fail
    go_cut [13] (fun s wc => ∃ (b : Nat) (q : Option Addr), s = .pointer (some ⟨b, 0, none⟩) ∧ wc.heap[b]? = some (.cells #[.int .i64 a3, .string p4, .string ⟨#[42]⟩, .string ⟨#[]⟩, .bool false, .slice none 0 0, .bool false, .int .i64 300, .int .i64 0, .int .i64 0, .int .i64 0, .pointer q, .pointer none] 33 (0, 0)) ∧ Cert (isTLS a6) q W8.heap.size p9 p10 wc ∧ W8.heap.size ≤ b ∧ Grown W8 wc)
    case first =>
      have lx : bo < W8.heap.size := (Array.getElem?_eq_some_iff.1 FO8.out).1
      have lp : bq < W8.heap.size := (Array.getElem?_eq_some_iff.1 FQ8.out).1
      have c0 : ∀ w', Grown W8 w' → w'.cell? ⟨bo, 0, none⟩ = some (.string s0) := fun w' h => (grown_cell h 0 lx).trans (cell_of_row W8 bo 0 _ 23 (0, 0) FO8.out)
      have c1 : ∀ w', Grown W8 w' → w'.cell? ⟨bo, 1, none⟩ = some (.string s1) := fun w' h => (grown_cell h 1 lx).trans (cell_of_row W8 bo 1 _ 23 (0, 0) FO8.out)
      have c2 : ∀ w', Grown W8 w' → w'.cell? ⟨bo, 2, none⟩ = some (.string s2) := fun w' h => (grown_cell h 2 lx).trans (cell_of_row W8 bo 2 _ 23 (0, 0) FO8.out)
      have c3 : ∀ w', Grown W8 w' → w'.cell? ⟨bo, 3, none⟩ = some (.int .i64 a3) := fun w' h => (grown_cell h 3 lx).trans (cell_of_row W8 bo 3 _ 23 (0, 0) FO8.out)
      have c4 : ∀ w', Grown W8 w' → w'.cell? ⟨bo, 4, none⟩ = some (.string s4) := fun w' h => (grown_cell h 4 lx).trans (cell_of_row W8 bo 4 _ 23 (0, 0) FO8.out)
      have c5 : ∀ w', Grown W8 w' → w'.cell? ⟨bo, 5, none⟩ = some (.string s5) := fun w' h => (grown_cell h 5 lx).trans (cell_of_row W8 bo 5 _ 23 (0, 0) FO8.out)
      have c6 : ∀ w', Grown W8 w' → w'.cell? ⟨bo, 6, none⟩ = some (.string a6) := fun w' h => (grown_cell h 6 lx).trans (cell_of_row W8 bo 6 _ 23 (0, 0) FO8.out)
      have c7 : ∀ w', Grown W8 w' → w'.cell? ⟨bo, 7, none⟩ = some (.string s7) := fun w' h => (grown_cell h 7 lx).trans (cell_of_row W8 bo 7 _ 23 (0, 0) FO8.out)
      have c8 : ∀ w', Grown W8 w' → w'.cell? ⟨bo, 8, none⟩ = some (.string s8) := fun w' h => (grown_cell h 8 lx).trans (cell_of_row W8 bo 8 _ 23 (0, 0) FO8.out)
      have c9 : ∀ w', Grown W8 w' → w'.cell? ⟨bo, 9, none⟩ = some (.string s9) := fun w' h => (grown_cell h 9 lx).trans (cell_of_row W8 bo 9 _ 23 (0, 0) FO8.out)
      have c10 : ∀ w', Grown W8 w' → w'.cell? ⟨bo, 10, none⟩ = some (.string s10) := fun w' h => (grown_cell h 10 lx).trans (cell_of_row W8 bo 10 _ 23 (0, 0) FO8.out)
      have d0 : ∀ w', Grown W8 w' → w'.cell? ⟨bq, 0, none⟩ = some (.string r0) := fun w' h => (grown_cell h 0 lp).trans (cell_of_row W8 bq 0 _ 25 (0, 0) FQ8.out)
      have d1 : ∀ w', Grown W8 w' → w'.cell? ⟨bq, 1, none⟩ = some (.string r1) := fun w' h => (grown_cell h 1 lp).trans (cell_of_row W8 bq 1 _ 25 (0, 0) FQ8.out)
      have d2 : ∀ w', Grown W8 w' → w'.cell? ⟨bq, 2, none⟩ = some (.string r2) := fun w' h => (grown_cell h 2 lp).trans (cell_of_row W8 bq 2 _ 25 (0, 0) FQ8.out)
      have d3 : ∀ w', Grown W8 w' → w'.cell? ⟨bq, 3, none⟩ = some (.string r3) := fun w' h => (grown_cell h 3 lp).trans (cell_of_row W8 bq 3 _ 25 (0, 0) FQ8.out)
      have d4 : ∀ w', Grown W8 w' → w'.cell? ⟨bq, 4, none⟩ = some (.string p4) := fun w' h => (grown_cell h 4 lp).trans (cell_of_row W8 bq 4 _ 25 (0, 0) FQ8.out)
      have d5 : ∀ w', Grown W8 w' → w'.cell? ⟨bq, 5, none⟩ = some (.string r5) := fun w' h => (grown_cell h 5 lp).trans (cell_of_row W8 bq 5 _ 25 (0, 0) FQ8.out)
      have d6 : ∀ w', Grown W8 w' → w'.cell? ⟨bq, 6, none⟩ = some (.string r6) := fun w' h => (grown_cell h 6 lp).trans (cell_of_row W8 bq 6 _ 25 (0, 0) FQ8.out)
      have d7 : ∀ w', Grown W8 w' → w'.cell? ⟨bq, 7, none⟩ = some (.string r7) := fun w' h => (grown_cell h 7 lp).trans (cell_of_row W8 bq 7 _ 25 (0, 0) FQ8.out)
      have d8 : ∀ w', Grown W8 w' → w'.cell? ⟨bq, 8, none⟩ = some (.string r8) := fun w' h => (grown_cell h 8 lp).trans (cell_of_row W8 bq 8 _ 25 (0, 0) FQ8.out)
      have d9 : ∀ w', Grown W8 w' → w'.cell? ⟨bq, 9, none⟩ = some (.string p9) := fun w' h => (grown_cell h 9 lp).trans (cell_of_row W8 bq 9 _ 25 (0, 0) FQ8.out)
      have d10 : ∀ w', Grown W8 w' → w'.cell? ⟨bq, 10, none⟩ = some (.string p10) := fun w' h => (grown_cell h 10 lp).trans (cell_of_row W8 bq 10 _ 25 (0, 0) FQ8.out)
      go_region_held3 (fun w' => Grown W8 w') (((try dsimp only); (repeat (first | with_reducible (refine Grown.drew ?_) | with_reducible (refine Grown.alloc ?_ _ _) | with_reducible (refine Grown.setCell ?_ (by simp <;> omega) _))); (first | with_reducible (exact Grown.refl _) | (refine grown_trans ?_ hg9; (repeat (first | with_reducible (refine Grown.drew ?_) | with_reducible (refine Grown.alloc ?_ _ _) | with_reducible (refine Grown.setCell ?_ (by simp <;> omega) _))); with_reducible (exact Grown.refl _)))))
        (first
          | (go_at_call 11; refine (config_x s0 s1 s2 a3 s4 s5 a6 s7 s8 s9 s10 _).mono ?_; rintro e w' ⟨rfl, e1, e2, rfl⟩)
          | (go_at_call 12; refine (paths_x r0 r1 r2 r3 p4 r5 r6 r7 r8 p9 p10 _).mono ?_; rintro e w' ⟨rfl, e3, e4, rfl⟩)
          | (go_at_call 10; refine (server_any s0 s1 s2 a3 s4 s5 a6 s7 s8 s9 s10 r0 r1 r2 r3 p4 r5 r6 r7 r8 p9 p10 _).mono ?_; rintro e V9 ⟨q, rfl, hcert, hg9⟩; have hcl := fun (b o : Nat) (hb : b < _) => grown_cell hg9 o hb; have hfr := hg9.2.1))
      all_goals go_wp2
      all_goals go_meet
      · have hK : Grown W8 _ := Grown.drew (Grown.alloc (Grown.alloc (Grown.alloc (Grown.alloc (Grown.refl W8) e1 23) e2 42) e3 25) e4 44)
        exact ⟨_, q, rfl, heap_alloc_new V9 _, (hcert.low hK.2.2).grown (Grown.alloc (Grown.refl _) _ _), (grown_trans hK hg9).2.2, Grown.alloc (grown_trans hK hg9) _ _⟩
      · have hK := grown5 (Grown.refl W8) e1 e2 e3 e4 #[.int .i64 0, .string ⟨#[]⟩, .string ⟨#[]⟩, .string ⟨#[]⟩, .bool false, .slice none 0 0, .bool false, .int .i64 0, .int .i64 0, .int .i64 0, .int .i64 0, .pointer none, .pointer none] 23 42 25 44 33
        exact ⟨_, q, rfl, set13 V9 _ _ rfl (grown_block hg9 (h5_4 W8 _ _ _ _ _)) _ _ _ _ _ _ _ _ _ _ _ _ _, (hcert.other (fun x hx => set13_other V9 _ x (by rw [size5] at hx; omega) _ _ _ _ _ _ _ _ _ _ _ _ _)).low hK.2.2, by omega, grown_set13 (grown_trans hK hg9) _ (by omega) _ _ _ _ _ _ _ _ _ _ _ _ _⟩
      · have hK := grown5 (Grown.refl W8) e1 e2 #[.int .i64 0, .string ⟨#[]⟩, .string ⟨#[]⟩, .string ⟨#[]⟩, .bool false, .slice none 0 0, .bool false, .int .i64 0, .int .i64 0, .int .i64 0, .int .i64 0, .pointer none, .pointer none] e3 e4 23 42 33 25 44
        exact ⟨_, q, rfl, set13 V9 _ _ rfl (grown_block hg9 (h5_2 W8 _ _ _ _ _)) _ _ _ _ _ _ _ _ _ _ _ _ _, (hcert.other (fun x hx => set13_other V9 _ x (by rw [size5] at hx; omega) _ _ _ _ _ _ _ _ _ _ _ _ _)).low hK.2.2, by omega, grown_set13 (grown_trans hK hg9) _ (by omega) _ _ _ _ _ _ _ _ _ _ _ _ _⟩
      · have hK := grown5 (Grown.refl W8) #[.int .i64 0, .string ⟨#[]⟩, .string ⟨#[]⟩, .string ⟨#[]⟩, .bool false, .slice none 0 0, .bool false, .int .i64 0, .int .i64 0, .int .i64 0, .int .i64 0, .pointer none, .pointer none] e1 e2 e3 e4 33 23 42 25 44
        exact ⟨_, q, rfl, set13 V9 _ _ rfl (grown_block hg9 (h5_0 W8 _ _ _ _ _)) _ _ _ _ _ _ _ _ _ _ _ _ _, (hcert.other (fun x hx => set13_other V9 _ x (by rw [size5] at hx; omega) _ _ _ _ _ _ _ _ _ _ _ _ _)).low hK.2.2, by omega, grown_set13 (grown_trans hK hg9) _ (by omega) _ _ _ _ _ _ _ _ _ _ _ _ _⟩
    case rest =>
      obtain ⟨bv, q2, rfl, fY, cert2, lbv, hg9⟩ := hcut
      have FX10 : Hid _ := grown_block hg9 FX8.out
      have FY10 : Hid _ := fY
      have FA10 : Hid _ := grown_block hg9 FA8.out
      have FP10 : Hid _ := grown_block hg9 FP8.out
      have CE10 := Cert.grown CE8.out hg9
      have hG10 := grown_trans hG8 hg9
      clear FX8 FA8 FP8 FO8 FQ8 CE8 hg9 hG8 fY lbv
      rcases CE10 with ⟨hT, rfl⟩ | ⟨hT, b1, rfl, _, f1⟩
      · rcases cert2 with ⟨_, rfl⟩ | ⟨hT2, _⟩
        case inr => exact absurd (hT.symm.trans hT2) (by decide)
        clear hT
        have x0 : wc.cell? ⟨bx, 0, none⟩ = some (.int .i64 a3) := cell_of_row wc bx 0 _ 33 (0, 0) FX10.out
        have x1 : wc.cell? ⟨bx, 1, none⟩ = some (.string p4) := cell_of_row wc bx 1 _ 33 (0, 0) FX10.out
        have x2 : wc.cell? ⟨bx, 2, none⟩ = some (.string ⟨#[42]⟩) := cell_of_row wc bx 2 _ 33 (0, 0) FX10.out
        have x3 : wc.cell? ⟨bx, 3, none⟩ = some (.string ⟨#[]⟩) := cell_of_row wc bx 3 _ 33 (0, 0) FX10.out
        have x4 : wc.cell? ⟨bx, 4, none⟩ = some (.bool false) := cell_of_row wc bx 4 _ 33 (0, 0) FX10.out
        have x5 : wc.cell? ⟨bx, 5, none⟩ = some (.slice none 0 0) := cell_of_row wc bx 5 _ 33 (0, 0) FX10.out
        have x6 : wc.cell? ⟨bx, 6, none⟩ = some (.bool false) := cell_of_row wc bx 6 _ 33 (0, 0) FX10.out
        have x7 : wc.cell? ⟨bx, 7, none⟩ = some (.int .i64 300) := cell_of_row wc bx 7 _ 33 (0, 0) FX10.out
        have x8 : wc.cell? ⟨bx, 8, none⟩ = some (.int .i64 0) := cell_of_row wc bx 8 _ 33 (0, 0) FX10.out
        have x9 : wc.cell? ⟨bx, 9, none⟩ = some (.int .i64 0) := cell_of_row wc bx 9 _ 33 (0, 0) FX10.out
        have x10 : wc.cell? ⟨bx, 10, none⟩ = some (.int .i64 0) := cell_of_row wc bx 10 _ 33 (0, 0) FX10.out
        have x11 : wc.cell? ⟨bx, 11, none⟩ = some (.pointer none) := cell_of_row wc bx 11 _ 33 (0, 0) FX10.out
        have x12 : wc.cell? ⟨bx, 12, none⟩ = some (.pointer none) := cell_of_row wc bx 12 _ 33 (0, 0) FX10.out
        have y0 : wc.cell? ⟨bv, 0, none⟩ = some (.int .i64 a3) := cell_of_row wc bv 0 _ 33 (0, 0) FY10.out
        have y1 : wc.cell? ⟨bv, 1, none⟩ = some (.string p4) := cell_of_row wc bv 1 _ 33 (0, 0) FY10.out
        have y2 : wc.cell? ⟨bv, 2, none⟩ = some (.string ⟨#[42]⟩) := cell_of_row wc bv 2 _ 33 (0, 0) FY10.out
        have y3 : wc.cell? ⟨bv, 3, none⟩ = some (.string ⟨#[]⟩) := cell_of_row wc bv 3 _ 33 (0, 0) FY10.out
        have y4 : wc.cell? ⟨bv, 4, none⟩ = some (.bool false) := cell_of_row wc bv 4 _ 33 (0, 0) FY10.out
        have y5 : wc.cell? ⟨bv, 5, none⟩ = some (.slice none 0 0) := cell_of_row wc bv 5 _ 33 (0, 0) FY10.out
        have y6 : wc.cell? ⟨bv, 6, none⟩ = some (.bool false) := cell_of_row wc bv 6 _ 33 (0, 0) FY10.out
        have y7 : wc.cell? ⟨bv, 7, none⟩ = some (.int .i64 300) := cell_of_row wc bv 7 _ 33 (0, 0) FY10.out
        have y8 : wc.cell? ⟨bv, 8, none⟩ = some (.int .i64 0) := cell_of_row wc bv 8 _ 33 (0, 0) FY10.out
        have y9 : wc.cell? ⟨bv, 9, none⟩ = some (.int .i64 0) := cell_of_row wc bv 9 _ 33 (0, 0) FY10.out
        have y10 : wc.cell? ⟨bv, 10, none⟩ = some (.int .i64 0) := cell_of_row wc bv 10 _ 33 (0, 0) FY10.out
        have y11 : wc.cell? ⟨bv, 11, none⟩ = some (.pointer none) := cell_of_row wc bv 11 _ 33 (0, 0) FY10.out
        have y12 : wc.cell? ⟨bv, 12, none⟩ = some (.pointer none) := cell_of_row wc bv 12 _ 33 (0, 0) FY10.out
        go_wp2_with fail
        refine (Sa.same_any a3 p4 _ _ _).mono ?_
        rintro e v1 ⟨rfl, hg11⟩
        clear x0 y0 x1 y1 x2 y2 x3 y3 x4 y4 x5 y5 x6 y6 x7 y7 x8 y8 x9 y9 x10 y10 x11 y11 x12 y12
        have FX11 : Hid _ := grown_block hg11 FX10.out
        have FY11 : Hid _ := grown_block hg11 FY10.out
        have FA11 : Hid _ := grown_block hg11 FA10.out
        have FP11 : Hid _ := grown_block hg11 FP10.out
        have hG11 := grown_trans hG10 hg11
        clear FX10 FY10 FA10 FP10 hg11 hG10
        have x11 : v1.cell? ⟨bx, 11, none⟩ = some (.pointer none) := cell_of_row v1 bx 11 _ 33 (0, 0) FX11.out
        have y11 : v1.cell? ⟨bv, 11, none⟩ = some (.pointer none) := cell_of_row v1 bv 11 _ 33 (0, 0) FY11.out
        go_wp2_with fail
        refine (Sa.certNil _).mono ?_
        rintro e v2 ⟨rfl, hg12⟩
        clear x11 y11
        have FX12 : Hid _ := grown_block hg12 FX11.out
        have FA12 : Hid _ := grown_block hg12 FA11.out
        have FP12 : Hid _ := grown_block hg12 FP11.out
        have hG12 := grown_trans hG11 hg12
        clear FX11 FY11 FA11 FP11 hg12 hG11
        have x0 : v2.cell? ⟨bx, 0, none⟩ = some (.int .i64 a3) := cell_of_row v2 bx 0 _ 33 (0, 0) FX12.out
        have x1 : v2.cell? ⟨bx, 1, none⟩ = some (.string p4) := cell_of_row v2 bx 1 _ 33 (0, 0) FX12.out
        have x2 : v2.cell? ⟨bx, 2, none⟩ = some (.string ⟨#[42]⟩) := cell_of_row v2 bx 2 _ 33 (0, 0) FX12.out
        have x3 : v2.cell? ⟨bx, 3, none⟩ = some (.string ⟨#[]⟩) := cell_of_row v2 bx 3 _ 33 (0, 0) FX12.out
        have x4 : v2.cell? ⟨bx, 4, none⟩ = some (.bool false) := cell_of_row v2 bx 4 _ 33 (0, 0) FX12.out
        have x5 : v2.cell? ⟨bx, 5, none⟩ = some (.slice none 0 0) := cell_of_row v2 bx 5 _ 33 (0, 0) FX12.out
        have x6 : v2.cell? ⟨bx, 6, none⟩ = some (.bool false) := cell_of_row v2 bx 6 _ 33 (0, 0) FX12.out
        have x7 : v2.cell? ⟨bx, 7, none⟩ = some (.int .i64 300) := cell_of_row v2 bx 7 _ 33 (0, 0) FX12.out
        have x8 : v2.cell? ⟨bx, 8, none⟩ = some (.int .i64 0) := cell_of_row v2 bx 8 _ 33 (0, 0) FX12.out
        have x9 : v2.cell? ⟨bx, 9, none⟩ = some (.int .i64 0) := cell_of_row v2 bx 9 _ 33 (0, 0) FX12.out
        have x10 : v2.cell? ⟨bx, 10, none⟩ = some (.int .i64 0) := cell_of_row v2 bx 10 _ 33 (0, 0) FX12.out
        have x12 : v2.cell? ⟨bx, 12, none⟩ = some (.pointer none) := cell_of_row v2 bx 12 _ 33 (0, 0) FX12.out
        have c3 : v2.cell? ⟨ba, 3, none⟩ = some (.int .i64 a3) := cell_of_row v2 ba 3 _ 23 (0, 0) FA12.out
        have d4 : v2.cell? ⟨bp, 4, none⟩ = some (.string p4) := cell_of_row v2 bp 4 _ 25 (0, 0) FP12.out
        have hs := Lib.run_eql_slice_nil (P := Trym.prog) v2 29 9 none 0 0 0 0 Trym.underlying29
        go_wp2
        go_ret
        exact ⟨rfl, hG12⟩
      · rcases cert2 with ⟨hT2, _⟩ | ⟨_, b2, rfl, _, f2⟩
        case inl => exact absurd (hT.symm.trans hT2) (by decide)
        clear hT
        have FM10 : Hid _ := f1
        have FN10 : Hid _ := f2
        clear f1 f2
        have x0 : wc.cell? ⟨bx, 0, none⟩ = some (.int .i64 a3) := cell_of_row wc bx 0 _ 33 (0, 0) FX10.out
        have x1 : wc.cell? ⟨bx, 1, none⟩ = some (.string p4) := cell_of_row wc bx 1 _ 33 (0, 0) FX10.out
        have x2 : wc.cell? ⟨bx, 2, none⟩ = some (.string ⟨#[42]⟩) := cell_of_row wc bx 2 _ 33 (0, 0) FX10.out
        have x3 : wc.cell? ⟨bx, 3, none⟩ = some (.string ⟨#[]⟩) := cell_of_row wc bx 3 _ 33 (0, 0) FX10.out
        have x4 : wc.cell? ⟨bx, 4, none⟩ = some (.bool false) := cell_of_row wc bx 4 _ 33 (0, 0) FX10.out
        have x5 : wc.cell? ⟨bx, 5, none⟩ = some (.slice none 0 0) := cell_of_row wc bx 5 _ 33 (0, 0) FX10.out
        have x6 : wc.cell? ⟨bx, 6, none⟩ = some (.bool false) := cell_of_row wc bx 6 _ 33 (0, 0) FX10.out
        have x7 : wc.cell? ⟨bx, 7, none⟩ = some (.int .i64 300) := cell_of_row wc bx 7 _ 33 (0, 0) FX10.out
        have x8 : wc.cell? ⟨bx, 8, none⟩ = some (.int .i64 0) := cell_of_row wc bx 8 _ 33 (0, 0) FX10.out
        have x9 : wc.cell? ⟨bx, 9, none⟩ = some (.int .i64 0) := cell_of_row wc bx 9 _ 33 (0, 0) FX10.out
        have x10 : wc.cell? ⟨bx, 10, none⟩ = some (.int .i64 0) := cell_of_row wc bx 10 _ 33 (0, 0) FX10.out
        have x11 : wc.cell? ⟨bx, 11, none⟩ = some (.pointer (some ⟨b1, 0, none⟩)) := cell_of_row wc bx 11 _ 33 (0, 0) FX10.out
        have x12 : wc.cell? ⟨bx, 12, none⟩ = some (.pointer none) := cell_of_row wc bx 12 _ 33 (0, 0) FX10.out
        have y0 : wc.cell? ⟨bv, 0, none⟩ = some (.int .i64 a3) := cell_of_row wc bv 0 _ 33 (0, 0) FY10.out
        have y1 : wc.cell? ⟨bv, 1, none⟩ = some (.string p4) := cell_of_row wc bv 1 _ 33 (0, 0) FY10.out
        have y2 : wc.cell? ⟨bv, 2, none⟩ = some (.string ⟨#[42]⟩) := cell_of_row wc bv 2 _ 33 (0, 0) FY10.out
        have y3 : wc.cell? ⟨bv, 3, none⟩ = some (.string ⟨#[]⟩) := cell_of_row wc bv 3 _ 33 (0, 0) FY10.out
        have y4 : wc.cell? ⟨bv, 4, none⟩ = some (.bool false) := cell_of_row wc bv 4 _ 33 (0, 0) FY10.out
        have y5 : wc.cell? ⟨bv, 5, none⟩ = some (.slice none 0 0) := cell_of_row wc bv 5 _ 33 (0, 0) FY10.out
        have y6 : wc.cell? ⟨bv, 6, none⟩ = some (.bool false) := cell_of_row wc bv 6 _ 33 (0, 0) FY10.out
        have y7 : wc.cell? ⟨bv, 7, none⟩ = some (.int .i64 300) := cell_of_row wc bv 7 _ 33 (0, 0) FY10.out
        have y8 : wc.cell? ⟨bv, 8, none⟩ = some (.int .i64 0) := cell_of_row wc bv 8 _ 33 (0, 0) FY10.out
        have y9 : wc.cell? ⟨bv, 9, none⟩ = some (.int .i64 0) := cell_of_row wc bv 9 _ 33 (0, 0) FY10.out
        have y10 : wc.cell? ⟨bv, 10, none⟩ = some (.int .i64 0) := cell_of_row wc bv 10 _ 33 (0, 0) FY10.out
        have y11 : wc.cell? ⟨bv, 11, none⟩ = some (.pointer (some ⟨b2, 0, none⟩)) := cell_of_row wc bv 11 _ 33 (0, 0) FY10.out
        have y12 : wc.cell? ⟨bv, 12, none⟩ = some (.pointer none) := cell_of_row wc bv 12 _ 33 (0, 0) FY10.out
        go_wp2_with fail
        refine (Sa.same_any a3 p4 _ _ _).mono ?_
        rintro e v1 ⟨rfl, hg11⟩
        clear x0 y0 x1 y1 x2 y2 x3 y3 x4 y4 x5 y5 x6 y6 x7 y7 x8 y8 x9 y9 x10 y10 x11 y11 x12 y12
        have FX11 : Hid _ := grown_block hg11 FX10.out
        have FY11 : Hid _ := grown_block hg11 FY10.out
        have FA11 : Hid _ := grown_block hg11 FA10.out
        have FP11 : Hid _ := grown_block hg11 FP10.out
        have hG11 := grown_trans hG10 hg11
        have FM11 : Hid _ := grown_block hg11 FM10.out
        have FN11 : Hid _ := grown_block hg11 FN10.out
        clear FM10 FN10
        clear FX10 FY10 FA10 FP10 hg11 hG10
        have x11 : v1.cell? ⟨bx, 11, none⟩ = some (.pointer (some ⟨b1, 0, none⟩)) := cell_of_row v1 bx 11 _ 33 (0, 0) FX11.out
        have y11 : v1.cell? ⟨bv, 11, none⟩ = some (.pointer (some ⟨b2, 0, none⟩)) := cell_of_row v1 bv 11 _ 33 (0, 0) FY11.out
        go_wp2_with fail
        refine (Sa.certSame b1 b2 p9 p10 _ (cell_of_row _ b1 0 _ 51 (0, 0) FM11.out) (cell_of_row _ b1 1 _ 51 (0, 0) FM11.out) (cell_of_row _ b2 0 _ 51 (0, 0) FN11.out) (cell_of_row _ b2 1 _ 51 (0, 0) FN11.out)).mono ?_
        rintro e v2 ⟨rfl, hg12⟩
        clear x11 y11
        have FX12 : Hid _ := grown_block hg12 FX11.out
        have FA12 : Hid _ := grown_block hg12 FA11.out
        have FP12 : Hid _ := grown_block hg12 FP11.out
        have hG12 := grown_trans hG11 hg12
        clear FX11 FY11 FA11 FP11 hg12 hG11
        have x0 : v2.cell? ⟨bx, 0, none⟩ = some (.int .i64 a3) := cell_of_row v2 bx 0 _ 33 (0, 0) FX12.out
        have x1 : v2.cell? ⟨bx, 1, none⟩ = some (.string p4) := cell_of_row v2 bx 1 _ 33 (0, 0) FX12.out
        have x2 : v2.cell? ⟨bx, 2, none⟩ = some (.string ⟨#[42]⟩) := cell_of_row v2 bx 2 _ 33 (0, 0) FX12.out
        have x3 : v2.cell? ⟨bx, 3, none⟩ = some (.string ⟨#[]⟩) := cell_of_row v2 bx 3 _ 33 (0, 0) FX12.out
        have x4 : v2.cell? ⟨bx, 4, none⟩ = some (.bool false) := cell_of_row v2 bx 4 _ 33 (0, 0) FX12.out
        have x5 : v2.cell? ⟨bx, 5, none⟩ = some (.slice none 0 0) := cell_of_row v2 bx 5 _ 33 (0, 0) FX12.out
        have x6 : v2.cell? ⟨bx, 6, none⟩ = some (.bool false) := cell_of_row v2 bx 6 _ 33 (0, 0) FX12.out
        have x7 : v2.cell? ⟨bx, 7, none⟩ = some (.int .i64 300) := cell_of_row v2 bx 7 _ 33 (0, 0) FX12.out
        have x8 : v2.cell? ⟨bx, 8, none⟩ = some (.int .i64 0) := cell_of_row v2 bx 8 _ 33 (0, 0) FX12.out
        have x9 : v2.cell? ⟨bx, 9, none⟩ = some (.int .i64 0) := cell_of_row v2 bx 9 _ 33 (0, 0) FX12.out
        have x10 : v2.cell? ⟨bx, 10, none⟩ = some (.int .i64 0) := cell_of_row v2 bx 10 _ 33 (0, 0) FX12.out
        have x12 : v2.cell? ⟨bx, 12, none⟩ = some (.pointer none) := cell_of_row v2 bx 12 _ 33 (0, 0) FX12.out
        have c3 : v2.cell? ⟨ba, 3, none⟩ = some (.int .i64 a3) := cell_of_row v2 ba 3 _ 23 (0, 0) FA12.out
        have d4 : v2.cell? ⟨bp, 4, none⟩ = some (.string p4) := cell_of_row v2 bp 4 _ 25 (0, 0) FP12.out
        have hs := Lib.run_eql_slice_nil (P := Trym.prog) v2 29 9 none 0 0 0 0 Trym.underlying29
        go_wp2
        go_ret
        exact ⟨rfl, hG12⟩
end Go.Proofs.Qxb6613092aMods.Wc
