/-
  THE WALK of FnServerSettingsServeTLSJustWhenConfigured (function 4, seat b6613092aM).
-/
import Derived.Test.Qxb6613092aModsTakes
import Derived.Test.Qxb6613092aModsBytes4
import Derived.Deep.DeepCutAuto
namespace Go.Proofs.Qxb6613092aMods.Wd
open Go.RowKit Se Sx Tk
set_option linter.unusedVariables false
set_option linter.unusedSimpArgs false
set_option maxRecDepth 100000 in
set_option maxHeartbeats 4000000 in
theorem walk_at (a0 : ByteArray) (a1 : ByteArray) (a2 : ByteArray) (a3 : Int) (a4 : ByteArray) (a5 : ByteArray) (a6 : ByteArray) (a7 : ByteArray) (a8 : ByteArray) (a9 : ByteArray) (a10 : ByteArray) (p0 : ByteArray) (p1 : ByteArray) (p2 : ByteArray) (p3 : ByteArray) (p4 : ByteArray) (p5 : ByteArray) (p6 : ByteArray) (p7 : ByteArray) (p8 : ByteArray) (p9 : ByteArray) (p10 : ByteArray) (ha0 : a0.size ≤ maxLen) (ha1 : a1.size ≤ maxLen) (ha2 : a2.size ≤ maxLen) (ha4 : a4.size ≤ maxLen) (ha5 : a5.size ≤ maxLen) (ha6 : a6.size ≤ maxLen) (ha7 : a7.size ≤ maxLen) (ha8 : a8.size ≤ maxLen) (ha9 : a9.size ≤ maxLen) (ha10 : a10.size ≤ maxLen) (hp0 : p0.size ≤ maxLen) (hp1 : p1.size ≤ maxLen) (hp2 : p2.size ≤ maxLen) (hp3 : p3.size ≤ maxLen) (hp4 : p4.size ≤ maxLen) (hp5 : p5.size ≤ maxLen) (hp6 : p6.size ≤ maxLen) (hp7 : p7.size ≤ maxLen) (hp8 : p8.size ≤ maxLen) (hp9 : p9.size ≤ maxLen) (hp10 : p10.size ≤ maxLen) (w : World) :
    Calls Trym.prog 4 #[.agg #[.string a0, .string a1, .string a2, .int .i64 a3, .string a4, .string a5, .string a6, .string a7, .string a8, .string a9, .string a10], .agg #[.string p0, .string p1, .string p2, .string p3, .string p4, .string p5, .string p6, .string p7, .string p8, .string p9, .string p10]] w fun e w' => e = .returned (.bool true) ∧ Grown w w' := by
  have oC : (#[.string a0, .string a1, .string a2, .int .i64 a3, .string a4, .string a5, .string a6, .string a7, .string a8, .string a9, .string a10] : Array Value).all (·.oneCell') = true := by simp [Value.oneCell']
  have OC : Hid _ := oC
  clear oC
  go_enter Trym.func4, Trym.ntmps4
  go_wp2_with (first
    | (refine wpList_load_row rfl 23 _ rfl w.heap.size rfl 23 #[.string a0, .string a1, .string a2, .int .i64 a3, .string a4, .string a5, .string a6, .string a7, .string a8, .string a9, .string a10] (0, 0) _ ?hx Trym.underlying23 rfl (by kernel_rfl) ?_)
    | (refine wpList_load_row rfl 25 _ rfl (w.heap.size + 1) rfl 25 #[.string p0, .string p1, .string p2, .string p3, .string p4, .string p5, .string p6, .string p7, .string p8, .string p9, .string p10] (0, 0) _ ?hy Trym.underlying25 rfl (by kernel_rfl) ?_))
  case hx => exact heap_alloc2_old w _ _
  case hy => exact heap_alloc2_new w _ _
  refine (By.bytes4_any a0 a1 a2 a3 a4 a5 a6 a7 a8 a9 a10 p0 p1 p2 p3 p4 p5 p6 p7 p8 p9 p10 ha0 ha1 ha2 ha4 ha5 ha6 ha7 ha8 ha9 ha10 hp0 hp1 hp2 hp3 hp4 hp5 hp6 hp7 hp8 hp9 hp10 _).mono ?_
  rintro e W1 ⟨b, rfl, hg1⟩
  clear ha0 ha1 ha2 ha4 ha5 ha6 ha7 ha8 ha9 ha10 hp0 hp1 hp2 hp3 hp4 hp5 hp6 hp7 hp8 hp9 hp10
  have FC : Hid _ := grown_block hg1 (heap_alloc2_old w _ _)
  have FP : Hid _ := grown_block hg1 (heap_alloc2_new w _ _)
  have hG : Grown w W1 := Me.grown_trans (Grown.alloc (Grown.alloc (Grown.refl _) _ _) _ _) hg1
  clear hg1
  generalize hbp : w.heap.size + 1 = bp at *
  generalize hbc : w.heap.size = bc at *
  clear hbp hbc
  cases b
  · go_wp2
    go_ret
    exact ⟨rfl, hG⟩
  go_wp2_with (refine wpList_load_row rfl 23 _ rfl bc rfl 23 #[.string a0, .string a1, .string a2, .int .i64 a3, .string a4, .string a5, .string a6, .string a7, .string a8, .string a9, .string a10] (0, 0) _ FC.out Trym.underlying23 rfl (by kernel_rfl) ?_)
  refine (Se.cfgBytes_any 0 a0 a1 a2 a3 a4 a5 a6 a7 a8 a9 a10 (by decide) (by decide) _).mono ?_
  rintro e W2 ⟨n, rfl, n0, n1, hg2⟩
  have FC2 : Hid _ := grown_block hg2 FC.out
  have FP2 : Hid _ := grown_block hg2 FP.out
  have hG2 := Me.grown_trans hG hg2
  clear hg2 FC FP hG
  go_wp2_with (refine wpList_load_row rfl 25 _ rfl bp rfl 25 #[.string p0, .string p1, .string p2, .string p3, .string p4, .string p5, .string p6, .string p7, .string p8, .string p9, .string p10] (0, 0) _ FP2.out Trym.underlying25 rfl (by kernel_rfl) ?_)
  refine (Se.pathsBytes_any n p0 p1 p2 p3 p4 p5 p6 p7 p8 p9 p10 n0 n1 _).mono ?_
  rintro e W3 ⟨m, rfl, m0, m1, hg3⟩
  have fC := grown_block hg3 FC2.out
  have fP := grown_block hg3 FP2.out
  have hG3 := Me.grown_trans hG2 hg3
  clear hg3 FC2 FP2 hG2 n0 n1
  by_cases hn : 1048576 < m
  · clear fC fP
    go_wp2
    go_ret
    exact ⟨rfl, hG3⟩
  have c6 : W3.cell? ⟨bc, 6, none⟩ = some (.string a6) := cell_of_row W3 bc 6 _ 23 (0, 0) fC
  have lC : bc < W3.heap.size := (Array.getElem?_eq_some_iff.1 fC).1
  have lP : bp < W3.heap.size := (Array.getElem?_eq_some_iff.1 fP).1
  have FC0 : Hid _ := fC
  have FP0 : Hid _ := fP
  clear fC fP m0 m1
  go_wp2_with (first
    | (refine wpList_load_row rfl 23 _ rfl bc rfl 23 #[.string a0, .string a1, .string a2, .int .i64 a3, .string a4, .string a5, .string a6, .string a7, .string a8, .string a9, .string a10] (0, 0) _ FC0.out Trym.underlying23 rfl (by kernel_rfl) ?_)
    | (refine wpList_store_row rfl 23 _ _ rfl W3.heap.size #[.string a0, .string a1, .string a2, .int .i64 a3, .string a4, .string a5, .string a6, .string a7, .string a8, .string a9, .string a10] rfl rfl 23 _ (heap_alloc_new W3 _) (by kernel_rfl) rfl OC.out ?_; rw [World.setRow_alloc_new])
    | (go_at_call 16; refine (Se.tls_any a6 _).mono ?_; rintro e w' ⟨rfl, rfl⟩))
  generalize hW4 : W3.alloc (.cells #[.string a0, .string a1, .string a2, .int .i64 a3, .string a4, .string a5, .string ⟨#[115, 101, 108, 102, 45, 115, 105, 103, 110, 101, 100]⟩, .string a7, .string a8, .string a9, .string a10] 23) = W4
  have fC4 : W4.heap[bc]? = some (.cells #[.string a0, .string a1, .string a2, .int .i64 a3, .string a4, .string a5, .string a6, .string a7, .string a8, .string a9, .string a10] 23 (0, 0)) := by rw [← hW4]; exact (heap_alloc_old W3 _ lC).trans FC0.out
  have fP4 : W4.heap[bp]? = some (.cells #[.string p0, .string p1, .string p2, .string p3, .string p4, .string p5, .string p6, .string p7, .string p8, .string p9, .string p10] 25 (0, 0)) := by rw [← hW4]; exact (heap_alloc_old W3 _ lP).trans FP0.out
  have fO4 : W4.heap[W3.heap.size]? = some (.cells #[.string a0, .string a1, .string a2, .int .i64 a3, .string a4, .string a5, .string ⟨#[115, 101, 108, 102, 45, 115, 105, 103, 110, 101, 100]⟩, .string a7, .string a8, .string a9, .string a10] 23 (0, 0)) := by rw [← hW4]; exact heap_alloc_new W3 _
  have hG4 : Grown w W4 := by rw [← hW4]; exact Grown.alloc hG3 _ _
  clear hW4 hG3 FC0 FP0 lC lP c6
  generalize W3.heap.size = bo at *
  have FC4 : Hid _ := fC4
  have FP4 : Hid _ := fP4
  have FO4 : Hid _ := fO4
  clear fC4 fP4 fO4
  go_cut [8] (fun s wc => ∃ (b : Nat) (q : Option Addr), s = .pointer (some ⟨b, 0, none⟩) ∧ wc.heap[b]? = some (.cells #[.int .i64 a3, .string p4, .string ⟨#[42]⟩, .string ⟨#[]⟩, .bool false, .slice none 0 0, .bool false, .int .i64 300, .int .i64 0, .int .i64 0, .int .i64 0, .pointer q, .pointer none] 33 (0, 0)) ∧ Cert (isTLS a6) q W4.heap.size p9 p10 wc ∧ W4.heap.size ≤ b ∧ Grown W4 wc)
  case first =>
    have lx : bc < W4.heap.size := (Array.getElem?_eq_some_iff.1 FC4.out).1
    have lp : bp < W4.heap.size := (Array.getElem?_eq_some_iff.1 FP4.out).1
    have c0 : ∀ w', Grown W4 w' → w'.cell? ⟨bc, 0, none⟩ = some (.string a0) := fun w' h => (grown_cell h 0 lx).trans (cell_of_row W4 bc 0 _ 23 (0, 0) FC4.out)
    have c1 : ∀ w', Grown W4 w' → w'.cell? ⟨bc, 1, none⟩ = some (.string a1) := fun w' h => (grown_cell h 1 lx).trans (cell_of_row W4 bc 1 _ 23 (0, 0) FC4.out)
    have c2 : ∀ w', Grown W4 w' → w'.cell? ⟨bc, 2, none⟩ = some (.string a2) := fun w' h => (grown_cell h 2 lx).trans (cell_of_row W4 bc 2 _ 23 (0, 0) FC4.out)
    have c3 : ∀ w', Grown W4 w' → w'.cell? ⟨bc, 3, none⟩ = some (.int .i64 a3) := fun w' h => (grown_cell h 3 lx).trans (cell_of_row W4 bc 3 _ 23 (0, 0) FC4.out)
    have c4 : ∀ w', Grown W4 w' → w'.cell? ⟨bc, 4, none⟩ = some (.string a4) := fun w' h => (grown_cell h 4 lx).trans (cell_of_row W4 bc 4 _ 23 (0, 0) FC4.out)
    have c5 : ∀ w', Grown W4 w' → w'.cell? ⟨bc, 5, none⟩ = some (.string a5) := fun w' h => (grown_cell h 5 lx).trans (cell_of_row W4 bc 5 _ 23 (0, 0) FC4.out)
    have c6 : ∀ w', Grown W4 w' → w'.cell? ⟨bc, 6, none⟩ = some (.string a6) := fun w' h => (grown_cell h 6 lx).trans (cell_of_row W4 bc 6 _ 23 (0, 0) FC4.out)
    have c7 : ∀ w', Grown W4 w' → w'.cell? ⟨bc, 7, none⟩ = some (.string a7) := fun w' h => (grown_cell h 7 lx).trans (cell_of_row W4 bc 7 _ 23 (0, 0) FC4.out)
    have c8 : ∀ w', Grown W4 w' → w'.cell? ⟨bc, 8, none⟩ = some (.string a8) := fun w' h => (grown_cell h 8 lx).trans (cell_of_row W4 bc 8 _ 23 (0, 0) FC4.out)
    have c9 : ∀ w', Grown W4 w' → w'.cell? ⟨bc, 9, none⟩ = some (.string a9) := fun w' h => (grown_cell h 9 lx).trans (cell_of_row W4 bc 9 _ 23 (0, 0) FC4.out)
    have c10 : ∀ w', Grown W4 w' → w'.cell? ⟨bc, 10, none⟩ = some (.string a10) := fun w' h => (grown_cell h 10 lx).trans (cell_of_row W4 bc 10 _ 23 (0, 0) FC4.out)
    have d0 : ∀ w', Grown W4 w' → w'.cell? ⟨bp, 0, none⟩ = some (.string p0) := fun w' h => (grown_cell h 0 lp).trans (cell_of_row W4 bp 0 _ 25 (0, 0) FP4.out)
    have d1 : ∀ w', Grown W4 w' → w'.cell? ⟨bp, 1, none⟩ = some (.string p1) := fun w' h => (grown_cell h 1 lp).trans (cell_of_row W4 bp 1 _ 25 (0, 0) FP4.out)
    have d2 : ∀ w', Grown W4 w' → w'.cell? ⟨bp, 2, none⟩ = some (.string p2) := fun w' h => (grown_cell h 2 lp).trans (cell_of_row W4 bp 2 _ 25 (0, 0) FP4.out)
    have d3 : ∀ w', Grown W4 w' → w'.cell? ⟨bp, 3, none⟩ = some (.string p3) := fun w' h => (grown_cell h 3 lp).trans (cell_of_row W4 bp 3 _ 25 (0, 0) FP4.out)
    have d4 : ∀ w', Grown W4 w' → w'.cell? ⟨bp, 4, none⟩ = some (.string p4) := fun w' h => (grown_cell h 4 lp).trans (cell_of_row W4 bp 4 _ 25 (0, 0) FP4.out)
    have d5 : ∀ w', Grown W4 w' → w'.cell? ⟨bp, 5, none⟩ = some (.string p5) := fun w' h => (grown_cell h 5 lp).trans (cell_of_row W4 bp 5 _ 25 (0, 0) FP4.out)
    have d6 : ∀ w', Grown W4 w' → w'.cell? ⟨bp, 6, none⟩ = some (.string p6) := fun w' h => (grown_cell h 6 lp).trans (cell_of_row W4 bp 6 _ 25 (0, 0) FP4.out)
    have d7 : ∀ w', Grown W4 w' → w'.cell? ⟨bp, 7, none⟩ = some (.string p7) := fun w' h => (grown_cell h 7 lp).trans (cell_of_row W4 bp 7 _ 25 (0, 0) FP4.out)
    have d8 : ∀ w', Grown W4 w' → w'.cell? ⟨bp, 8, none⟩ = some (.string p8) := fun w' h => (grown_cell h 8 lp).trans (cell_of_row W4 bp 8 _ 25 (0, 0) FP4.out)
    have d9 : ∀ w', Grown W4 w' → w'.cell? ⟨bp, 9, none⟩ = some (.string p9) := fun w' h => (grown_cell h 9 lp).trans (cell_of_row W4 bp 9 _ 25 (0, 0) FP4.out)
    have d10 : ∀ w', Grown W4 w' → w'.cell? ⟨bp, 10, none⟩ = some (.string p10) := fun w' h => (grown_cell h 10 lp).trans (cell_of_row W4 bp 10 _ 25 (0, 0) FP4.out)
    go_region_held3 (fun w' => Grown W4 w') (((try dsimp only); (repeat (first | with_reducible (refine Grown.drew ?_) | with_reducible (refine Grown.alloc ?_ _ _) | with_reducible (refine Grown.setCell ?_ (by simp <;> omega) _))); (first | with_reducible (exact Grown.refl _) | (refine grown_trans ?_ hg5; (repeat (first | with_reducible (refine Grown.drew ?_) | with_reducible (refine Grown.alloc ?_ _ _) | with_reducible (refine Grown.setCell ?_ (by simp <;> omega) _))); with_reducible (exact Grown.refl _)))))
      (first
        | (go_at_call 11; refine (config_x a0 a1 a2 a3 a4 a5 a6 a7 a8 a9 a10 _).mono ?_; rintro e w' ⟨rfl, e1, e2, rfl⟩)
        | (go_at_call 12; refine (paths_x p0 p1 p2 p3 p4 p5 p6 p7 p8 p9 p10 _).mono ?_; rintro e w' ⟨rfl, e3, e4, rfl⟩)
        | (go_at_call 10; refine (server_any a0 a1 a2 a3 a4 a5 a6 a7 a8 a9 a10 p0 p1 p2 p3 p4 p5 p6 p7 p8 p9 p10 _).mono ?_; rintro e V5 ⟨q, rfl, hcert, hg5⟩; have hcl := fun (b o : Nat) (hb : b < _) => grown_cell hg5 o hb; have hfr := hg5.2.1))
    all_goals go_wp2
    all_goals go_meet
    · have hK : Grown W4 _ := Grown.drew (Grown.alloc (Grown.alloc (Grown.alloc (Grown.alloc (Grown.refl W4) e1 23) e2 42) e3 25) e4 44)
      exact ⟨_, q, rfl, heap_alloc_new V5 _, (hcert.low hK.2.2).grown (Grown.alloc (Grown.refl _) _ _), (grown_trans hK hg5).2.2, Grown.alloc (grown_trans hK hg5) _ _⟩
    · have hK := grown5 (Grown.refl W4) e1 e2 e3 e4 #[.int .i64 0, .string ⟨#[]⟩, .string ⟨#[]⟩, .string ⟨#[]⟩, .bool false, .slice none 0 0, .bool false, .int .i64 0, .int .i64 0, .int .i64 0, .int .i64 0, .pointer none, .pointer none] 23 42 25 44 33
      exact ⟨_, q, rfl, set13 V5 _ _ rfl (grown_block hg5 (h5_4 W4 _ _ _ _ _)) _ _ _ _ _ _ _ _ _ _ _ _ _, (hcert.other (fun x hx => set13_other V5 _ x (by rw [size5] at hx; omega) _ _ _ _ _ _ _ _ _ _ _ _ _)).low hK.2.2, by omega, grown_set13 (grown_trans hK hg5) _ (by omega) _ _ _ _ _ _ _ _ _ _ _ _ _⟩
    · have hK := grown5 (Grown.refl W4) e1 e2 #[.int .i64 0, .string ⟨#[]⟩, .string ⟨#[]⟩, .string ⟨#[]⟩, .bool false, .slice none 0 0, .bool false, .int .i64 0, .int .i64 0, .int .i64 0, .int .i64 0, .pointer none, .pointer none] e3 e4 23 42 33 25 44
      exact ⟨_, q, rfl, set13 V5 _ _ rfl (grown_block hg5 (h5_2 W4 _ _ _ _ _)) _ _ _ _ _ _ _ _ _ _ _ _ _, (hcert.other (fun x hx => set13_other V5 _ x (by rw [size5] at hx; omega) _ _ _ _ _ _ _ _ _ _ _ _ _)).low hK.2.2, by omega, grown_set13 (grown_trans hK hg5) _ (by omega) _ _ _ _ _ _ _ _ _ _ _ _ _⟩
    · have hK := grown5 (Grown.refl W4) #[.int .i64 0, .string ⟨#[]⟩, .string ⟨#[]⟩, .string ⟨#[]⟩, .bool false, .slice none 0 0, .bool false, .int .i64 0, .int .i64 0, .int .i64 0, .int .i64 0, .pointer none, .pointer none] e1 e2 e3 e4 33 23 42 25 44
      exact ⟨_, q, rfl, set13 V5 _ _ rfl (grown_block hg5 (h5_0 W4 _ _ _ _ _)) _ _ _ _ _ _ _ _ _ _ _ _ _, (hcert.other (fun x hx => set13_other V5 _ x (by rw [size5] at hx; omega) _ _ _ _ _ _ _ _ _ _ _ _ _)).low hK.2.2, by omega, grown_set13 (grown_trans hK hg5) _ (by omega) _ _ _ _ _ _ _ _ _ _ _ _ _⟩
  case rest =>
    obtain ⟨bg, q1, rfl, fG, cert1, lbg, hg6⟩ := hcut
    have FG6 : Hid _ := fG
    have FO6 : Hid _ := grown_block hg6 FO4.out
    have FP6 : Hid _ := grown_block hg6 FP4.out
    have hG6 := grown_trans hG4 hg6
    have CE6 : Hid _ := cert1
    clear fG cert1 hg6 hG4 FO4 FP4 FC4 lbg
    obtain ⟨W6, hW6⟩ : ∃ W6, W6 = wc := ⟨_, rfl⟩
    subst hW6
    go_wp2_with fail
    go_cut [9] (fun s wc => ∃ (b : Nat) (q : Option Addr), s = .pointer (some ⟨b, 0, none⟩) ∧ wc.heap[b]? = some (.cells #[.int .i64 a3, .string p4, .string ⟨#[42]⟩, .string ⟨#[]⟩, .bool false, .slice none 0 0, .bool false, .int .i64 300, .int .i64 0, .int .i64 0, .int .i64 0, .pointer q, .pointer none] 33 (0, 0)) ∧ Cert (isTLS ⟨#[115, 101, 108, 102, 45, 115, 105, 103, 110, 101, 100]⟩) q W6.heap.size p9 p10 wc ∧ W6.heap.size ≤ b ∧ Grown W6 wc)
    case first =>
      have lx : bo < W6.heap.size := (Array.getElem?_eq_some_iff.1 FO6.out).1
      have lp : bp < W6.heap.size := (Array.getElem?_eq_some_iff.1 FP6.out).1
      have c0 : ∀ w', Grown W6 w' → w'.cell? ⟨bo, 0, none⟩ = some (.string a0) := fun w' h => (grown_cell h 0 lx).trans (cell_of_row W6 bo 0 _ 23 (0, 0) FO6.out)
      have c1 : ∀ w', Grown W6 w' → w'.cell? ⟨bo, 1, none⟩ = some (.string a1) := fun w' h => (grown_cell h 1 lx).trans (cell_of_row W6 bo 1 _ 23 (0, 0) FO6.out)
      have c2 : ∀ w', Grown W6 w' → w'.cell? ⟨bo, 2, none⟩ = some (.string a2) := fun w' h => (grown_cell h 2 lx).trans (cell_of_row W6 bo 2 _ 23 (0, 0) FO6.out)
      have c3 : ∀ w', Grown W6 w' → w'.cell? ⟨bo, 3, none⟩ = some (.int .i64 a3) := fun w' h => (grown_cell h 3 lx).trans (cell_of_row W6 bo 3 _ 23 (0, 0) FO6.out)
      have c4 : ∀ w', Grown W6 w' → w'.cell? ⟨bo, 4, none⟩ = some (.string a4) := fun w' h => (grown_cell h 4 lx).trans (cell_of_row W6 bo 4 _ 23 (0, 0) FO6.out)
      have c5 : ∀ w', Grown W6 w' → w'.cell? ⟨bo, 5, none⟩ = some (.string a5) := fun w' h => (grown_cell h 5 lx).trans (cell_of_row W6 bo 5 _ 23 (0, 0) FO6.out)
      have c6 : ∀ w', Grown W6 w' → w'.cell? ⟨bo, 6, none⟩ = some (.string ⟨#[115, 101, 108, 102, 45, 115, 105, 103, 110, 101, 100]⟩) := fun w' h => (grown_cell h 6 lx).trans (cell_of_row W6 bo 6 _ 23 (0, 0) FO6.out)
      have c7 : ∀ w', Grown W6 w' → w'.cell? ⟨bo, 7, none⟩ = some (.string a7) := fun w' h => (grown_cell h 7 lx).trans (cell_of_row W6 bo 7 _ 23 (0, 0) FO6.out)
      have c8 : ∀ w', Grown W6 w' → w'.cell? ⟨bo, 8, none⟩ = some (.string a8) := fun w' h => (grown_cell h 8 lx).trans (cell_of_row W6 bo 8 _ 23 (0, 0) FO6.out)
      have c9 : ∀ w', Grown W6 w' → w'.cell? ⟨bo, 9, none⟩ = some (.string a9) := fun w' h => (grown_cell h 9 lx).trans (cell_of_row W6 bo 9 _ 23 (0, 0) FO6.out)
      have c10 : ∀ w', Grown W6 w' → w'.cell? ⟨bo, 10, none⟩ = some (.string a10) := fun w' h => (grown_cell h 10 lx).trans (cell_of_row W6 bo 10 _ 23 (0, 0) FO6.out)
      have d0 : ∀ w', Grown W6 w' → w'.cell? ⟨bp, 0, none⟩ = some (.string p0) := fun w' h => (grown_cell h 0 lp).trans (cell_of_row W6 bp 0 _ 25 (0, 0) FP6.out)
      have d1 : ∀ w', Grown W6 w' → w'.cell? ⟨bp, 1, none⟩ = some (.string p1) := fun w' h => (grown_cell h 1 lp).trans (cell_of_row W6 bp 1 _ 25 (0, 0) FP6.out)
      have d2 : ∀ w', Grown W6 w' → w'.cell? ⟨bp, 2, none⟩ = some (.string p2) := fun w' h => (grown_cell h 2 lp).trans (cell_of_row W6 bp 2 _ 25 (0, 0) FP6.out)
      have d3 : ∀ w', Grown W6 w' → w'.cell? ⟨bp, 3, none⟩ = some (.string p3) := fun w' h => (grown_cell h 3 lp).trans (cell_of_row W6 bp 3 _ 25 (0, 0) FP6.out)
      have d4 : ∀ w', Grown W6 w' → w'.cell? ⟨bp, 4, none⟩ = some (.string p4) := fun w' h => (grown_cell h 4 lp).trans (cell_of_row W6 bp 4 _ 25 (0, 0) FP6.out)
      have d5 : ∀ w', Grown W6 w' → w'.cell? ⟨bp, 5, none⟩ = some (.string p5) := fun w' h => (grown_cell h 5 lp).trans (cell_of_row W6 bp 5 _ 25 (0, 0) FP6.out)
      have d6 : ∀ w', Grown W6 w' → w'.cell? ⟨bp, 6, none⟩ = some (.string p6) := fun w' h => (grown_cell h 6 lp).trans (cell_of_row W6 bp 6 _ 25 (0, 0) FP6.out)
      have d7 : ∀ w', Grown W6 w' → w'.cell? ⟨bp, 7, none⟩ = some (.string p7) := fun w' h => (grown_cell h 7 lp).trans (cell_of_row W6 bp 7 _ 25 (0, 0) FP6.out)
      have d8 : ∀ w', Grown W6 w' → w'.cell? ⟨bp, 8, none⟩ = some (.string p8) := fun w' h => (grown_cell h 8 lp).trans (cell_of_row W6 bp 8 _ 25 (0, 0) FP6.out)
      have d9 : ∀ w', Grown W6 w' → w'.cell? ⟨bp, 9, none⟩ = some (.string p9) := fun w' h => (grown_cell h 9 lp).trans (cell_of_row W6 bp 9 _ 25 (0, 0) FP6.out)
      have d10 : ∀ w', Grown W6 w' → w'.cell? ⟨bp, 10, none⟩ = some (.string p10) := fun w' h => (grown_cell h 10 lp).trans (cell_of_row W6 bp 10 _ 25 (0, 0) FP6.out)
      go_region_held3 (fun w' => Grown W6 w') (((try dsimp only); (repeat (first | with_reducible (refine Grown.drew ?_) | with_reducible (refine Grown.alloc ?_ _ _) | with_reducible (refine Grown.setCell ?_ (by simp <;> omega) _))); (first | with_reducible (exact Grown.refl _) | (refine grown_trans ?_ hg7; (repeat (first | with_reducible (refine Grown.drew ?_) | with_reducible (refine Grown.alloc ?_ _ _) | with_reducible (refine Grown.setCell ?_ (by simp <;> omega) _))); with_reducible (exact Grown.refl _)))))
        (first
          | (go_at_call 11; refine (config_x a0 a1 a2 a3 a4 a5 ⟨#[115, 101, 108, 102, 45, 115, 105, 103, 110, 101, 100]⟩ a7 a8 a9 a10 _).mono ?_; rintro e w' ⟨rfl, e1, e2, rfl⟩)
          | (go_at_call 12; refine (paths_x p0 p1 p2 p3 p4 p5 p6 p7 p8 p9 p10 _).mono ?_; rintro e w' ⟨rfl, e3, e4, rfl⟩)
          | (go_at_call 10; refine (server_any a0 a1 a2 a3 a4 a5 ⟨#[115, 101, 108, 102, 45, 115, 105, 103, 110, 101, 100]⟩ a7 a8 a9 a10 p0 p1 p2 p3 p4 p5 p6 p7 p8 p9 p10 _).mono ?_; rintro e V7 ⟨q, rfl, hcert, hg7⟩; have hcl := fun (b o : Nat) (hb : b < _) => grown_cell hg7 o hb; have hfr := hg7.2.1))
      all_goals go_wp2
      all_goals go_meet
      · have hK : Grown W6 _ := Grown.drew (Grown.alloc (Grown.alloc (Grown.alloc (Grown.alloc (Grown.refl W6) e1 23) e2 42) e3 25) e4 44)
        exact ⟨_, q, rfl, heap_alloc_new V7 _, (hcert.low hK.2.2).grown (Grown.alloc (Grown.refl _) _ _), (grown_trans hK hg7).2.2, Grown.alloc (grown_trans hK hg7) _ _⟩
      · have hK := grown5 (Grown.refl W6) e1 e2 e3 e4 #[.int .i64 0, .string ⟨#[]⟩, .string ⟨#[]⟩, .string ⟨#[]⟩, .bool false, .slice none 0 0, .bool false, .int .i64 0, .int .i64 0, .int .i64 0, .int .i64 0, .pointer none, .pointer none] 23 42 25 44 33
        exact ⟨_, q, rfl, set13 V7 _ _ rfl (grown_block hg7 (h5_4 W6 _ _ _ _ _)) _ _ _ _ _ _ _ _ _ _ _ _ _, (hcert.other (fun x hx => set13_other V7 _ x (by rw [size5] at hx; omega) _ _ _ _ _ _ _ _ _ _ _ _ _)).low hK.2.2, by omega, grown_set13 (grown_trans hK hg7) _ (by omega) _ _ _ _ _ _ _ _ _ _ _ _ _⟩
      · have hK := grown5 (Grown.refl W6) e1 e2 #[.int .i64 0, .string ⟨#[]⟩, .string ⟨#[]⟩, .string ⟨#[]⟩, .bool false, .slice none 0 0, .bool false, .int .i64 0, .int .i64 0, .int .i64 0, .int .i64 0, .pointer none, .pointer none] e3 e4 23 42 33 25 44
        exact ⟨_, q, rfl, set13 V7 _ _ rfl (grown_block hg7 (h5_2 W6 _ _ _ _ _)) _ _ _ _ _ _ _ _ _ _ _ _ _, (hcert.other (fun x hx => set13_other V7 _ x (by rw [size5] at hx; omega) _ _ _ _ _ _ _ _ _ _ _ _ _)).low hK.2.2, by omega, grown_set13 (grown_trans hK hg7) _ (by omega) _ _ _ _ _ _ _ _ _ _ _ _ _⟩
      · have hK := grown5 (Grown.refl W6) #[.int .i64 0, .string ⟨#[]⟩, .string ⟨#[]⟩, .string ⟨#[]⟩, .bool false, .slice none 0 0, .bool false, .int .i64 0, .int .i64 0, .int .i64 0, .int .i64 0, .pointer none, .pointer none] e1 e2 e3 e4 33 23 42 25 44
        exact ⟨_, q, rfl, set13 V7 _ _ rfl (grown_block hg7 (h5_0 W6 _ _ _ _ _)) _ _ _ _ _ _ _ _ _ _ _ _ _, (hcert.other (fun x hx => set13_other V7 _ x (by rw [size5] at hx; omega) _ _ _ _ _ _ _ _ _ _ _ _ _)).low hK.2.2, by omega, grown_set13 (grown_trans hK hg7) _ (by omega) _ _ _ _ _ _ _ _ _ _ _ _ _⟩
    case rest =>
      obtain ⟨bt, q2, rfl, fT, cert2, lbt, hg8⟩ := hcut
      have FG8 := grown_block hg8 FG6.out
      have FP8 := grown_block hg8 FP6.out
      have CE8 := Cert.grown CE6.out hg8
      have hG8 := grown_trans hG6 hg8
      clear FG6 FP6 CE6 hg8 hG6
      go_wp2_with fail
      rcases cert2 with ⟨hh, _⟩ | ⟨_, b2, rfl, _, f2⟩
      · exact absurd hh (by rw [show isTLS ⟨#[115, 101, 108, 102, 45, 115, 105, 103, 110, 101, 100]⟩ = true from by kernel_rfl]; decide)
      have lg : bg < wc.heap.size := (Array.getElem?_eq_some_iff.1 FG8).1
      have lt : bt < wc.heap.size := (Array.getElem?_eq_some_iff.1 fT).1
      have lp : bp < wc.heap.size := (Array.getElem?_eq_some_iff.1 FP8).1
      have l2 : b2 < wc.heap.size := (Array.getElem?_eq_some_iff.1 f2).1
      rcases CE8 with ⟨hT, rfl⟩ | ⟨hT, b1, rfl, _, f1⟩
      · rw [hT]
        have g0 : ∀ w', Grown wc w' → w'.cell? ⟨bg, 0, none⟩ = some (.int .i64 a3) := fun w' h => (grown_cell h 0 lg).trans (cell_of_row wc bg 0 _ 33 (0, 0) FG8)
        have g1 : ∀ w', Grown wc w' → w'.cell? ⟨bg, 1, none⟩ = some (.string p4) := fun w' h => (grown_cell h 1 lg).trans (cell_of_row wc bg 1 _ 33 (0, 0) FG8)
        have g2 : ∀ w', Grown wc w' → w'.cell? ⟨bg, 2, none⟩ = some (.string ⟨#[42]⟩) := fun w' h => (grown_cell h 2 lg).trans (cell_of_row wc bg 2 _ 33 (0, 0) FG8)
        have g3 : ∀ w', Grown wc w' → w'.cell? ⟨bg, 3, none⟩ = some (.string ⟨#[]⟩) := fun w' h => (grown_cell h 3 lg).trans (cell_of_row wc bg 3 _ 33 (0, 0) FG8)
        have g4 : ∀ w', Grown wc w' → w'.cell? ⟨bg, 4, none⟩ = some (.bool false) := fun w' h => (grown_cell h 4 lg).trans (cell_of_row wc bg 4 _ 33 (0, 0) FG8)
        have g5 : ∀ w', Grown wc w' → w'.cell? ⟨bg, 5, none⟩ = some (.slice none 0 0) := fun w' h => (grown_cell h 5 lg).trans (cell_of_row wc bg 5 _ 33 (0, 0) FG8)
        have g6 : ∀ w', Grown wc w' → w'.cell? ⟨bg, 6, none⟩ = some (.bool false) := fun w' h => (grown_cell h 6 lg).trans (cell_of_row wc bg 6 _ 33 (0, 0) FG8)
        have g7 : ∀ w', Grown wc w' → w'.cell? ⟨bg, 7, none⟩ = some (.int .i64 300) := fun w' h => (grown_cell h 7 lg).trans (cell_of_row wc bg 7 _ 33 (0, 0) FG8)
        have g8 : ∀ w', Grown wc w' → w'.cell? ⟨bg, 8, none⟩ = some (.int .i64 0) := fun w' h => (grown_cell h 8 lg).trans (cell_of_row wc bg 8 _ 33 (0, 0) FG8)
        have g9 : ∀ w', Grown wc w' → w'.cell? ⟨bg, 9, none⟩ = some (.int .i64 0) := fun w' h => (grown_cell h 9 lg).trans (cell_of_row wc bg 9 _ 33 (0, 0) FG8)
        have g10 : ∀ w', Grown wc w' → w'.cell? ⟨bg, 10, none⟩ = some (.int .i64 0) := fun w' h => (grown_cell h 10 lg).trans (cell_of_row wc bg 10 _ 33 (0, 0) FG8)
        have g11 : ∀ w', Grown wc w' → w'.cell? ⟨bg, 11, none⟩ = some (.pointer none) := fun w' h => (grown_cell h 11 lg).trans (cell_of_row wc bg 11 _ 33 (0, 0) FG8)
        have g12 : ∀ w', Grown wc w' → w'.cell? ⟨bg, 12, none⟩ = some (.pointer none) := fun w' h => (grown_cell h 12 lg).trans (cell_of_row wc bg 12 _ 33 (0, 0) FG8)
        have t0 : ∀ w', Grown wc w' → w'.cell? ⟨bt, 0, none⟩ = some (.int .i64 a3) := fun w' h => (grown_cell h 0 lt).trans (cell_of_row wc bt 0 _ 33 (0, 0) fT)
        have t1 : ∀ w', Grown wc w' → w'.cell? ⟨bt, 1, none⟩ = some (.string p4) := fun w' h => (grown_cell h 1 lt).trans (cell_of_row wc bt 1 _ 33 (0, 0) fT)
        have t2 : ∀ w', Grown wc w' → w'.cell? ⟨bt, 2, none⟩ = some (.string ⟨#[42]⟩) := fun w' h => (grown_cell h 2 lt).trans (cell_of_row wc bt 2 _ 33 (0, 0) fT)
        have t3 : ∀ w', Grown wc w' → w'.cell? ⟨bt, 3, none⟩ = some (.string ⟨#[]⟩) := fun w' h => (grown_cell h 3 lt).trans (cell_of_row wc bt 3 _ 33 (0, 0) fT)
        have t4 : ∀ w', Grown wc w' → w'.cell? ⟨bt, 4, none⟩ = some (.bool false) := fun w' h => (grown_cell h 4 lt).trans (cell_of_row wc bt 4 _ 33 (0, 0) fT)
        have t5 : ∀ w', Grown wc w' → w'.cell? ⟨bt, 5, none⟩ = some (.slice none 0 0) := fun w' h => (grown_cell h 5 lt).trans (cell_of_row wc bt 5 _ 33 (0, 0) fT)
        have t6 : ∀ w', Grown wc w' → w'.cell? ⟨bt, 6, none⟩ = some (.bool false) := fun w' h => (grown_cell h 6 lt).trans (cell_of_row wc bt 6 _ 33 (0, 0) fT)
        have t7 : ∀ w', Grown wc w' → w'.cell? ⟨bt, 7, none⟩ = some (.int .i64 300) := fun w' h => (grown_cell h 7 lt).trans (cell_of_row wc bt 7 _ 33 (0, 0) fT)
        have t8 : ∀ w', Grown wc w' → w'.cell? ⟨bt, 8, none⟩ = some (.int .i64 0) := fun w' h => (grown_cell h 8 lt).trans (cell_of_row wc bt 8 _ 33 (0, 0) fT)
        have t9 : ∀ w', Grown wc w' → w'.cell? ⟨bt, 9, none⟩ = some (.int .i64 0) := fun w' h => (grown_cell h 9 lt).trans (cell_of_row wc bt 9 _ 33 (0, 0) fT)
        have t10 : ∀ w', Grown wc w' → w'.cell? ⟨bt, 10, none⟩ = some (.int .i64 0) := fun w' h => (grown_cell h 10 lt).trans (cell_of_row wc bt 10 _ 33 (0, 0) fT)
        have t11 : ∀ w', Grown wc w' → w'.cell? ⟨bt, 11, none⟩ = some (.pointer (some ⟨b2, 0, none⟩)) := fun w' h => (grown_cell h 11 lt).trans (cell_of_row wc bt 11 _ 33 (0, 0) fT)
        have t12 : ∀ w', Grown wc w' → w'.cell? ⟨bt, 12, none⟩ = some (.pointer none) := fun w' h => (grown_cell h 12 lt).trans (cell_of_row wc bt 12 _ 33 (0, 0) fT)
        have k0 : ∀ w', Grown wc w' → w'.cell? ⟨b2, 0, none⟩ = some (.string p9) := fun w' h => (grown_cell h 0 l2).trans (cell_of_row wc b2 0 _ 51 (0, 0) f2)
        have k1 : ∀ w', Grown wc w' → w'.cell? ⟨b2, 1, none⟩ = some (.string p10) := fun w' h => (grown_cell h 1 l2).trans (cell_of_row wc b2 1 _ 51 (0, 0) f2)
        have d0 : ∀ w', Grown wc w' → w'.cell? ⟨bp, 0, none⟩ = some (.string p0) := fun w' h => (grown_cell h 0 lp).trans (cell_of_row wc bp 0 _ 25 (0, 0) FP8)
        have d1 : ∀ w', Grown wc w' → w'.cell? ⟨bp, 1, none⟩ = some (.string p1) := fun w' h => (grown_cell h 1 lp).trans (cell_of_row wc bp 1 _ 25 (0, 0) FP8)
        have d2 : ∀ w', Grown wc w' → w'.cell? ⟨bp, 2, none⟩ = some (.string p2) := fun w' h => (grown_cell h 2 lp).trans (cell_of_row wc bp 2 _ 25 (0, 0) FP8)
        have d3 : ∀ w', Grown wc w' → w'.cell? ⟨bp, 3, none⟩ = some (.string p3) := fun w' h => (grown_cell h 3 lp).trans (cell_of_row wc bp 3 _ 25 (0, 0) FP8)
        have d4 : ∀ w', Grown wc w' → w'.cell? ⟨bp, 4, none⟩ = some (.string p4) := fun w' h => (grown_cell h 4 lp).trans (cell_of_row wc bp 4 _ 25 (0, 0) FP8)
        have d5 : ∀ w', Grown wc w' → w'.cell? ⟨bp, 5, none⟩ = some (.string p5) := fun w' h => (grown_cell h 5 lp).trans (cell_of_row wc bp 5 _ 25 (0, 0) FP8)
        have d6 : ∀ w', Grown wc w' → w'.cell? ⟨bp, 6, none⟩ = some (.string p6) := fun w' h => (grown_cell h 6 lp).trans (cell_of_row wc bp 6 _ 25 (0, 0) FP8)
        have d7 : ∀ w', Grown wc w' → w'.cell? ⟨bp, 7, none⟩ = some (.string p7) := fun w' h => (grown_cell h 7 lp).trans (cell_of_row wc bp 7 _ 25 (0, 0) FP8)
        have d8 : ∀ w', Grown wc w' → w'.cell? ⟨bp, 8, none⟩ = some (.string p8) := fun w' h => (grown_cell h 8 lp).trans (cell_of_row wc bp 8 _ 25 (0, 0) FP8)
        have d9 : ∀ w', Grown wc w' → w'.cell? ⟨bp, 9, none⟩ = some (.string p9) := fun w' h => (grown_cell h 9 lp).trans (cell_of_row wc bp 9 _ 25 (0, 0) FP8)
        have d10 : ∀ w', Grown wc w' → w'.cell? ⟨bp, 10, none⟩ = some (.string p10) := fun w' h => (grown_cell h 10 lp).trans (cell_of_row wc bp 10 _ 25 (0, 0) FP8)
        refine wp_region_held_drew (S := fun w' => Grown wc w') (by kernel_rfl) (Grown.drew (Grown.refl wc)) (fun hHeld => ?_)
        refine take_d (i := 0) (d := 36) (v := ?fv0) rfl (by rfl) (by kernel_rfl) (by kernel_rfl) (by kernel_rfl) (fun _ _ _ h => h) (Or.inl ⟨by rfl, ?fy0⟩) (by assumption) ?fr0
        case fy0 => ((intro w' hSw); (try dsimp only at hSw); go_simp; try with_reducible rfl)
        simp only [Act.put, List.setIfInBounds_toArray, List.set_cons_zero, List.set_cons_succ]
        refine take_d (i := 1) (d := 37) (v := ?fv1) rfl (by rfl) (by kernel_rfl) (by kernel_rfl) (by kernel_rfl) (fun _ _ _ h => h) (Or.inl ⟨by rfl, ?fy1⟩) (by assumption) ?fr1
        case fy1 => ((intro w' hSw); (try dsimp only at hSw); go_simp; try with_reducible rfl)
        simp only [Act.put, List.setIfInBounds_toArray, List.set_cons_zero, List.set_cons_succ]
        refine take_d (i := 2) (d := 38) (v := ?fv2) rfl (by rfl) (by kernel_rfl) (by kernel_rfl) (by kernel_rfl) (fun _ _ _ h => h) (Or.inl ⟨by rfl, ?fy2⟩) (by assumption) ?fr2
        case fy2 => ((intro w' hSw); (try dsimp only at hSw); go_simp; try with_reducible rfl)
        simp only [Act.put, List.setIfInBounds_toArray, List.set_cons_zero, List.set_cons_succ]
        refine take_d (i := 3) (d := 39) (v := ?fv3) rfl (by rfl) (by kernel_rfl) (by kernel_rfl) (by kernel_rfl) (fun _ _ _ h => h) (Or.inl ⟨by rfl, ?fy3⟩) (by assumption) ?fr3
        case fy3 => ((intro w' hSw); (try dsimp only at hSw); go_simp; try with_reducible rfl)
        simp only [Act.put, List.setIfInBounds_toArray, List.set_cons_zero, List.set_cons_succ]
        refine take_d (i := 4) (d := 40) (v := ?fv4) rfl (by rfl) (by kernel_rfl) (by kernel_rfl) (by kernel_rfl) (fun _ _ _ h => h) (Or.inl ⟨by rfl, ?fy4⟩) (by assumption) ?fr4
        case fy4 => ((intro w' hSw); (try dsimp only at hSw); go_simp; try with_reducible rfl)
        simp only [Act.put, List.setIfInBounds_toArray, List.set_cons_zero, List.set_cons_succ]
        refine take_d (i := 5) (d := 41) (v := ?fv5) rfl (by rfl) (by kernel_rfl) (by kernel_rfl) (by kernel_rfl) (fun _ _ _ h => h) (Or.inl ⟨by rfl, ?fy5⟩) (by assumption) ?fr5
        case fy5 => ((intro w' hSw); (try dsimp only at hSw); go_simp; try with_reducible rfl)
        simp only [Act.put, List.setIfInBounds_toArray, List.set_cons_zero, List.set_cons_succ]
        refine take_d (i := 6) (d := 42) (v := ?fv6) rfl (by rfl) (by kernel_rfl) (by kernel_rfl) (by kernel_rfl) (fun _ _ _ h => h) (Or.inl ⟨by rfl, ?fy6⟩) (by assumption) ?fr6
        case fy6 => ((intro w' hSw); (try dsimp only at hSw); go_simp; try with_reducible rfl)
        simp only [Act.put, List.setIfInBounds_toArray, List.set_cons_zero, List.set_cons_succ]
        refine take_d (i := 7) (d := 43) (v := ?fv7) rfl (by rfl) (by kernel_rfl) (by kernel_rfl) (by kernel_rfl) (fun _ _ _ h => h) (Or.inl ⟨by rfl, ?fy7⟩) (by assumption) ?fr7
        case fy7 => ((intro w' hSw); (try dsimp only at hSw); go_simp; try with_reducible rfl)
        simp only [Act.put, List.setIfInBounds_toArray, List.set_cons_zero, List.set_cons_succ]
        refine take_d (i := 8) (d := 44) (v := ?fv8) rfl (by rfl) (by kernel_rfl) (by kernel_rfl) (by kernel_rfl) (fun _ _ _ h => h) (Or.inl ⟨by rfl, ?fy8⟩) (by assumption) ?fr8
        case fy8 => ((intro w' hSw); (try dsimp only at hSw); go_simp; try with_reducible rfl)
        simp only [Act.put, List.setIfInBounds_toArray, List.set_cons_zero, List.set_cons_succ]
        refine take_d (i := 9) (d := 45) (v := ?fv9) rfl (by rfl) (by kernel_rfl) (by kernel_rfl) (by kernel_rfl) (fun _ _ _ h => h) (Or.inl ⟨by rfl, ?fy9⟩) (by assumption) ?fr9
        case fy9 => ((intro w' hSw); (try dsimp only at hSw); go_simp; try with_reducible rfl)
        simp only [Act.put, List.setIfInBounds_toArray, List.set_cons_zero, List.set_cons_succ]
        refine take_d (i := 10) (d := 46) (v := ?fv10) rfl (by rfl) (by kernel_rfl) (by kernel_rfl) (by kernel_rfl) (fun _ _ _ h => h) (Or.inl ⟨by rfl, ?fy10⟩) (by assumption) ?fr10
        case fy10 => ((intro w' hSw); (try dsimp only at hSw); go_simp; try with_reducible rfl)
        simp only [Act.put, List.setIfInBounds_toArray, List.set_cons_zero, List.set_cons_succ]
        refine take_d (i := 11) (d := 47) (v := ?fv11) rfl (by rfl) (by kernel_rfl) (by kernel_rfl) (by kernel_rfl) (fun _ _ _ h => h) (Or.inl ⟨by rfl, ?fy11⟩) (by assumption) ?fr11
        case fy11 => ((intro w' hSw); (try dsimp only at hSw); go_simp; try with_reducible rfl)
        simp only [Act.put, List.setIfInBounds_toArray, List.set_cons_zero, List.set_cons_succ]
        refine take_d (i := 12) (d := 48) (v := ?fv12) rfl (by rfl) (by kernel_rfl) (by kernel_rfl) (by kernel_rfl) (fun _ _ _ h => h) (Or.inl ⟨by rfl, ?fy12⟩) (by assumption) ?fr12
        case fy12 => ((intro w' hSw); (try dsimp only at hSw); go_simp; try with_reducible rfl)
        simp only [Act.put, List.setIfInBounds_toArray, List.set_cons_zero, List.set_cons_succ]
        refine take_d (i := 13) (d := 49) (v := ?fv13) rfl (by rfl) (by kernel_rfl) (by kernel_rfl) (by kernel_rfl) (fun _ _ _ h => h) (Or.inl ⟨by rfl, ?fy13⟩) (by assumption) ?fr13
        case fy13 => ((intro w' hSw); (try dsimp only at hSw); go_simp; try with_reducible rfl)
        simp only [Act.put, List.setIfInBounds_toArray, List.set_cons_zero, List.set_cons_succ]
        refine take_d (i := 14) (d := 50) (v := ?fv14) rfl (by rfl) (by kernel_rfl) (by kernel_rfl) (by kernel_rfl) (fun _ _ _ h => h) (Or.inl ⟨by rfl, ?fy14⟩) (by assumption) ?fr14
        case fy14 => ((intro w' hSw); (try dsimp only at hSw); go_simp; try with_reducible rfl)
        simp only [Act.put, List.setIfInBounds_toArray, List.set_cons_zero, List.set_cons_succ]
        refine take_d (i := 15) (d := 51) (v := ?fv15) rfl (by rfl) (by kernel_rfl) (by kernel_rfl) (by kernel_rfl) (fun _ _ _ h => h) (Or.inl ⟨by rfl, ?fy15⟩) (by assumption) ?fr15
        case fy15 => ((intro w' hSw); (try dsimp only at hSw); go_simp; try with_reducible rfl)
        simp only [Act.put, List.setIfInBounds_toArray, List.set_cons_zero, List.set_cons_succ]
        refine take_d (i := 16) (d := 52) (v := ?fv16) rfl (by rfl) (by kernel_rfl) (by kernel_rfl) (by kernel_rfl) (fun _ _ _ h => h) (Or.inl ⟨by rfl, ?fy16⟩) (by assumption) ?fr16
        case fy16 => ((intro w' hSw); (try dsimp only at hSw); go_simp; try with_reducible rfl)
        simp only [Act.put, List.setIfInBounds_toArray, List.set_cons_zero, List.set_cons_succ]
        refine take_d (i := 17) (d := 53) (v := ?fv17) rfl (by rfl) (by kernel_rfl) (by kernel_rfl) (by kernel_rfl) (fun _ _ _ h => h) (Or.inl ⟨by rfl, ?fy17⟩) (by assumption) ?fr17
        case fy17 => ((intro w' hSw); (try dsimp only at hSw); go_simp; try with_reducible rfl)
        simp only [Act.put, List.setIfInBounds_toArray, List.set_cons_zero, List.set_cons_succ]
        refine take_d (i := 18) (d := 54) (v := ?fv18) rfl (by rfl) (by kernel_rfl) (by kernel_rfl) (by kernel_rfl) (fun _ _ _ h => h) (Or.inl ⟨by rfl, ?fy18⟩) (by assumption) ?fr18
        case fy18 => ((intro w' hSw); (try dsimp only at hSw); go_simp; try with_reducible rfl)
        simp only [Act.put, List.setIfInBounds_toArray, List.set_cons_zero, List.set_cons_succ]
        refine take_d (i := 19) (d := 55) (v := ?fv19) rfl (by rfl) (by kernel_rfl) (by kernel_rfl) (by kernel_rfl) (fun _ _ _ h => h) (Or.inl ⟨by rfl, ?fy19⟩) (by assumption) ?fr19
        case fy19 => ((intro w' hSw); (try dsimp only at hSw); go_simp; try with_reducible rfl)
        simp only [Act.put, List.setIfInBounds_toArray, List.set_cons_zero, List.set_cons_succ]
        refine take_d (i := 20) (d := 56) (v := ?fv20) rfl (by rfl) (by kernel_rfl) (by kernel_rfl) (by kernel_rfl) (fun _ _ _ h => h) (Or.inl ⟨by rfl, ?fy20⟩) (by assumption) ?fr20
        case fy20 => ((intro w' hSw); (try dsimp only at hSw); go_simp; try with_reducible rfl)
        simp only [Act.put, List.setIfInBounds_toArray, List.set_cons_zero, List.set_cons_succ]
        refine take_d (i := 21) (d := 57) (v := ?fv21) rfl (by rfl) (by kernel_rfl) (by kernel_rfl) (by kernel_rfl) (fun _ _ _ h => h) (Or.inl ⟨by rfl, ?fy21⟩) (by assumption) ?fr21
        case fy21 => ((intro w' hSw); (try dsimp only at hSw); go_simp; try with_reducible rfl)
        simp only [Act.put, List.setIfInBounds_toArray, List.set_cons_zero, List.set_cons_succ]
        refine take_d (i := 22) (d := 58) (v := ?fv22) rfl (by rfl) (by kernel_rfl) (by kernel_rfl) (by kernel_rfl) (fun _ _ _ h => h) (Or.inl ⟨by rfl, ?fy22⟩) (by assumption) ?fr22
        case fy22 => ((intro w' hSw); (try dsimp only at hSw); go_simp; try with_reducible rfl)
        simp only [Act.put, List.setIfInBounds_toArray, List.set_cons_zero, List.set_cons_succ]
        refine take_d (i := 23) (d := 59) (v := ?fv23) rfl (by rfl) (by kernel_rfl) (by kernel_rfl) (by kernel_rfl) (fun _ _ _ h => h) (Or.inl ⟨by rfl, ?fy23⟩) (by assumption) ?fr23
        case fy23 => ((intro w' hSw); (try dsimp only at hSw); go_simp; try with_reducible rfl)
        simp only [Act.put, List.setIfInBounds_toArray, List.set_cons_zero, List.set_cons_succ]
        refine take_d (i := 24) (d := 60) (v := ?fv24) rfl (by rfl) (by kernel_rfl) (by kernel_rfl) (by kernel_rfl) (fun _ _ _ h => h) (Or.inl ⟨by rfl, ?fy24⟩) (by assumption) ?fr24
        case fy24 => ((intro w' hSw); (try dsimp only at hSw); go_simp; try with_reducible rfl)
        simp only [Act.put, List.setIfInBounds_toArray, List.set_cons_zero, List.set_cons_succ]
        refine take_d (i := 25) (d := 61) (v := ?fv25) rfl (by rfl) (by kernel_rfl) (by kernel_rfl) (by kernel_rfl) (fun _ _ _ h => h) (Or.inl ⟨by rfl, ?fy25⟩) (by assumption) ?fr25
        case fy25 => ((intro w' hSw); (try dsimp only at hSw); go_simp; try with_reducible rfl)
        simp only [Act.put, List.setIfInBounds_toArray, List.set_cons_zero, List.set_cons_succ]
        refine take_d (i := 26) (d := 62) (v := ?fv26) rfl (by rfl) (by kernel_rfl) (by kernel_rfl) (by kernel_rfl) (fun _ _ _ h => h) (Or.inl ⟨by rfl, ?fy26⟩) (by assumption) ?fr26
        case fy26 => ((intro w' hSw); (try dsimp only at hSw); go_simp; try with_reducible rfl)
        simp only [Act.put, List.setIfInBounds_toArray, List.set_cons_zero, List.set_cons_succ]
        refine take_d (i := 27) (d := 63) (v := ?fv27) rfl (by rfl) (by kernel_rfl) (by kernel_rfl) (by kernel_rfl) (fun _ _ _ h => h) (Or.inl ⟨by rfl, ?fy27⟩) (by assumption) ?fr27
        case fy27 => ((intro w' hSw); (try dsimp only at hSw); go_simp; try with_reducible rfl)
        simp only [Act.put, List.setIfInBounds_toArray, List.set_cons_zero, List.set_cons_succ]
        refine take_d (i := 28) (d := 64) (v := ?fv28) rfl (by rfl) (by kernel_rfl) (by kernel_rfl) (by kernel_rfl) (fun _ _ _ h => h) (Or.inl ⟨by rfl, ?fy28⟩) (by assumption) ?fr28
        case fy28 => ((intro w' hSw); (try dsimp only at hSw); go_simp; try with_reducible rfl)
        simp only [Act.put, List.setIfInBounds_toArray, List.set_cons_zero, List.set_cons_succ]
        refine take_d (i := 29) (d := 65) (v := ?fv29) rfl (by rfl) (by kernel_rfl) (by kernel_rfl) (by kernel_rfl) (fun _ _ _ h => h) (Or.inl ⟨by rfl, ?fy29⟩) (by assumption) ?fr29
        case fy29 => ((intro w' hSw); (try dsimp only at hSw); go_simp; try with_reducible rfl)
        simp only [Act.put, List.setIfInBounds_toArray, List.set_cons_zero, List.set_cons_succ]
        refine take_d (i := 30) (d := 66) (v := ?fv30) rfl (by rfl) (by kernel_rfl) (by kernel_rfl) (by kernel_rfl) (fun _ _ _ h => h) (Or.inl ⟨by rfl, ?fy30⟩) (by assumption) ?fr30
        case fy30 => ((intro w' hSw); (try dsimp only at hSw); go_simp; try with_reducible rfl)
        simp only [Act.put, List.setIfInBounds_toArray, List.set_cons_zero, List.set_cons_succ]
        refine take_d (i := 31) (d := 67) (v := ?fv31) rfl (by rfl) (by kernel_rfl) (by kernel_rfl) (by kernel_rfl) (fun _ _ _ h => h) (Or.inl ⟨by rfl, ?fy31⟩) (by assumption) ?fr31
        case fy31 => ((intro w' hSw); (try dsimp only at hSw); go_simp; try with_reducible rfl)
        simp only [Act.put, List.setIfInBounds_toArray, List.set_cons_zero, List.set_cons_succ]
        refine take_d (i := 32) (d := 68) (v := ?fv32) rfl (by rfl) (by kernel_rfl) (by kernel_rfl) (by kernel_rfl) (fun _ _ _ h => h) (Or.inl ⟨by rfl, ?fy32⟩) (by assumption) ?fr32
        case fy32 => ((intro w' hSw); (try dsimp only at hSw); go_simp; try with_reducible rfl)
        simp only [Act.put, List.setIfInBounds_toArray, List.set_cons_zero, List.set_cons_succ]
        refine take_d (i := 33) (d := 69) (v := ?fv33) rfl (by rfl) (by kernel_rfl) (by kernel_rfl) (by kernel_rfl) (fun _ _ _ h => h) (Or.inl ⟨by rfl, ?fy33⟩) (by assumption) ?fr33
        case fy33 => ((intro w' hSw); (try dsimp only at hSw); go_simp; try with_reducible rfl)
        simp only [Act.put, List.setIfInBounds_toArray, List.set_cons_zero, List.set_cons_succ]
        refine take_d (i := 34) (d := 70) (v := ?fv34) rfl (by rfl) (by kernel_rfl) (by kernel_rfl) (by kernel_rfl) (fun _ _ _ h => h) (Or.inl ⟨by rfl, ?fy34⟩) (by assumption) ?fr34
        case fy34 => ((intro w' hSw); (try dsimp only at hSw); go_simp; try with_reducible rfl)
        simp only [Act.put, List.setIfInBounds_toArray, List.set_cons_zero, List.set_cons_succ]
        refine take_d (i := 35) (d := 71) (v := undef) rfl (by rfl) (by kernel_rfl) (by kernel_rfl) (by kernel_rfl) (fun _ _ _ h => h) (Or.inr ⟨by rfl, rfl⟩) (by assumption) ?_
        simp only [Act.put, List.setIfInBounds_toArray, List.set_cons_zero, List.set_cons_succ]
        refine take_d (i := 36) (d := 72) (v := undef) rfl (by rfl) (by kernel_rfl) (by kernel_rfl) (by kernel_rfl) (fun _ _ _ h => h) (Or.inr ⟨by rfl, rfl⟩) (by assumption) ?_
        simp only [Act.put, List.setIfInBounds_toArray, List.set_cons_zero, List.set_cons_succ]
        refine take_d (i := 37) (d := 73) (v := undef) rfl (by rfl) (by kernel_rfl) (by kernel_rfl) (by kernel_rfl) (fun _ _ _ h => h) (Or.inr ⟨by rfl, rfl⟩) (by assumption) ?_
        simp only [Act.put, List.setIfInBounds_toArray, List.set_cons_zero, List.set_cons_succ]
        refine take_d (i := 38) (d := 74) (v := undef) rfl (by rfl) (by kernel_rfl) (by kernel_rfl) (by kernel_rfl) (fun _ _ _ h => h) (Or.inr ⟨by rfl, rfl⟩) (by assumption) ?_
        simp only [Act.put, List.setIfInBounds_toArray, List.set_cons_zero, List.set_cons_succ]
        refine take_d (i := 39) (d := 75) (v := undef) rfl (by rfl) (by kernel_rfl) (by kernel_rfl) (by kernel_rfl) (fun _ _ _ h => h) (Or.inr ⟨by rfl, rfl⟩) (by assumption) ?_
        simp only [Act.put, List.setIfInBounds_toArray, List.set_cons_zero, List.set_cons_succ]
        refine take_d (i := 40) (d := 76) (v := undef) rfl (by rfl) (by kernel_rfl) (by kernel_rfl) (by kernel_rfl) (fun _ _ _ h => h) (Or.inr ⟨by rfl, rfl⟩) (by assumption) ?_
        simp only [Act.put, List.setIfInBounds_toArray, List.set_cons_zero, List.set_cons_succ]
        refine take_d (i := 41) (d := 77) (v := undef) rfl (by rfl) (by kernel_rfl) (by kernel_rfl) (by kernel_rfl) (fun _ _ _ h => h) (Or.inr ⟨by rfl, rfl⟩) (by assumption) ?_
        simp only [Act.put, List.setIfInBounds_toArray, List.set_cons_zero, List.set_cons_succ]
        refine take_d (i := 42) (d := 78) (v := undef) rfl (by rfl) (by kernel_rfl) (by kernel_rfl) (by kernel_rfl) (fun _ _ _ h => h) (Or.inr ⟨by rfl, rfl⟩) (by assumption) ?_
        simp only [Act.put, List.setIfInBounds_toArray, List.set_cons_zero, List.set_cons_succ]
        refine take_d (i := 43) (d := 79) (v := undef) rfl (by rfl) (by kernel_rfl) (by kernel_rfl) (by kernel_rfl) (fun _ _ _ h => h) (Or.inr ⟨by rfl, rfl⟩) (by assumption) ?_
        simp only [Act.put, List.setIfInBounds_toArray, List.set_cons_zero, List.set_cons_succ]
        refine take_d (i := 44) (d := 80) (v := ?fv44) rfl (by rfl) (by kernel_rfl) (by kernel_rfl) (by kernel_rfl) (fun _ _ _ h => h) (Or.inl ⟨by rfl, ?fy44⟩) (by assumption) ?fr44
        case fy44 => ((intro w' hSw); (try dsimp only at hSw); go_simp; try with_reducible rfl)
        simp only [Act.put, List.setIfInBounds_toArray, List.set_cons_zero, List.set_cons_succ]
        refine take_d (i := 45) (d := 81) (v := ?fv45) rfl (by rfl) (by kernel_rfl) (by kernel_rfl) (by kernel_rfl) (fun _ _ _ h => h) (Or.inl ⟨by rfl, ?fy45⟩) (by assumption) ?fr45
        case fy45 => ((intro w' hSw); (try dsimp only at hSw); go_simp; try with_reducible rfl)
        simp only [Act.put, List.setIfInBounds_toArray, List.set_cons_zero, List.set_cons_succ]
        refine take_d (i := 46) (d := 82) (v := ?fv46) rfl (by rfl) (by kernel_rfl) (by kernel_rfl) (by kernel_rfl) (fun _ _ _ h => h) (Or.inl ⟨by rfl, ?fy46⟩) (by assumption) ?fr46
        case fy46 => ((intro w' hSw); (try dsimp only at hSw); go_simp; try with_reducible rfl)
        simp only [Act.put, List.setIfInBounds_toArray, List.set_cons_zero, List.set_cons_succ]
        refine take_d (i := 47) (d := 83) (v := ?fv47) rfl (by rfl) (by kernel_rfl) (by kernel_rfl) (by kernel_rfl) (fun _ _ _ h => h) (Or.inl ⟨by rfl, ?fy47⟩) (by assumption) ?fr47
        case fy47 => ((intro w' hSw); (try dsimp only at hSw); go_simp; try with_reducible rfl)
        simp only [Act.put, List.setIfInBounds_toArray, List.set_cons_zero, List.set_cons_succ]
        refine take_d (i := 48) (d := 84) (v := ?fv48) rfl (by rfl) (by kernel_rfl) (by kernel_rfl) (by kernel_rfl) (fun _ _ _ h => h) (Or.inl ⟨by rfl, ?fy48⟩) (by assumption) ?fr48
        case fy48 => ((intro w' hSw); (try dsimp only at hSw); go_simp; try with_reducible rfl)
        simp only [Act.put, List.setIfInBounds_toArray, List.set_cons_zero, List.set_cons_succ]
        refine wpAnyH_ready (rs := [49]) (by kernel_rfl) (by simp) ?_
        refine AllReadyH.cons rfl (fun K hK => ?_) AllReadyH.nil
        go_simp
        go_at_call 13
        refine (Sa.same_any a3 p4 _ _ _).mono ?_
        rintro e w' ⟨rfl, hgs⟩
        (try go_wp2_with fail)
        have hHeld' : Grown wc w' := grown_trans hHeld hgs
        refine hK.out _ _ hHeld' (fun _ => ?_)
        clear hK K hHeld
        (try simp only [Act.put, List.setIfInBounds_toArray, List.set_cons_zero, List.set_cons_succ])
        refine take_d (i := 50) (d := 86) (v := ?fv50) rfl (by rfl) (by kernel_rfl) (by kernel_rfl) (by kernel_rfl) (fun _ _ _ h => h) (Or.inl ⟨by rfl, ?fy50⟩) (by assumption) ?fr50
        case fy50 => ((intro w' hSw); (try dsimp only at hSw); go_simp; try with_reducible rfl)
        simp only [Act.put, List.setIfInBounds_toArray, List.set_cons_zero, List.set_cons_succ]
        refine take_d (i := 51) (d := 4) (v := ?fv51) rfl (by rfl) (by kernel_rfl) (by kernel_rfl) (by kernel_rfl) (fun _ _ _ h => h) (Or.inl ⟨by rfl, ?fy51⟩) (by assumption) ?fr51
        case fy51 => ((intro w' hSw); (try dsimp only at hSw); go_simp; try with_reducible rfl)
        simp only [Act.put, List.setIfInBounds_toArray, List.set_cons_zero, List.set_cons_succ]
        refine wpAnyH_done (by kernel_rfl) ?_ _
        go_wp2
        go_ret
        exact ⟨rfl, grown_trans hG8 hHeld'⟩
      · rw [hT]
        have l1 : b1 < wc.heap.size := (Array.getElem?_eq_some_iff.1 f1).1
        have g0 : ∀ w', Grown wc w' → w'.cell? ⟨bg, 0, none⟩ = some (.int .i64 a3) := fun w' h => (grown_cell h 0 lg).trans (cell_of_row wc bg 0 _ 33 (0, 0) FG8)
        have g1 : ∀ w', Grown wc w' → w'.cell? ⟨bg, 1, none⟩ = some (.string p4) := fun w' h => (grown_cell h 1 lg).trans (cell_of_row wc bg 1 _ 33 (0, 0) FG8)
        have g2 : ∀ w', Grown wc w' → w'.cell? ⟨bg, 2, none⟩ = some (.string ⟨#[42]⟩) := fun w' h => (grown_cell h 2 lg).trans (cell_of_row wc bg 2 _ 33 (0, 0) FG8)
        have g3 : ∀ w', Grown wc w' → w'.cell? ⟨bg, 3, none⟩ = some (.string ⟨#[]⟩) := fun w' h => (grown_cell h 3 lg).trans (cell_of_row wc bg 3 _ 33 (0, 0) FG8)
        have g4 : ∀ w', Grown wc w' → w'.cell? ⟨bg, 4, none⟩ = some (.bool false) := fun w' h => (grown_cell h 4 lg).trans (cell_of_row wc bg 4 _ 33 (0, 0) FG8)
        have g5 : ∀ w', Grown wc w' → w'.cell? ⟨bg, 5, none⟩ = some (.slice none 0 0) := fun w' h => (grown_cell h 5 lg).trans (cell_of_row wc bg 5 _ 33 (0, 0) FG8)
        have g6 : ∀ w', Grown wc w' → w'.cell? ⟨bg, 6, none⟩ = some (.bool false) := fun w' h => (grown_cell h 6 lg).trans (cell_of_row wc bg 6 _ 33 (0, 0) FG8)
        have g7 : ∀ w', Grown wc w' → w'.cell? ⟨bg, 7, none⟩ = some (.int .i64 300) := fun w' h => (grown_cell h 7 lg).trans (cell_of_row wc bg 7 _ 33 (0, 0) FG8)
        have g8 : ∀ w', Grown wc w' → w'.cell? ⟨bg, 8, none⟩ = some (.int .i64 0) := fun w' h => (grown_cell h 8 lg).trans (cell_of_row wc bg 8 _ 33 (0, 0) FG8)
        have g9 : ∀ w', Grown wc w' → w'.cell? ⟨bg, 9, none⟩ = some (.int .i64 0) := fun w' h => (grown_cell h 9 lg).trans (cell_of_row wc bg 9 _ 33 (0, 0) FG8)
        have g10 : ∀ w', Grown wc w' → w'.cell? ⟨bg, 10, none⟩ = some (.int .i64 0) := fun w' h => (grown_cell h 10 lg).trans (cell_of_row wc bg 10 _ 33 (0, 0) FG8)
        have g11 : ∀ w', Grown wc w' → w'.cell? ⟨bg, 11, none⟩ = some (.pointer (some ⟨b1, 0, none⟩)) := fun w' h => (grown_cell h 11 lg).trans (cell_of_row wc bg 11 _ 33 (0, 0) FG8)
        have g12 : ∀ w', Grown wc w' → w'.cell? ⟨bg, 12, none⟩ = some (.pointer none) := fun w' h => (grown_cell h 12 lg).trans (cell_of_row wc bg 12 _ 33 (0, 0) FG8)
        have t0 : ∀ w', Grown wc w' → w'.cell? ⟨bt, 0, none⟩ = some (.int .i64 a3) := fun w' h => (grown_cell h 0 lt).trans (cell_of_row wc bt 0 _ 33 (0, 0) fT)
        have t1 : ∀ w', Grown wc w' → w'.cell? ⟨bt, 1, none⟩ = some (.string p4) := fun w' h => (grown_cell h 1 lt).trans (cell_of_row wc bt 1 _ 33 (0, 0) fT)
        have t2 : ∀ w', Grown wc w' → w'.cell? ⟨bt, 2, none⟩ = some (.string ⟨#[42]⟩) := fun w' h => (grown_cell h 2 lt).trans (cell_of_row wc bt 2 _ 33 (0, 0) fT)
        have t3 : ∀ w', Grown wc w' → w'.cell? ⟨bt, 3, none⟩ = some (.string ⟨#[]⟩) := fun w' h => (grown_cell h 3 lt).trans (cell_of_row wc bt 3 _ 33 (0, 0) fT)
        have t4 : ∀ w', Grown wc w' → w'.cell? ⟨bt, 4, none⟩ = some (.bool false) := fun w' h => (grown_cell h 4 lt).trans (cell_of_row wc bt 4 _ 33 (0, 0) fT)
        have t5 : ∀ w', Grown wc w' → w'.cell? ⟨bt, 5, none⟩ = some (.slice none 0 0) := fun w' h => (grown_cell h 5 lt).trans (cell_of_row wc bt 5 _ 33 (0, 0) fT)
        have t6 : ∀ w', Grown wc w' → w'.cell? ⟨bt, 6, none⟩ = some (.bool false) := fun w' h => (grown_cell h 6 lt).trans (cell_of_row wc bt 6 _ 33 (0, 0) fT)
        have t7 : ∀ w', Grown wc w' → w'.cell? ⟨bt, 7, none⟩ = some (.int .i64 300) := fun w' h => (grown_cell h 7 lt).trans (cell_of_row wc bt 7 _ 33 (0, 0) fT)
        have t8 : ∀ w', Grown wc w' → w'.cell? ⟨bt, 8, none⟩ = some (.int .i64 0) := fun w' h => (grown_cell h 8 lt).trans (cell_of_row wc bt 8 _ 33 (0, 0) fT)
        have t9 : ∀ w', Grown wc w' → w'.cell? ⟨bt, 9, none⟩ = some (.int .i64 0) := fun w' h => (grown_cell h 9 lt).trans (cell_of_row wc bt 9 _ 33 (0, 0) fT)
        have t10 : ∀ w', Grown wc w' → w'.cell? ⟨bt, 10, none⟩ = some (.int .i64 0) := fun w' h => (grown_cell h 10 lt).trans (cell_of_row wc bt 10 _ 33 (0, 0) fT)
        have t11 : ∀ w', Grown wc w' → w'.cell? ⟨bt, 11, none⟩ = some (.pointer (some ⟨b2, 0, none⟩)) := fun w' h => (grown_cell h 11 lt).trans (cell_of_row wc bt 11 _ 33 (0, 0) fT)
        have t12 : ∀ w', Grown wc w' → w'.cell? ⟨bt, 12, none⟩ = some (.pointer none) := fun w' h => (grown_cell h 12 lt).trans (cell_of_row wc bt 12 _ 33 (0, 0) fT)
        have k0 : ∀ w', Grown wc w' → w'.cell? ⟨b2, 0, none⟩ = some (.string p9) := fun w' h => (grown_cell h 0 l2).trans (cell_of_row wc b2 0 _ 51 (0, 0) f2)
        have k1 : ∀ w', Grown wc w' → w'.cell? ⟨b2, 1, none⟩ = some (.string p10) := fun w' h => (grown_cell h 1 l2).trans (cell_of_row wc b2 1 _ 51 (0, 0) f2)
        have d0 : ∀ w', Grown wc w' → w'.cell? ⟨bp, 0, none⟩ = some (.string p0) := fun w' h => (grown_cell h 0 lp).trans (cell_of_row wc bp 0 _ 25 (0, 0) FP8)
        have d1 : ∀ w', Grown wc w' → w'.cell? ⟨bp, 1, none⟩ = some (.string p1) := fun w' h => (grown_cell h 1 lp).trans (cell_of_row wc bp 1 _ 25 (0, 0) FP8)
        have d2 : ∀ w', Grown wc w' → w'.cell? ⟨bp, 2, none⟩ = some (.string p2) := fun w' h => (grown_cell h 2 lp).trans (cell_of_row wc bp 2 _ 25 (0, 0) FP8)
        have d3 : ∀ w', Grown wc w' → w'.cell? ⟨bp, 3, none⟩ = some (.string p3) := fun w' h => (grown_cell h 3 lp).trans (cell_of_row wc bp 3 _ 25 (0, 0) FP8)
        have d4 : ∀ w', Grown wc w' → w'.cell? ⟨bp, 4, none⟩ = some (.string p4) := fun w' h => (grown_cell h 4 lp).trans (cell_of_row wc bp 4 _ 25 (0, 0) FP8)
        have d5 : ∀ w', Grown wc w' → w'.cell? ⟨bp, 5, none⟩ = some (.string p5) := fun w' h => (grown_cell h 5 lp).trans (cell_of_row wc bp 5 _ 25 (0, 0) FP8)
        have d6 : ∀ w', Grown wc w' → w'.cell? ⟨bp, 6, none⟩ = some (.string p6) := fun w' h => (grown_cell h 6 lp).trans (cell_of_row wc bp 6 _ 25 (0, 0) FP8)
        have d7 : ∀ w', Grown wc w' → w'.cell? ⟨bp, 7, none⟩ = some (.string p7) := fun w' h => (grown_cell h 7 lp).trans (cell_of_row wc bp 7 _ 25 (0, 0) FP8)
        have d8 : ∀ w', Grown wc w' → w'.cell? ⟨bp, 8, none⟩ = some (.string p8) := fun w' h => (grown_cell h 8 lp).trans (cell_of_row wc bp 8 _ 25 (0, 0) FP8)
        have d9 : ∀ w', Grown wc w' → w'.cell? ⟨bp, 9, none⟩ = some (.string p9) := fun w' h => (grown_cell h 9 lp).trans (cell_of_row wc bp 9 _ 25 (0, 0) FP8)
        have d10 : ∀ w', Grown wc w' → w'.cell? ⟨bp, 10, none⟩ = some (.string p10) := fun w' h => (grown_cell h 10 lp).trans (cell_of_row wc bp 10 _ 25 (0, 0) FP8)
        have m0 : ∀ w', Grown wc w' → w'.cell? ⟨b1, 0, none⟩ = some (.string p9) := fun w' h => (grown_cell h 0 l1).trans (cell_of_row wc b1 0 _ 51 (0, 0) f1)
        have m1 : ∀ w', Grown wc w' → w'.cell? ⟨b1, 1, none⟩ = some (.string p10) := fun w' h => (grown_cell h 1 l1).trans (cell_of_row wc b1 1 _ 51 (0, 0) f1)
        refine wp_region_held_drew (S := fun w' => Grown wc w') (by kernel_rfl) (Grown.drew (Grown.refl wc)) (fun hHeld => ?_)
        refine take_d (i := 0) (d := 36) (v := ?tv0) rfl (by rfl) (by kernel_rfl) (by kernel_rfl) (by kernel_rfl) (fun _ _ _ h => h) (Or.inl ⟨by rfl, ?ty0⟩) (by assumption) ?tr0
        case ty0 => ((intro w' hSw); (try dsimp only at hSw); go_simp; try with_reducible rfl)
        simp only [Act.put, List.setIfInBounds_toArray, List.set_cons_zero, List.set_cons_succ]
        refine take_d (i := 1) (d := 37) (v := ?tv1) rfl (by rfl) (by kernel_rfl) (by kernel_rfl) (by kernel_rfl) (fun _ _ _ h => h) (Or.inl ⟨by rfl, ?ty1⟩) (by assumption) ?tr1
        case ty1 => ((intro w' hSw); (try dsimp only at hSw); go_simp; try with_reducible rfl)
        simp only [Act.put, List.setIfInBounds_toArray, List.set_cons_zero, List.set_cons_succ]
        refine take_d (i := 2) (d := 38) (v := ?tv2) rfl (by rfl) (by kernel_rfl) (by kernel_rfl) (by kernel_rfl) (fun _ _ _ h => h) (Or.inl ⟨by rfl, ?ty2⟩) (by assumption) ?tr2
        case ty2 => ((intro w' hSw); (try dsimp only at hSw); go_simp; try with_reducible rfl)
        simp only [Act.put, List.setIfInBounds_toArray, List.set_cons_zero, List.set_cons_succ]
        refine take_d (i := 3) (d := 39) (v := ?tv3) rfl (by rfl) (by kernel_rfl) (by kernel_rfl) (by kernel_rfl) (fun _ _ _ h => h) (Or.inl ⟨by rfl, ?ty3⟩) (by assumption) ?tr3
        case ty3 => ((intro w' hSw); (try dsimp only at hSw); go_simp; try with_reducible rfl)
        simp only [Act.put, List.setIfInBounds_toArray, List.set_cons_zero, List.set_cons_succ]
        refine take_d (i := 4) (d := 40) (v := ?tv4) rfl (by rfl) (by kernel_rfl) (by kernel_rfl) (by kernel_rfl) (fun _ _ _ h => h) (Or.inl ⟨by rfl, ?ty4⟩) (by assumption) ?tr4
        case ty4 => ((intro w' hSw); (try dsimp only at hSw); go_simp; try with_reducible rfl)
        simp only [Act.put, List.setIfInBounds_toArray, List.set_cons_zero, List.set_cons_succ]
        refine take_d (i := 5) (d := 41) (v := ?tv5) rfl (by rfl) (by kernel_rfl) (by kernel_rfl) (by kernel_rfl) (fun _ _ _ h => h) (Or.inl ⟨by rfl, ?ty5⟩) (by assumption) ?tr5
        case ty5 => ((intro w' hSw); (try dsimp only at hSw); go_simp; try with_reducible rfl)
        simp only [Act.put, List.setIfInBounds_toArray, List.set_cons_zero, List.set_cons_succ]
        refine take_d (i := 6) (d := 42) (v := ?tv6) rfl (by rfl) (by kernel_rfl) (by kernel_rfl) (by kernel_rfl) (fun _ _ _ h => h) (Or.inl ⟨by rfl, ?ty6⟩) (by assumption) ?tr6
        case ty6 => ((intro w' hSw); (try dsimp only at hSw); go_simp; try with_reducible rfl)
        simp only [Act.put, List.setIfInBounds_toArray, List.set_cons_zero, List.set_cons_succ]
        refine take_d (i := 7) (d := 43) (v := ?tv7) rfl (by rfl) (by kernel_rfl) (by kernel_rfl) (by kernel_rfl) (fun _ _ _ h => h) (Or.inl ⟨by rfl, ?ty7⟩) (by assumption) ?tr7
        case ty7 => ((intro w' hSw); (try dsimp only at hSw); go_simp; try with_reducible rfl)
        simp only [Act.put, List.setIfInBounds_toArray, List.set_cons_zero, List.set_cons_succ]
        refine take_d (i := 8) (d := 44) (v := ?tv8) rfl (by rfl) (by kernel_rfl) (by kernel_rfl) (by kernel_rfl) (fun _ _ _ h => h) (Or.inl ⟨by rfl, ?ty8⟩) (by assumption) ?tr8
        case ty8 => ((intro w' hSw); (try dsimp only at hSw); go_simp; try with_reducible rfl)
        simp only [Act.put, List.setIfInBounds_toArray, List.set_cons_zero, List.set_cons_succ]
        refine take_d (i := 9) (d := 45) (v := ?tv9) rfl (by rfl) (by kernel_rfl) (by kernel_rfl) (by kernel_rfl) (fun _ _ _ h => h) (Or.inl ⟨by rfl, ?ty9⟩) (by assumption) ?tr9
        case ty9 => ((intro w' hSw); (try dsimp only at hSw); go_simp; try with_reducible rfl)
        simp only [Act.put, List.setIfInBounds_toArray, List.set_cons_zero, List.set_cons_succ]
        refine take_d (i := 10) (d := 46) (v := ?tv10) rfl (by rfl) (by kernel_rfl) (by kernel_rfl) (by kernel_rfl) (fun _ _ _ h => h) (Or.inl ⟨by rfl, ?ty10⟩) (by assumption) ?tr10
        case ty10 => ((intro w' hSw); (try dsimp only at hSw); go_simp; try with_reducible rfl)
        simp only [Act.put, List.setIfInBounds_toArray, List.set_cons_zero, List.set_cons_succ]
        refine take_d (i := 11) (d := 47) (v := ?tv11) rfl (by rfl) (by kernel_rfl) (by kernel_rfl) (by kernel_rfl) (fun _ _ _ h => h) (Or.inl ⟨by rfl, ?ty11⟩) (by assumption) ?tr11
        case ty11 => ((intro w' hSw); (try dsimp only at hSw); go_simp; try with_reducible rfl)
        simp only [Act.put, List.setIfInBounds_toArray, List.set_cons_zero, List.set_cons_succ]
        refine take_d (i := 12) (d := 48) (v := ?tv12) rfl (by rfl) (by kernel_rfl) (by kernel_rfl) (by kernel_rfl) (fun _ _ _ h => h) (Or.inl ⟨by rfl, ?ty12⟩) (by assumption) ?tr12
        case ty12 => ((intro w' hSw); (try dsimp only at hSw); go_simp; try with_reducible rfl)
        simp only [Act.put, List.setIfInBounds_toArray, List.set_cons_zero, List.set_cons_succ]
        refine take_d (i := 13) (d := 49) (v := ?tv13) rfl (by rfl) (by kernel_rfl) (by kernel_rfl) (by kernel_rfl) (fun _ _ _ h => h) (Or.inl ⟨by rfl, ?ty13⟩) (by assumption) ?tr13
        case ty13 => ((intro w' hSw); (try dsimp only at hSw); go_simp; try with_reducible rfl)
        simp only [Act.put, List.setIfInBounds_toArray, List.set_cons_zero, List.set_cons_succ]
        refine take_d (i := 14) (d := 50) (v := ?tv14) rfl (by rfl) (by kernel_rfl) (by kernel_rfl) (by kernel_rfl) (fun _ _ _ h => h) (Or.inl ⟨by rfl, ?ty14⟩) (by assumption) ?tr14
        case ty14 => ((intro w' hSw); (try dsimp only at hSw); go_simp; try with_reducible rfl)
        simp only [Act.put, List.setIfInBounds_toArray, List.set_cons_zero, List.set_cons_succ]
        refine take_d (i := 15) (d := 51) (v := ?tv15) rfl (by rfl) (by kernel_rfl) (by kernel_rfl) (by kernel_rfl) (fun _ _ _ h => h) (Or.inl ⟨by rfl, ?ty15⟩) (by assumption) ?tr15
        case ty15 => ((intro w' hSw); (try dsimp only at hSw); go_simp; try with_reducible rfl)
        simp only [Act.put, List.setIfInBounds_toArray, List.set_cons_zero, List.set_cons_succ]
        refine take_d (i := 16) (d := 52) (v := ?tv16) rfl (by rfl) (by kernel_rfl) (by kernel_rfl) (by kernel_rfl) (fun _ _ _ h => h) (Or.inl ⟨by rfl, ?ty16⟩) (by assumption) ?tr16
        case ty16 => ((intro w' hSw); (try dsimp only at hSw); go_simp; try with_reducible rfl)
        simp only [Act.put, List.setIfInBounds_toArray, List.set_cons_zero, List.set_cons_succ]
        refine take_d (i := 17) (d := 53) (v := ?tv17) rfl (by rfl) (by kernel_rfl) (by kernel_rfl) (by kernel_rfl) (fun _ _ _ h => h) (Or.inl ⟨by rfl, ?ty17⟩) (by assumption) ?tr17
        case ty17 => ((intro w' hSw); (try dsimp only at hSw); go_simp; try with_reducible rfl)
        simp only [Act.put, List.setIfInBounds_toArray, List.set_cons_zero, List.set_cons_succ]
        refine take_d (i := 18) (d := 54) (v := ?tv18) rfl (by rfl) (by kernel_rfl) (by kernel_rfl) (by kernel_rfl) (fun _ _ _ h => h) (Or.inl ⟨by rfl, ?ty18⟩) (by assumption) ?tr18
        case ty18 => ((intro w' hSw); (try dsimp only at hSw); go_simp; try with_reducible rfl)
        simp only [Act.put, List.setIfInBounds_toArray, List.set_cons_zero, List.set_cons_succ]
        refine take_d (i := 19) (d := 55) (v := ?tv19) rfl (by rfl) (by kernel_rfl) (by kernel_rfl) (by kernel_rfl) (fun _ _ _ h => h) (Or.inl ⟨by rfl, ?ty19⟩) (by assumption) ?tr19
        case ty19 => ((intro w' hSw); (try dsimp only at hSw); go_simp; try with_reducible rfl)
        simp only [Act.put, List.setIfInBounds_toArray, List.set_cons_zero, List.set_cons_succ]
        refine take_d (i := 20) (d := 56) (v := ?tv20) rfl (by rfl) (by kernel_rfl) (by kernel_rfl) (by kernel_rfl) (fun _ _ _ h => h) (Or.inl ⟨by rfl, ?ty20⟩) (by assumption) ?tr20
        case ty20 => ((intro w' hSw); (try dsimp only at hSw); go_simp; try with_reducible rfl)
        simp only [Act.put, List.setIfInBounds_toArray, List.set_cons_zero, List.set_cons_succ]
        refine take_d (i := 21) (d := 57) (v := ?tv21) rfl (by rfl) (by kernel_rfl) (by kernel_rfl) (by kernel_rfl) (fun _ _ _ h => h) (Or.inl ⟨by rfl, ?ty21⟩) (by assumption) ?tr21
        case ty21 => ((intro w' hSw); (try dsimp only at hSw); go_simp; try with_reducible rfl)
        simp only [Act.put, List.setIfInBounds_toArray, List.set_cons_zero, List.set_cons_succ]
        refine take_d (i := 22) (d := 58) (v := ?tv22) rfl (by rfl) (by kernel_rfl) (by kernel_rfl) (by kernel_rfl) (fun _ _ _ h => h) (Or.inl ⟨by rfl, ?ty22⟩) (by assumption) ?tr22
        case ty22 => ((intro w' hSw); (try dsimp only at hSw); go_simp; try with_reducible rfl)
        simp only [Act.put, List.setIfInBounds_toArray, List.set_cons_zero, List.set_cons_succ]
        refine take_d (i := 23) (d := 59) (v := ?tv23) rfl (by rfl) (by kernel_rfl) (by kernel_rfl) (by kernel_rfl) (fun _ _ _ h => h) (Or.inl ⟨by rfl, ?ty23⟩) (by assumption) ?tr23
        case ty23 => ((intro w' hSw); (try dsimp only at hSw); go_simp; try with_reducible rfl)
        simp only [Act.put, List.setIfInBounds_toArray, List.set_cons_zero, List.set_cons_succ]
        refine take_d (i := 24) (d := 60) (v := ?tv24) rfl (by rfl) (by kernel_rfl) (by kernel_rfl) (by kernel_rfl) (fun _ _ _ h => h) (Or.inl ⟨by rfl, ?ty24⟩) (by assumption) ?tr24
        case ty24 => ((intro w' hSw); (try dsimp only at hSw); go_simp; try with_reducible rfl)
        simp only [Act.put, List.setIfInBounds_toArray, List.set_cons_zero, List.set_cons_succ]
        refine take_d (i := 25) (d := 61) (v := ?tv25) rfl (by rfl) (by kernel_rfl) (by kernel_rfl) (by kernel_rfl) (fun _ _ _ h => h) (Or.inl ⟨by rfl, ?ty25⟩) (by assumption) ?tr25
        case ty25 => ((intro w' hSw); (try dsimp only at hSw); go_simp; try with_reducible rfl)
        simp only [Act.put, List.setIfInBounds_toArray, List.set_cons_zero, List.set_cons_succ]
        refine take_d (i := 26) (d := 62) (v := ?tv26) rfl (by rfl) (by kernel_rfl) (by kernel_rfl) (by kernel_rfl) (fun _ _ _ h => h) (Or.inl ⟨by rfl, ?ty26⟩) (by assumption) ?tr26
        case ty26 => ((intro w' hSw); (try dsimp only at hSw); go_simp; try with_reducible rfl)
        simp only [Act.put, List.setIfInBounds_toArray, List.set_cons_zero, List.set_cons_succ]
        refine take_d (i := 27) (d := 63) (v := ?tv27) rfl (by rfl) (by kernel_rfl) (by kernel_rfl) (by kernel_rfl) (fun _ _ _ h => h) (Or.inl ⟨by rfl, ?ty27⟩) (by assumption) ?tr27
        case ty27 => ((intro w' hSw); (try dsimp only at hSw); go_simp; try with_reducible rfl)
        simp only [Act.put, List.setIfInBounds_toArray, List.set_cons_zero, List.set_cons_succ]
        refine take_d (i := 28) (d := 64) (v := ?tv28) rfl (by rfl) (by kernel_rfl) (by kernel_rfl) (by kernel_rfl) (fun _ _ _ h => h) (Or.inl ⟨by rfl, ?ty28⟩) (by assumption) ?tr28
        case ty28 => ((intro w' hSw); (try dsimp only at hSw); go_simp; try with_reducible rfl)
        simp only [Act.put, List.setIfInBounds_toArray, List.set_cons_zero, List.set_cons_succ]
        refine take_d (i := 29) (d := 65) (v := ?tv29) rfl (by rfl) (by kernel_rfl) (by kernel_rfl) (by kernel_rfl) (fun _ _ _ h => h) (Or.inl ⟨by rfl, ?ty29⟩) (by assumption) ?tr29
        case ty29 => ((intro w' hSw); (try dsimp only at hSw); go_simp; try with_reducible rfl)
        simp only [Act.put, List.setIfInBounds_toArray, List.set_cons_zero, List.set_cons_succ]
        refine take_d (i := 30) (d := 66) (v := ?tv30) rfl (by rfl) (by kernel_rfl) (by kernel_rfl) (by kernel_rfl) (fun _ _ _ h => h) (Or.inl ⟨by rfl, ?ty30⟩) (by assumption) ?tr30
        case ty30 => ((intro w' hSw); (try dsimp only at hSw); go_simp; try with_reducible rfl)
        simp only [Act.put, List.setIfInBounds_toArray, List.set_cons_zero, List.set_cons_succ]
        refine take_d (i := 31) (d := 67) (v := ?tv31) rfl (by rfl) (by kernel_rfl) (by kernel_rfl) (by kernel_rfl) (fun _ _ _ h => h) (Or.inl ⟨by rfl, ?ty31⟩) (by assumption) ?tr31
        case ty31 => ((intro w' hSw); (try dsimp only at hSw); go_simp; try with_reducible rfl)
        simp only [Act.put, List.setIfInBounds_toArray, List.set_cons_zero, List.set_cons_succ]
        refine take_d (i := 32) (d := 68) (v := ?tv32) rfl (by rfl) (by kernel_rfl) (by kernel_rfl) (by kernel_rfl) (fun _ _ _ h => h) (Or.inl ⟨by rfl, ?ty32⟩) (by assumption) ?tr32
        case ty32 => ((intro w' hSw); (try dsimp only at hSw); go_simp; try with_reducible rfl)
        simp only [Act.put, List.setIfInBounds_toArray, List.set_cons_zero, List.set_cons_succ]
        refine take_d (i := 33) (d := 69) (v := ?tv33) rfl (by rfl) (by kernel_rfl) (by kernel_rfl) (by kernel_rfl) (fun _ _ _ h => h) (Or.inl ⟨by rfl, ?ty33⟩) (by assumption) ?tr33
        case ty33 => ((intro w' hSw); (try dsimp only at hSw); go_simp; try with_reducible rfl)
        simp only [Act.put, List.setIfInBounds_toArray, List.set_cons_zero, List.set_cons_succ]
        refine take_d (i := 34) (d := 70) (v := ?tv34) rfl (by rfl) (by kernel_rfl) (by kernel_rfl) (by kernel_rfl) (fun _ _ _ h => h) (Or.inl ⟨by rfl, ?ty34⟩) (by assumption) ?tr34
        case ty34 => ((intro w' hSw); (try dsimp only at hSw); go_simp; try with_reducible rfl)
        simp only [Act.put, List.setIfInBounds_toArray, List.set_cons_zero, List.set_cons_succ]
        refine take_d (i := 35) (d := 71) (v := ?tv35) rfl (by rfl) (by kernel_rfl) (by kernel_rfl) (by kernel_rfl) (fun _ _ _ h => h) (Or.inl ⟨by rfl, ?ty35⟩) (by assumption) ?tr35
        case ty35 => ((intro w' hSw); (try dsimp only at hSw); go_simp; try with_reducible rfl)
        simp only [Act.put, List.setIfInBounds_toArray, List.set_cons_zero, List.set_cons_succ]
        refine take_d (i := 36) (d := 72) (v := ?tv36) rfl (by rfl) (by kernel_rfl) (by kernel_rfl) (by kernel_rfl) (fun _ _ _ h => h) (Or.inl ⟨by rfl, ?ty36⟩) (by assumption) ?tr36
        case ty36 => ((intro w' hSw); (try dsimp only at hSw); go_simp; try with_reducible rfl)
        simp only [Act.put, List.setIfInBounds_toArray, List.set_cons_zero, List.set_cons_succ]
        refine take_d (i := 37) (d := 73) (v := ?tv37) rfl (by rfl) (by kernel_rfl) (by kernel_rfl) (by kernel_rfl) (fun _ _ _ h => h) (Or.inl ⟨by rfl, ?ty37⟩) (by assumption) ?tr37
        case ty37 => ((intro w' hSw); (try dsimp only at hSw); go_simp; try with_reducible rfl)
        simp only [Act.put, List.setIfInBounds_toArray, List.set_cons_zero, List.set_cons_succ]
        refine take_d (i := 38) (d := 74) (v := ?tv38) rfl (by rfl) (by kernel_rfl) (by kernel_rfl) (by kernel_rfl) (fun _ _ _ h => h) (Or.inl ⟨by rfl, ?ty38⟩) (by assumption) ?tr38
        case ty38 => ((intro w' hSw); (try dsimp only at hSw); go_simp; try with_reducible rfl)
        simp only [Act.put, List.setIfInBounds_toArray, List.set_cons_zero, List.set_cons_succ]
        refine take_d (i := 39) (d := 75) (v := ?tv39) rfl (by rfl) (by kernel_rfl) (by kernel_rfl) (by kernel_rfl) (fun _ _ _ h => h) (Or.inl ⟨by rfl, ?ty39⟩) (by assumption) ?tr39
        case ty39 => ((intro w' hSw); (try dsimp only at hSw); go_simp; try with_reducible rfl)
        simp only [Act.put, List.setIfInBounds_toArray, List.set_cons_zero, List.set_cons_succ]
        refine take_d (i := 40) (d := 76) (v := ?tv40) rfl (by rfl) (by kernel_rfl) (by kernel_rfl) (by kernel_rfl) (fun _ _ _ h => h) (Or.inl ⟨by rfl, ?ty40⟩) (by assumption) ?tr40
        case ty40 => ((intro w' hSw); (try dsimp only at hSw); go_simp; try with_reducible rfl)
        simp only [Act.put, List.setIfInBounds_toArray, List.set_cons_zero, List.set_cons_succ]
        refine take_d (i := 41) (d := 77) (v := ?tv41) rfl (by rfl) (by kernel_rfl) (by kernel_rfl) (by kernel_rfl) (fun _ _ _ h => h) (Or.inl ⟨by rfl, ?ty41⟩) (by assumption) ?tr41
        case ty41 => ((intro w' hSw); (try dsimp only at hSw); go_simp; try with_reducible rfl)
        simp only [Act.put, List.setIfInBounds_toArray, List.set_cons_zero, List.set_cons_succ]
        refine take_d (i := 42) (d := 78) (v := ?tv42) rfl (by rfl) (by kernel_rfl) (by kernel_rfl) (by kernel_rfl) (fun _ _ _ h => h) (Or.inl ⟨by rfl, ?ty42⟩) (by assumption) ?tr42
        case ty42 => ((intro w' hSw); (try dsimp only at hSw); go_simp; try with_reducible rfl)
        simp only [Act.put, List.setIfInBounds_toArray, List.set_cons_zero, List.set_cons_succ]
        refine take_d (i := 43) (d := 79) (v := ?tv43) rfl (by rfl) (by kernel_rfl) (by kernel_rfl) (by kernel_rfl) (fun _ _ _ h => h) (Or.inl ⟨by rfl, ?ty43⟩) (by assumption) ?tr43
        case ty43 => ((intro w' hSw); (try dsimp only at hSw); go_simp; try with_reducible rfl)
        simp only [Act.put, List.setIfInBounds_toArray, List.set_cons_zero, List.set_cons_succ]
        refine take_d (i := 44) (d := 80) (v := ?tv44) rfl (by rfl) (by kernel_rfl) (by kernel_rfl) (by kernel_rfl) (fun _ _ _ h => h) (Or.inl ⟨by rfl, ?ty44⟩) (by assumption) ?tr44
        case ty44 => ((intro w' hSw); (try dsimp only at hSw); go_simp; try with_reducible rfl)
        simp only [Act.put, List.setIfInBounds_toArray, List.set_cons_zero, List.set_cons_succ]
        refine take_d (i := 45) (d := 81) (v := ?tv45) rfl (by rfl) (by kernel_rfl) (by kernel_rfl) (by kernel_rfl) (fun _ _ _ h => h) (Or.inl ⟨by rfl, ?ty45⟩) (by assumption) ?tr45
        case ty45 => ((intro w' hSw); (try dsimp only at hSw); go_simp; try with_reducible rfl)
        simp only [Act.put, List.setIfInBounds_toArray, List.set_cons_zero, List.set_cons_succ]
        refine take_d (i := 46) (d := 82) (v := ?tv46) rfl (by rfl) (by kernel_rfl) (by kernel_rfl) (by kernel_rfl) (fun _ _ _ h => h) (Or.inl ⟨by rfl, ?ty46⟩) (by assumption) ?tr46
        case ty46 => ((intro w' hSw); (try dsimp only at hSw); go_simp; try with_reducible rfl)
        simp only [Act.put, List.setIfInBounds_toArray, List.set_cons_zero, List.set_cons_succ]
        refine take_d (i := 47) (d := 83) (v := ?tv47) rfl (by rfl) (by kernel_rfl) (by kernel_rfl) (by kernel_rfl) (fun _ _ _ h => h) (Or.inl ⟨by rfl, ?ty47⟩) (by assumption) ?tr47
        case ty47 => ((intro w' hSw); (try dsimp only at hSw); go_simp; try with_reducible rfl)
        simp only [Act.put, List.setIfInBounds_toArray, List.set_cons_zero, List.set_cons_succ]
        refine take_d (i := 48) (d := 84) (v := ?tv48) rfl (by rfl) (by kernel_rfl) (by kernel_rfl) (by kernel_rfl) (fun _ _ _ h => h) (Or.inl ⟨by rfl, ?ty48⟩) (by assumption) ?tr48
        case ty48 => ((intro w' hSw); (try dsimp only at hSw); go_simp; try with_reducible rfl)
        simp only [Act.put, List.setIfInBounds_toArray, List.set_cons_zero, List.set_cons_succ]
        refine wpAnyH_ready (rs := [49]) (by kernel_rfl) (by simp) ?_
        refine AllReadyH.cons rfl (fun K hK => ?_) AllReadyH.nil
        go_simp
        go_at_call 13
        refine (Sa.same_any a3 p4 _ _ _).mono ?_
        rintro e w' ⟨rfl, hgs⟩
        (try go_wp2_with fail)
        have hHeld' : Grown wc w' := grown_trans hHeld hgs
        refine hK.out _ _ hHeld' (fun _ => ?_)
        clear hK K hHeld
        (try simp only [Act.put, List.setIfInBounds_toArray, List.set_cons_zero, List.set_cons_succ])
        refine take_d (i := 50) (d := 86) (v := ?tv50) rfl (by rfl) (by kernel_rfl) (by kernel_rfl) (by kernel_rfl) (fun _ _ _ h => h) (Or.inl ⟨by rfl, ?ty50⟩) (by assumption) ?tr50
        case ty50 => ((intro w' hSw); (try dsimp only at hSw); go_simp; try with_reducible rfl)
        simp only [Act.put, List.setIfInBounds_toArray, List.set_cons_zero, List.set_cons_succ]
        refine take_d (i := 51) (d := 4) (v := ?tv51) rfl (by rfl) (by kernel_rfl) (by kernel_rfl) (by kernel_rfl) (fun _ _ _ h => h) (Or.inl ⟨by rfl, ?ty51⟩) (by assumption) ?tr51
        case ty51 => ((intro w' hSw); (try dsimp only at hSw); go_simp; try with_reducible rfl)
        simp only [Act.put, List.setIfInBounds_toArray, List.set_cons_zero, List.set_cons_succ]
        refine wpAnyH_done (by kernel_rfl) ?_ _
        go_wp2
        go_ret
        exact ⟨rfl, grown_trans hG8 hHeld'⟩
end Go.Proofs.Qxb6613092aMods.Wd
