/-
  A STRUCT BY VALUE, OPENED (seat b6613092aM): the types 54 (ZZMember), 23 (ZZCfg), 25 (ZZPaths): fields of one cell each, integers, bools and strings: the value written out; and that it reads as the same datum in whatever world. Written by a small program of the prover's own.
-/
import Derived.Test.Qxb6613092aModsProg
import Derived.ProofKit
import Derived.Deep.Fields
import Derived.KernelRfl
namespace Go.Proofs.Qxb6613092aMods.Op
open Go.ChangeShapes Go.WideShapes Go.ChangeAt Go.RowKit Go.Deep
set_option linter.unusedSimpArgs false

theorem array11 {α : Type} {cs : Array α} (h : cs.size = 11) : ∃ c0 c1 c2 c3 c4 c5 c6 c7 c8 c9 c10, cs = #[c0, c1, c2, c3, c4, c5, c6, c7, c8, c9, c10] := by
  obtain ⟨l⟩ := cs
  match l, h with
  | [c0, c1, c2, c3, c4, c5, c6, c7, c8, c9, c10], _ => exact ⟨c0, c1, c2, c3, c4, c5, c6, c7, c8, c9, c10, rfl⟩
theorem list11 {α : Type} {cs : List α} (h : cs.length = 11) : ∃ c0 c1 c2 c3 c4 c5 c6 c7 c8 c9 c10, cs = [c0, c1, c2, c3, c4, c5, c6, c7, c8, c9, c10] := by
  match cs, h with
  | [c0, c1, c2, c3, c4, c5, c6, c7, c8, c9, c10], _ => exact ⟨c0, c1, c2, c3, c4, c5, c6, c7, c8, c9, c10, rfl⟩
theorem array15 {α : Type} {cs : Array α} (h : cs.size = 15) : ∃ c0 c1 c2 c3 c4 c5 c6 c7 c8 c9 c10 c11 c12 c13 c14, cs = #[c0, c1, c2, c3, c4, c5, c6, c7, c8, c9, c10, c11, c12, c13, c14] := by
  obtain ⟨l⟩ := cs
  match l, h with
  | [c0, c1, c2, c3, c4, c5, c6, c7, c8, c9, c10, c11, c12, c13, c14], _ => exact ⟨c0, c1, c2, c3, c4, c5, c6, c7, c8, c9, c10, c11, c12, c13, c14, rfl⟩
theorem list15 {α : Type} {cs : List α} (h : cs.length = 15) : ∃ c0 c1 c2 c3 c4 c5 c6 c7 c8 c9 c10 c11 c12 c13 c14, cs = [c0, c1, c2, c3, c4, c5, c6, c7, c8, c9, c10, c11, c12, c13, c14] := by
  match cs, h with
  | [c0, c1, c2, c3, c4, c5, c6, c7, c8, c9, c10, c11, c12, c13, c14], _ => exact ⟨c0, c1, c2, c3, c4, c5, c6, c7, c8, c9, c10, c11, c12, c13, c14, rfl⟩
theorem cells54 : Trym.prog.cellsOf 54 = 15 := by kernel_rfl
theorem cells23 : Trym.prog.cellsOf 23 = 11 := by kernel_rfl
theorem cells25 : Trym.prog.cellsOf 25 = 11 := by kernel_rfl
theorem cells2 : Trym.prog.cellsOf 2 = 1 := by kernel_rfl
theorem cells3 : Trym.prog.cellsOf 3 = 1 := by kernel_rfl
theorem cells52 : Trym.prog.cellsOf 52 = 1 := by kernel_rfl
theorem cells4 : Trym.prog.cellsOf 4 = 1 := by kernel_rfl
theorem cells9 : Trym.prog.cellsOf 9 = 1 := by kernel_rfl

set_option maxHeartbeats 1000000 in
theorem open54 {H : Type} {enc : TypeId × Value → H} {w : World} {r : Reach} {b0 base : Nat} {spare : Nat → Bool} {held : Bool} {v : Value} {d : DataW H} {p : List MemPlace}
    (hv : Value.okWide Trym.prog w r b0 54 v) (h : DataW.Trod enc Trym.prog w base spare held 54 v d p) :
    ∃ (a0 : Int) (a1 : ByteArray) (a2 : ByteArray) (a3 : Bool) (a4 : Int) (a5 : Bool) (a6 : Bool) (a7 : Bool) (a8 : Bool) (a9 : Int) (a10 : Int) (a11 : Int) (a12 : Int) (a13 : Int) (a14 : ByteArray), v = .agg #[.int .i64 a0, .string a1, .string a2, .bool a3, .int .u64 a4, .bool a5, .bool a6, .bool a7, .bool a8, .int .i64 a9, .int .i64 a10, .int .i64 a11, .int .i64 a12, .int .i64 a13, .string a14] ∧ p = [] ∧ ((Lit.int .i64 a0).wf = true ∧ a1.size ≤ maxLen ∧ a2.size ≤ maxLen ∧ (Lit.int .u64 a4).wf = true ∧ (Lit.int .i64 a9).wf = true ∧ (Lit.int .i64 a10).wf = true ∧ (Lit.int .i64 a11).wf = true ∧ (Lit.int .i64 a12).wf = true ∧ (Lit.int .i64 a13).wf = true ∧ a14.size ≤ maxLen) ∧
      ∀ (w' : World) (base' : Nat) (spare' : Nat → Bool) (held' : Bool), DataW.Trod enc Trym.prog w' base' spare' held' 54 v d [] := by
  obtain ⟨cs, rfl, hsz⟩ := okWide_struct Trym.underlying54 hv
  obtain ⟨c0, c1, c2, c3, c4, c5, c6, c7, c8, c9, c10, c11, c12, c13, c14, rfl⟩ := array15 (hsz.trans cells54)
  obtain ⟨fuel, hf⟩ := h
  obtain ⟨xs, m, _, hx, _, hlen, hg⟩ := DataW.trod_struct Trym.underlying54 hf
  obtain ⟨x0, x1, x2, x3, x4, x5, x6, x7, x8, x9, x10, x11, x12, x13, x14, rfl⟩ := list15 hlen
  have g0 := hg 0 _ rfl
  simp [Value.cells, cells2] at g0
  obtain ⟨a0, e0, rfl, w0⟩ := DataW.trod_int Trym.underlying2 g0
  obtain rfl : c0 = .int .i64 a0 := by simpa using e0
  clear g0 e0
  have g1 := hg 1 _ rfl
  simp [Value.cells, cells9] at g1
  obtain ⟨a1, e1, rfl, w1⟩ := DataW.trod_string Trym.underlying9 g1
  obtain rfl : c1 = .string a1 := by simpa using e1
  clear g1 e1
  have g2 := hg 2 _ rfl
  simp [Value.cells, cells9] at g2
  obtain ⟨a2, e2, rfl, w2⟩ := DataW.trod_string Trym.underlying9 g2
  obtain rfl : c2 = .string a2 := by simpa using e2
  clear g2 e2
  have g3 := hg 3 _ rfl
  simp [Value.cells, cells4] at g3
  obtain ⟨a3, e3, rfl⟩ := DataW.trod_bool Trym.underlying4 g3
  obtain rfl : c3 = .bool a3 := by simpa using e3
  clear g3 e3
  have g4 := hg 4 _ rfl
  simp [Value.cells, cells52] at g4
  obtain ⟨a4, e4, rfl, w4⟩ := DataW.trod_int Trym.underlying52 g4
  obtain rfl : c4 = .int .u64 a4 := by simpa using e4
  clear g4 e4
  have g5 := hg 5 _ rfl
  simp [Value.cells, cells4] at g5
  obtain ⟨a5, e5, rfl⟩ := DataW.trod_bool Trym.underlying4 g5
  obtain rfl : c5 = .bool a5 := by simpa using e5
  clear g5 e5
  have g6 := hg 6 _ rfl
  simp [Value.cells, cells4] at g6
  obtain ⟨a6, e6, rfl⟩ := DataW.trod_bool Trym.underlying4 g6
  obtain rfl : c6 = .bool a6 := by simpa using e6
  clear g6 e6
  have g7 := hg 7 _ rfl
  simp [Value.cells, cells4] at g7
  obtain ⟨a7, e7, rfl⟩ := DataW.trod_bool Trym.underlying4 g7
  obtain rfl : c7 = .bool a7 := by simpa using e7
  clear g7 e7
  have g8 := hg 8 _ rfl
  simp [Value.cells, cells4] at g8
  obtain ⟨a8, e8, rfl⟩ := DataW.trod_bool Trym.underlying4 g8
  obtain rfl : c8 = .bool a8 := by simpa using e8
  clear g8 e8
  have g9 := hg 9 _ rfl
  simp [Value.cells, cells3] at g9
  obtain ⟨a9, e9, rfl, w9⟩ := DataW.trod_int Trym.underlying3 g9
  obtain rfl : c9 = .int .i64 a9 := by simpa using e9
  clear g9 e9
  have g10 := hg 10 _ rfl
  simp [Value.cells, cells3] at g10
  obtain ⟨a10, e10, rfl, w10⟩ := DataW.trod_int Trym.underlying3 g10
  obtain rfl : c10 = .int .i64 a10 := by simpa using e10
  clear g10 e10
  have g11 := hg 11 _ rfl
  simp [Value.cells, cells2] at g11
  obtain ⟨a11, e11, rfl, w11⟩ := DataW.trod_int Trym.underlying2 g11
  obtain rfl : c11 = .int .i64 a11 := by simpa using e11
  clear g11 e11
  have g12 := hg 12 _ rfl
  simp [Value.cells, cells2] at g12
  obtain ⟨a12, e12, rfl, w12⟩ := DataW.trod_int Trym.underlying2 g12
  obtain rfl : c12 = .int .i64 a12 := by simpa using e12
  clear g12 e12
  have g13 := hg 13 _ rfl
  simp [Value.cells, cells2] at g13
  obtain ⟨a13, e13, rfl, w13⟩ := DataW.trod_int Trym.underlying2 g13
  obtain rfl : c13 = .int .i64 a13 := by simpa using e13
  clear g13 e13
  have g14 := hg 14 _ rfl
  simp [Value.cells, cells9] at g14
  obtain ⟨a14, e14, rfl, w14⟩ := DataW.trod_string Trym.underlying9 g14
  obtain rfl : c14 = .string a14 := by simpa using e14
  clear g14 e14
  clear hg hf hv hsz hlen
  simp only [Prod.mk.injEq] at hx
  obtain ⟨rfl, rfl⟩ := hx
  refine ⟨a0, a1, a2, a3, a4, a5, a6, a7, a8, a9, a10, a11, a12, a13, a14, rfl, rfl, ⟨w0, w1, w2, w4, w9, w10, w11, w12, w13, w14⟩, fun w' base' spare' held' => ⟨2, ?_⟩⟩
  have hs := trod_struct_mk (enc := enc) (w := w') (base := base') (spare := spare') (held := held') (n := 1) (cs := [.int .i64 a0, .string a1, .string a2, .bool a3, .int .u64 a4, .bool a5, .bool a6, .bool a7, .bool a8, .int .i64 a9, .int .i64 a10, .int .i64 a11, .int .i64 a12, .int .i64 a13, .string a14])
    (xs := [(.lit (.int .i64 a0), []), (.lit (.string a1.data.toList), []), (.lit (.string a2.data.toList), []), (.lit (.bool a3), []), (.lit (.int .u64 a4), []), (.lit (.bool a5), []), (.lit (.bool a6), []), (.lit (.bool a7), []), (.lit (.bool a8), []), (.lit (.int .i64 a9), []), (.lit (.int .i64 a10), []), (.lit (.int .i64 a11), []), (.lit (.int .i64 a12), []), (.lit (.int .i64 a13), []), (.lit (.string a14.data.toList), [])]) Trym.underlying54 (by rw [cells54]; rfl) (by simp [DataW.trod, cells2, cells3, cells4, cells9, cells52, Trym.underlying2, Trym.underlying3, Trym.underlying4, Trym.underlying9, Trym.underlying52, w0, w1, w2, w4, w9, w10, w11, w12, w13, w14])
  exact hs

set_option maxHeartbeats 1000000 in
theorem open23 {H : Type} {enc : TypeId × Value → H} {w : World} {r : Reach} {b0 base : Nat} {spare : Nat → Bool} {held : Bool} {v : Value} {d : DataW H} {p : List MemPlace}
    (hv : Value.okWide Trym.prog w r b0 23 v) (h : DataW.Trod enc Trym.prog w base spare held 23 v d p) :
    ∃ (a0 : ByteArray) (a1 : ByteArray) (a2 : ByteArray) (a3 : Int) (a4 : ByteArray) (a5 : ByteArray) (a6 : ByteArray) (a7 : ByteArray) (a8 : ByteArray) (a9 : ByteArray) (a10 : ByteArray), v = .agg #[.string a0, .string a1, .string a2, .int .i64 a3, .string a4, .string a5, .string a6, .string a7, .string a8, .string a9, .string a10] ∧ p = [] ∧ (a0.size ≤ maxLen ∧ a1.size ≤ maxLen ∧ a2.size ≤ maxLen ∧ (Lit.int .i64 a3).wf = true ∧ a4.size ≤ maxLen ∧ a5.size ≤ maxLen ∧ a6.size ≤ maxLen ∧ a7.size ≤ maxLen ∧ a8.size ≤ maxLen ∧ a9.size ≤ maxLen ∧ a10.size ≤ maxLen) ∧
      ∀ (w' : World) (base' : Nat) (spare' : Nat → Bool) (held' : Bool), DataW.Trod enc Trym.prog w' base' spare' held' 23 v d [] := by
  obtain ⟨cs, rfl, hsz⟩ := okWide_struct Trym.underlying23 hv
  obtain ⟨c0, c1, c2, c3, c4, c5, c6, c7, c8, c9, c10, rfl⟩ := array11 (hsz.trans cells23)
  obtain ⟨fuel, hf⟩ := h
  obtain ⟨xs, m, _, hx, _, hlen, hg⟩ := DataW.trod_struct Trym.underlying23 hf
  obtain ⟨x0, x1, x2, x3, x4, x5, x6, x7, x8, x9, x10, rfl⟩ := list11 hlen
  have g0 := hg 0 _ rfl
  simp [Value.cells, cells9] at g0
  obtain ⟨a0, e0, rfl, w0⟩ := DataW.trod_string Trym.underlying9 g0
  obtain rfl : c0 = .string a0 := by simpa using e0
  clear g0 e0
  have g1 := hg 1 _ rfl
  simp [Value.cells, cells9] at g1
  obtain ⟨a1, e1, rfl, w1⟩ := DataW.trod_string Trym.underlying9 g1
  obtain rfl : c1 = .string a1 := by simpa using e1
  clear g1 e1
  have g2 := hg 2 _ rfl
  simp [Value.cells, cells9] at g2
  obtain ⟨a2, e2, rfl, w2⟩ := DataW.trod_string Trym.underlying9 g2
  obtain rfl : c2 = .string a2 := by simpa using e2
  clear g2 e2
  have g3 := hg 3 _ rfl
  simp [Value.cells, cells3] at g3
  obtain ⟨a3, e3, rfl, w3⟩ := DataW.trod_int Trym.underlying3 g3
  obtain rfl : c3 = .int .i64 a3 := by simpa using e3
  clear g3 e3
  have g4 := hg 4 _ rfl
  simp [Value.cells, cells9] at g4
  obtain ⟨a4, e4, rfl, w4⟩ := DataW.trod_string Trym.underlying9 g4
  obtain rfl : c4 = .string a4 := by simpa using e4
  clear g4 e4
  have g5 := hg 5 _ rfl
  simp [Value.cells, cells9] at g5
  obtain ⟨a5, e5, rfl, w5⟩ := DataW.trod_string Trym.underlying9 g5
  obtain rfl : c5 = .string a5 := by simpa using e5
  clear g5 e5
  have g6 := hg 6 _ rfl
  simp [Value.cells, cells9] at g6
  obtain ⟨a6, e6, rfl, w6⟩ := DataW.trod_string Trym.underlying9 g6
  obtain rfl : c6 = .string a6 := by simpa using e6
  clear g6 e6
  have g7 := hg 7 _ rfl
  simp [Value.cells, cells9] at g7
  obtain ⟨a7, e7, rfl, w7⟩ := DataW.trod_string Trym.underlying9 g7
  obtain rfl : c7 = .string a7 := by simpa using e7
  clear g7 e7
  have g8 := hg 8 _ rfl
  simp [Value.cells, cells9] at g8
  obtain ⟨a8, e8, rfl, w8⟩ := DataW.trod_string Trym.underlying9 g8
  obtain rfl : c8 = .string a8 := by simpa using e8
  clear g8 e8
  have g9 := hg 9 _ rfl
  simp [Value.cells, cells9] at g9
  obtain ⟨a9, e9, rfl, w9⟩ := DataW.trod_string Trym.underlying9 g9
  obtain rfl : c9 = .string a9 := by simpa using e9
  clear g9 e9
  have g10 := hg 10 _ rfl
  simp [Value.cells, cells9] at g10
  obtain ⟨a10, e10, rfl, w10⟩ := DataW.trod_string Trym.underlying9 g10
  obtain rfl : c10 = .string a10 := by simpa using e10
  clear g10 e10
  clear hg hf hv hsz hlen
  simp only [Prod.mk.injEq] at hx
  obtain ⟨rfl, rfl⟩ := hx
  refine ⟨a0, a1, a2, a3, a4, a5, a6, a7, a8, a9, a10, rfl, rfl, ⟨w0, w1, w2, w3, w4, w5, w6, w7, w8, w9, w10⟩, fun w' base' spare' held' => ⟨2, ?_⟩⟩
  have hs := trod_struct_mk (enc := enc) (w := w') (base := base') (spare := spare') (held := held') (n := 1) (cs := [.string a0, .string a1, .string a2, .int .i64 a3, .string a4, .string a5, .string a6, .string a7, .string a8, .string a9, .string a10])
    (xs := [(.lit (.string a0.data.toList), []), (.lit (.string a1.data.toList), []), (.lit (.string a2.data.toList), []), (.lit (.int .i64 a3), []), (.lit (.string a4.data.toList), []), (.lit (.string a5.data.toList), []), (.lit (.string a6.data.toList), []), (.lit (.string a7.data.toList), []), (.lit (.string a8.data.toList), []), (.lit (.string a9.data.toList), []), (.lit (.string a10.data.toList), [])]) Trym.underlying23 (by rw [cells23]; rfl) (by simp [DataW.trod, cells3, cells9, Trym.underlying3, Trym.underlying9, w0, w1, w2, w3, w4, w5, w6, w7, w8, w9, w10])
  exact hs

set_option maxHeartbeats 1000000 in
theorem open25 {H : Type} {enc : TypeId × Value → H} {w : World} {r : Reach} {b0 base : Nat} {spare : Nat → Bool} {held : Bool} {v : Value} {d : DataW H} {p : List MemPlace}
    (hv : Value.okWide Trym.prog w r b0 25 v) (h : DataW.Trod enc Trym.prog w base spare held 25 v d p) :
    ∃ (a0 : ByteArray) (a1 : ByteArray) (a2 : ByteArray) (a3 : ByteArray) (a4 : ByteArray) (a5 : ByteArray) (a6 : ByteArray) (a7 : ByteArray) (a8 : ByteArray) (a9 : ByteArray) (a10 : ByteArray), v = .agg #[.string a0, .string a1, .string a2, .string a3, .string a4, .string a5, .string a6, .string a7, .string a8, .string a9, .string a10] ∧ p = [] ∧ (a0.size ≤ maxLen ∧ a1.size ≤ maxLen ∧ a2.size ≤ maxLen ∧ a3.size ≤ maxLen ∧ a4.size ≤ maxLen ∧ a5.size ≤ maxLen ∧ a6.size ≤ maxLen ∧ a7.size ≤ maxLen ∧ a8.size ≤ maxLen ∧ a9.size ≤ maxLen ∧ a10.size ≤ maxLen) ∧
      ∀ (w' : World) (base' : Nat) (spare' : Nat → Bool) (held' : Bool), DataW.Trod enc Trym.prog w' base' spare' held' 25 v d [] := by
  obtain ⟨cs, rfl, hsz⟩ := okWide_struct Trym.underlying25 hv
  obtain ⟨c0, c1, c2, c3, c4, c5, c6, c7, c8, c9, c10, rfl⟩ := array11 (hsz.trans cells25)
  obtain ⟨fuel, hf⟩ := h
  obtain ⟨xs, m, _, hx, _, hlen, hg⟩ := DataW.trod_struct Trym.underlying25 hf
  obtain ⟨x0, x1, x2, x3, x4, x5, x6, x7, x8, x9, x10, rfl⟩ := list11 hlen
  have g0 := hg 0 _ rfl
  simp [Value.cells, cells9] at g0
  obtain ⟨a0, e0, rfl, w0⟩ := DataW.trod_string Trym.underlying9 g0
  obtain rfl : c0 = .string a0 := by simpa using e0
  clear g0 e0
  have g1 := hg 1 _ rfl
  simp [Value.cells, cells9] at g1
  obtain ⟨a1, e1, rfl, w1⟩ := DataW.trod_string Trym.underlying9 g1
  obtain rfl : c1 = .string a1 := by simpa using e1
  clear g1 e1
  have g2 := hg 2 _ rfl
  simp [Value.cells, cells9] at g2
  obtain ⟨a2, e2, rfl, w2⟩ := DataW.trod_string Trym.underlying9 g2
  obtain rfl : c2 = .string a2 := by simpa using e2
  clear g2 e2
  have g3 := hg 3 _ rfl
  simp [Value.cells, cells9] at g3
  obtain ⟨a3, e3, rfl, w3⟩ := DataW.trod_string Trym.underlying9 g3
  obtain rfl : c3 = .string a3 := by simpa using e3
  clear g3 e3
  have g4 := hg 4 _ rfl
  simp [Value.cells, cells9] at g4
  obtain ⟨a4, e4, rfl, w4⟩ := DataW.trod_string Trym.underlying9 g4
  obtain rfl : c4 = .string a4 := by simpa using e4
  clear g4 e4
  have g5 := hg 5 _ rfl
  simp [Value.cells, cells9] at g5
  obtain ⟨a5, e5, rfl, w5⟩ := DataW.trod_string Trym.underlying9 g5
  obtain rfl : c5 = .string a5 := by simpa using e5
  clear g5 e5
  have g6 := hg 6 _ rfl
  simp [Value.cells, cells9] at g6
  obtain ⟨a6, e6, rfl, w6⟩ := DataW.trod_string Trym.underlying9 g6
  obtain rfl : c6 = .string a6 := by simpa using e6
  clear g6 e6
  have g7 := hg 7 _ rfl
  simp [Value.cells, cells9] at g7
  obtain ⟨a7, e7, rfl, w7⟩ := DataW.trod_string Trym.underlying9 g7
  obtain rfl : c7 = .string a7 := by simpa using e7
  clear g7 e7
  have g8 := hg 8 _ rfl
  simp [Value.cells, cells9] at g8
  obtain ⟨a8, e8, rfl, w8⟩ := DataW.trod_string Trym.underlying9 g8
  obtain rfl : c8 = .string a8 := by simpa using e8
  clear g8 e8
  have g9 := hg 9 _ rfl
  simp [Value.cells, cells9] at g9
  obtain ⟨a9, e9, rfl, w9⟩ := DataW.trod_string Trym.underlying9 g9
  obtain rfl : c9 = .string a9 := by simpa using e9
  clear g9 e9
  have g10 := hg 10 _ rfl
  simp [Value.cells, cells9] at g10
  obtain ⟨a10, e10, rfl, w10⟩ := DataW.trod_string Trym.underlying9 g10
  obtain rfl : c10 = .string a10 := by simpa using e10
  clear g10 e10
  clear hg hf hv hsz hlen
  simp only [Prod.mk.injEq] at hx
  obtain ⟨rfl, rfl⟩ := hx
  refine ⟨a0, a1, a2, a3, a4, a5, a6, a7, a8, a9, a10, rfl, rfl, ⟨w0, w1, w2, w3, w4, w5, w6, w7, w8, w9, w10⟩, fun w' base' spare' held' => ⟨2, ?_⟩⟩
  have hs := trod_struct_mk (enc := enc) (w := w') (base := base') (spare := spare') (held := held') (n := 1) (cs := [.string a0, .string a1, .string a2, .string a3, .string a4, .string a5, .string a6, .string a7, .string a8, .string a9, .string a10])
    (xs := [(.lit (.string a0.data.toList), []), (.lit (.string a1.data.toList), []), (.lit (.string a2.data.toList), []), (.lit (.string a3.data.toList), []), (.lit (.string a4.data.toList), []), (.lit (.string a5.data.toList), []), (.lit (.string a6.data.toList), []), (.lit (.string a7.data.toList), []), (.lit (.string a8.data.toList), []), (.lit (.string a9.data.toList), []), (.lit (.string a10.data.toList), [])]) Trym.underlying25 (by rw [cells25]; rfl) (by simp [DataW.trod, cells9, Trym.underlying9, w0, w1, w2, w3, w4, w5, w6, w7, w8, w9, w10])
  exact hs
end Go.Proofs.Qxb6613092aMods.Op
