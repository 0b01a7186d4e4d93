/-
  THIRTEEN STORES INTO ONE BLOCK, CELL BY CELL (seat b6613092aM): the block's row behind them; the other blocks. And rows behind five new blocks.
-/
import Derived.Test.Qxb6613092aModsSett
namespace Go.Proofs.Qxb6613092aMods.Sx
open Go.RowKit Se
set_option linter.unusedVariables false

theorem array13 {α : Type} {cs : Array α} (h : cs.size = 13) : ∃ z0 z1 z2 z3 z4 z5 z6 z7 z8 z9 z10 z11 z12, cs = #[z0, z1, z2, z3, z4, z5, z6, z7, z8, z9, z10, z11, z12] := by
  obtain ⟨l⟩ := cs
  match l, h with
  | [z0, z1, z2, z3, z4, z5, z6, z7, z8, z9, z10, z11, z12], _ => exact ⟨z0, z1, z2, z3, z4, z5, z6, z7, z8, z9, z10, z11, z12, rfl⟩
theorem set13 (W : World) (b : Nat) (z : Array Value) (hz : z.size = 13) (h : W.heap[b]? = some (.cells z 33 (0, 0))) (v0 v1 v2 v3 v4 v5 v6 v7 v8 v9 v10 v11 v12 : Value) :
    (((((((((((((W.setCell ⟨b, 0, none⟩ v0).setCell ⟨b, 1, none⟩ v1).setCell ⟨b, 2, none⟩ v2).setCell ⟨b, 3, none⟩ v3).setCell ⟨b, 4, none⟩ v4).setCell ⟨b, 5, none⟩ v5).setCell ⟨b, 6, none⟩ v6).setCell ⟨b, 7, none⟩ v7).setCell ⟨b, 8, none⟩ v8).setCell ⟨b, 9, none⟩ v9).setCell ⟨b, 10, none⟩ v10).setCell ⟨b, 11, none⟩ v11).setCell ⟨b, 12, none⟩ v12).heap[b]? = some (.cells #[v0, v1, v2, v3, v4, v5, v6, v7, v8, v9, v10, v11, v12] 33 (0, 0)) := by
  obtain ⟨z0, z1, z2, z3, z4, z5, z6, z7, z8, z9, z10, z11, z12, rfl⟩ := array13 hz
  have k0 : (W.setCell ⟨b, 0, none⟩ v0).heap[b]? = some (.cells #[v0, z1, z2, z3, z4, z5, z6, z7, z8, z9, z10, z11, z12] 33 (0, 0)) := heap_setCell_same _ b 0 _ 33 v0 h
  have k1 : ((W.setCell ⟨b, 0, none⟩ v0).setCell ⟨b, 1, none⟩ v1).heap[b]? = some (.cells #[v0, v1, z2, z3, z4, z5, z6, z7, z8, z9, z10, z11, z12] 33 (0, 0)) := heap_setCell_same _ b 1 _ 33 v1 k0
  have k2 : (((W.setCell ⟨b, 0, none⟩ v0).setCell ⟨b, 1, none⟩ v1).setCell ⟨b, 2, none⟩ v2).heap[b]? = some (.cells #[v0, v1, v2, z3, z4, z5, z6, z7, z8, z9, z10, z11, z12] 33 (0, 0)) := heap_setCell_same _ b 2 _ 33 v2 k1
  have k3 : ((((W.setCell ⟨b, 0, none⟩ v0).setCell ⟨b, 1, none⟩ v1).setCell ⟨b, 2, none⟩ v2).setCell ⟨b, 3, none⟩ v3).heap[b]? = some (.cells #[v0, v1, v2, v3, z4, z5, z6, z7, z8, z9, z10, z11, z12] 33 (0, 0)) := heap_setCell_same _ b 3 _ 33 v3 k2
  have k4 : (((((W.setCell ⟨b, 0, none⟩ v0).setCell ⟨b, 1, none⟩ v1).setCell ⟨b, 2, none⟩ v2).setCell ⟨b, 3, none⟩ v3).setCell ⟨b, 4, none⟩ v4).heap[b]? = some (.cells #[v0, v1, v2, v3, v4, z5, z6, z7, z8, z9, z10, z11, z12] 33 (0, 0)) := heap_setCell_same _ b 4 _ 33 v4 k3
  have k5 : ((((((W.setCell ⟨b, 0, none⟩ v0).setCell ⟨b, 1, none⟩ v1).setCell ⟨b, 2, none⟩ v2).setCell ⟨b, 3, none⟩ v3).setCell ⟨b, 4, none⟩ v4).setCell ⟨b, 5, none⟩ v5).heap[b]? = some (.cells #[v0, v1, v2, v3, v4, v5, z6, z7, z8, z9, z10, z11, z12] 33 (0, 0)) := heap_setCell_same _ b 5 _ 33 v5 k4
  have k6 : (((((((W.setCell ⟨b, 0, none⟩ v0).setCell ⟨b, 1, none⟩ v1).setCell ⟨b, 2, none⟩ v2).setCell ⟨b, 3, none⟩ v3).setCell ⟨b, 4, none⟩ v4).setCell ⟨b, 5, none⟩ v5).setCell ⟨b, 6, none⟩ v6).heap[b]? = some (.cells #[v0, v1, v2, v3, v4, v5, v6, z7, z8, z9, z10, z11, z12] 33 (0, 0)) := heap_setCell_same _ b 6 _ 33 v6 k5
  have k7 : ((((((((W.setCell ⟨b, 0, none⟩ v0).setCell ⟨b, 1, none⟩ v1).setCell ⟨b, 2, none⟩ v2).setCell ⟨b, 3, none⟩ v3).setCell ⟨b, 4, none⟩ v4).setCell ⟨b, 5, none⟩ v5).setCell ⟨b, 6, none⟩ v6).setCell ⟨b, 7, none⟩ v7).heap[b]? = some (.cells #[v0, v1, v2, v3, v4, v5, v6, v7, z8, z9, z10, z11, z12] 33 (0, 0)) := heap_setCell_same _ b 7 _ 33 v7 k6
  have k8 : (((((((((W.setCell ⟨b, 0, none⟩ v0).setCell ⟨b, 1, none⟩ v1).setCell ⟨b, 2, none⟩ v2).setCell ⟨b, 3, none⟩ v3).setCell ⟨b, 4, none⟩ v4).setCell ⟨b, 5, none⟩ v5).setCell ⟨b, 6, none⟩ v6).setCell ⟨b, 7, none⟩ v7).setCell ⟨b, 8, none⟩ v8).heap[b]? = some (.cells #[v0, v1, v2, v3, v4, v5, v6, v7, v8, z9, z10, z11, z12] 33 (0, 0)) := heap_setCell_same _ b 8 _ 33 v8 k7
  have k9 : ((((((((((W.setCell ⟨b, 0, none⟩ v0).setCell ⟨b, 1, none⟩ v1).setCell ⟨b, 2, none⟩ v2).setCell ⟨b, 3, none⟩ v3).setCell ⟨b, 4, none⟩ v4).setCell ⟨b, 5, none⟩ v5).setCell ⟨b, 6, none⟩ v6).setCell ⟨b, 7, none⟩ v7).setCell ⟨b, 8, none⟩ v8).setCell ⟨b, 9, none⟩ v9).heap[b]? = some (.cells #[v0, v1, v2, v3, v4, v5, v6, v7, v8, v9, z10, z11, z12] 33 (0, 0)) := heap_setCell_same _ b 9 _ 33 v9 k8
  have k10 : (((((((((((W.setCell ⟨b, 0, none⟩ v0).setCell ⟨b, 1, none⟩ v1).setCell ⟨b, 2, none⟩ v2).setCell ⟨b, 3, none⟩ v3).setCell ⟨b, 4, none⟩ v4).setCell ⟨b, 5, none⟩ v5).setCell ⟨b, 6, none⟩ v6).setCell ⟨b, 7, none⟩ v7).setCell ⟨b, 8, none⟩ v8).setCell ⟨b, 9, none⟩ v9).setCell ⟨b, 10, none⟩ v10).heap[b]? = some (.cells #[v0, v1, v2, v3, v4, v5, v6, v7, v8, v9, v10, z11, z12] 33 (0, 0)) := heap_setCell_same _ b 10 _ 33 v10 k9
  have k11 : ((((((((((((W.setCell ⟨b, 0, none⟩ v0).setCell ⟨b, 1, none⟩ v1).setCell ⟨b, 2, none⟩ v2).setCell ⟨b, 3, none⟩ v3).setCell ⟨b, 4, none⟩ v4).setCell ⟨b, 5, none⟩ v5).setCell ⟨b, 6, none⟩ v6).setCell ⟨b, 7, none⟩ v7).setCell ⟨b, 8, none⟩ v8).setCell ⟨b, 9, none⟩ v9).setCell ⟨b, 10, none⟩ v10).setCell ⟨b, 11, none⟩ v11).heap[b]? = some (.cells #[v0, v1, v2, v3, v4, v5, v6, v7, v8, v9, v10, v11, z12] 33 (0, 0)) := heap_setCell_same _ b 11 _ 33 v11 k10
  have k12 : (((((((((((((W.setCell ⟨b, 0, none⟩ v0).setCell ⟨b, 1, none⟩ v1).setCell ⟨b, 2, none⟩ v2).setCell ⟨b, 3, none⟩ v3).setCell ⟨b, 4, none⟩ v4).setCell ⟨b, 5, none⟩ v5).setCell ⟨b, 6, none⟩ v6).setCell ⟨b, 7, none⟩ v7).setCell ⟨b, 8, none⟩ v8).setCell ⟨b, 9, none⟩ v9).setCell ⟨b, 10, none⟩ v10).setCell ⟨b, 11, none⟩ v11).setCell ⟨b, 12, none⟩ v12).heap[b]? = some (.cells #[v0, v1, v2, v3, v4, v5, v6, v7, v8, v9, v10, v11, v12] 33 (0, 0)) := heap_setCell_same _ b 12 _ 33 v12 k11
  exact k12
theorem set13_other (W : World) (b x : Nat) (hx : x ≠ b) (v0 v1 v2 v3 v4 v5 v6 v7 v8 v9 v10 v11 v12 : Value) : (((((((((((((W.setCell ⟨b, 0, none⟩ v0).setCell ⟨b, 1, none⟩ v1).setCell ⟨b, 2, none⟩ v2).setCell ⟨b, 3, none⟩ v3).setCell ⟨b, 4, none⟩ v4).setCell ⟨b, 5, none⟩ v5).setCell ⟨b, 6, none⟩ v6).setCell ⟨b, 7, none⟩ v7).setCell ⟨b, 8, none⟩ v8).setCell ⟨b, 9, none⟩ v9).setCell ⟨b, 10, none⟩ v10).setCell ⟨b, 11, none⟩ v11).setCell ⟨b, 12, none⟩ v12).heap[x]? = W.heap[x]? := by
  simp only [heap_setCell_other _ (⟨b, _, none⟩ : Addr) x _ hx]
theorem grown_set13 {V W : World} (h : Grown V W) (b : Nat) (hb : V.heap.size ≤ b) (v0 v1 v2 v3 v4 v5 v6 v7 v8 v9 v10 v11 v12 : Value) : Grown V (((((((((((((W.setCell ⟨b, 0, none⟩ v0).setCell ⟨b, 1, none⟩ v1).setCell ⟨b, 2, none⟩ v2).setCell ⟨b, 3, none⟩ v3).setCell ⟨b, 4, none⟩ v4).setCell ⟨b, 5, none⟩ v5).setCell ⟨b, 6, none⟩ v6).setCell ⟨b, 7, none⟩ v7).setCell ⟨b, 8, none⟩ v8).setCell ⟨b, 9, none⟩ v9).setCell ⟨b, 10, none⟩ v10).setCell ⟨b, 11, none⟩ v11).setCell ⟨b, 12, none⟩ v12) := by
  repeat refine Grown.setCell ?_ hb _
  exact h
theorem Cert.other {t : Bool} {q : Option Addr} {B : Nat} {c k : ByteArray} {w w' : World} (h : Cert t q B c k w) (hw : ∀ x, B ≤ x → w'.heap[x]? = w.heap[x]?) : Cert t q B c k w' := by
  rcases h with h | ⟨ht, b, hq, hB, hb⟩
  · exact Or.inl h
  · exact Or.inr ⟨ht, b, hq, hB, (hw b hB).trans hb⟩
theorem h5_0 (w : World) (A B C D E : Obj) : (((((w.alloc A).alloc B).alloc C).alloc D).alloc E).heap[w.heap.size]? = some A := by
  show (((((w.heap.push A).push B).push C).push D).push E)[w.heap.size]? = _
  simp only [Array.getElem?_push, Array.size_push]
  rw [if_neg (by omega), if_neg (by omega), if_neg (by omega), if_neg (by omega), if_pos trivial]
theorem h5_2 (w : World) (A B C D E : Obj) : (((((w.alloc A).alloc B).alloc C).alloc D).alloc E).heap[w.heap.size + 1 + 1]? = some C := by
  show (((((w.heap.push A).push B).push C).push D).push E)[w.heap.size + 1 + 1]? = _
  simp only [Array.getElem?_push, Array.size_push]
  rw [if_neg (by omega), if_neg (by omega), if_pos trivial]
theorem h5_4 (w : World) (A B C D E : Obj) : (((((w.alloc A).alloc B).alloc C).alloc D).alloc E).heap[w.heap.size + 1 + 1 + 1 + 1]? = some E := by
  show (((((w.heap.push A).push B).push C).push D).push E)[w.heap.size + 1 + 1 + 1 + 1]? = _
  simp only [Array.getElem?_push, Array.size_push]
  rw [if_pos trivial]
theorem size5 (w : World) (A B C D E : Obj) : (((((w.alloc A).alloc B).alloc C).alloc D).alloc E).drew.heap.size = w.heap.size + 5 := by
  show (((((w.heap.push A).push B).push C).push D).push E).size = _
  simp
theorem grown5 {W w : World} (h : Grown W w) (A B C D E : Array Value) (a b c d e : TypeId) : Grown W (((((w.alloc (.cells A a)).alloc (.cells B b)).alloc (.cells C c)).alloc (.cells D d)).alloc (.cells E e)).drew :=
  Grown.drew (Grown.alloc (Grown.alloc (Grown.alloc (Grown.alloc (Grown.alloc h _ _) _ _) _ _) _ _) _ _)
end Go.Proofs.Qxb6613092aMods.Sx
