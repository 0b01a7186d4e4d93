/-
  'Grown' (Derived/RowKit3.lean), two laws more: one behind another; what a cell that was there reads.
-/
import Derived.RowKit3
import Derived.Below
namespace Go.Proofs.Qxb6612553aMods
open Go.RowKit

theorem grown_trans {a b c : World} (h : Grown a b) (k : Grown b c) : Grown a c := by
  refine ⟨?_, fun x => (k.2.1 x).trans (h.2.1 x), Nat.le_trans h.2.2 k.2.2⟩
  exact World.keptBut_trans h.1 k.1

theorem grown_cell {w w' : World} (h : Grown w w') {b : Nat} (o : Nat) (hb : b < w.heap.size) : w'.cell? ⟨b, o, none⟩ = w.cell? ⟨b, o, none⟩ := by
  have h3 := h.1.2.2 b hb
  simp only [World.cell?]
  generalize w.heap[b]? = x at h3
  generalize w'.heap[b]? = y at h3
  revert h3
  split
  · rintro ⟨_, _, _, h4⟩
    simp [h4 o (fun f => f)]
  · rintro (f | ⟨_, _⟩)
    · exact f.elim
    · rfl
  · rintro rfl
    rfl
end Go.Proofs.Qxb6612553aMods
