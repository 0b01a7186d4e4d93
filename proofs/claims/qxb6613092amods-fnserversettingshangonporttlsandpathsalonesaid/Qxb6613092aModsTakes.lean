/-
  Small laws for the two laws on server settings (seat b6613092aM): a block's cells behind growth; an operation of a drawn region taken first, by its number and slot (one whose guard says no, too).
-/
import Derived.Test.Qxb6613092aModsRows13
import Derived.Deep.RegionHeld3
namespace Go.Proofs.Qxb6613092aMods.Tk
open Go.RowKit
theorem take_d {P : Program} {ops : Array Oper} {Q : Exit → Act → World → Prop} {md : Region.Mode} {S : World → Prop} {i d : Nat} {oi : Oper} {v : Value} {fuel : Nat} {listed : Array Bool} {a : Act} {w : World} (hi : ops[i]? = some oi) (hd : oi.dst = some d)
    (hs : Region.noSelect ops = true) (hf : Region.free md ops listed i = true) (hr : (Region.ready md ops listed).contains i = true)
    (hQ : ∀ c a w, Q (.panic c) (a.put (some d) v) w → Q (.panic c) a w) (hy : YieldsIf P ops S oi v a) (hS : S w)
    (h : wpAnyH P md ops Q S fuel (listed.setIfInBounds i true) (a.put (some d) v) w) : wpAnyH P md ops Q S (fuel + 1) listed a w := by
  rw [← hd] at hQ h
  exact wpAnyH_take hi hs hf hr hQ hy hS h
theorem grown_trans {a b c : World} (h : Grown a b) (k : Grown b c) : Grown a c := Me.grown_trans h k
theorem grown_cell {w w' : World} (h : Grown w w') {b : Nat} (o : Nat) (hb : b < w.heap.size) : w'.cell? ⟨b, o, none⟩ = w.cell? ⟨b, o, none⟩ := by
  have h3 := h.1.2.2 b hb
  simp only [World.cell?]
  generalize w.heap[b]? = x at h3
  generalize w'.heap[b]? = y at h3
  revert h3
  split
  · rintro ⟨_, _, _, h4⟩
    simp [h4 o (fun f => f)]
  · rintro (f | ⟨_, _⟩)
    · exact f.elim
    · rfl
  · rintro rfl
    rfl
end Go.Proofs.Qxb6613092aMods.Tk
