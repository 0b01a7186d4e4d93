/-
  THE WALKS over mixer's splice (seat b6612553aM): ZZnewSplice, abandon, ZZabandon, ZZspliceView.
-/
import Derived.Test.Qxb6612553aModsProg
import Derived.WalkKit
import Derived.RowKit3
import Derived.WalkSpells
import Derived.Laws.Pointers
namespace Go.Proofs.Qxb6612553aMods.Sp
open Go.RowKit

/-- 'ZZnewSplice'. -/
theorem new_any (iin iout st now : Int) (hn : Bool) (sn : Int) (sp : Bool) (lin lout : Int) (jl ja : Bool) (wa ex : Int) (w : World) :
    Calls Trym.prog 16 #[.agg #[.int .u64 iin, .int .u64 iout, .int .i64 st, .int .u64 now, .bool hn, .int .u64 sn, .bool sp, .int .u64 lin, .int .u64 lout, .bool jl, .bool ja, .int .u64 wa, .int .i64 ex, .pointer none]] w fun e w' =>
      e = .returned (.pointer (some ⟨w.heap.size + 1, 0, none⟩)) ∧ ∃ c1 : Array Value, w' = (w.alloc (.cells c1 43)).alloc (.cells #[.int .u64 iin, .int .u64 iout, .int .i64 st, .int .u64 now, .bool hn, .int .u64 sn, .bool sp, .int .u64 lin, .int .u64 lout, .bool jl, .bool ja, .int .u64 wa, .int .i64 ex, .pointer none] 93) := by
  go_enter Trym.func16, Trym.ntmps16
  go_wp2
  go_ret
  exact ⟨rfl, _, rfl⟩

/-- '(*splice).abandon'. -/
theorem abandon_any (b : Nat) (iin iout st lin lout : Int) (jl : Bool) (w : World) (k0 : w.cell? ⟨b, 0, none⟩ = some (.int .u64 iin)) (k1 : w.cell? ⟨b, 1, none⟩ = some (.int .u64 iout))
    (k2 : w.cell? ⟨b, 2, none⟩ = some (.int .i64 st)) (k7 : w.cell? ⟨b, 7, none⟩ = some (.int .u64 lin)) (k8 : w.cell? ⟨b, 8, none⟩ = some (.int .u64 lout)) (k9 : w.cell? ⟨b, 9, none⟩ = some (.bool jl))
    (z2 : w.frozen? ⟨b, 2, none⟩ = false) (z7 : w.frozen? ⟨b, 7, none⟩ = false) (z8 : w.frozen? ⟨b, 8, none⟩ = false) (z9 : w.frozen? ⟨b, 9, none⟩ = false) :
    Calls Trym.prog 22 #[.pointer (some ⟨b, 0, none⟩)] w fun e w' =>
      e = .returned (.tuple #[]) ∧ w' = (((w.setCell ⟨b, 2, none⟩ (.int .i64 5)).setCell ⟨b, 7, none⟩ (.int .u64 iin)).setCell ⟨b, 8, none⟩ (.int .u64 iout)).setCell ⟨b, 9, none⟩ (.bool true) := by
  go_enter Trym.func22, Trym.ntmps22
  go_wp2
  go_end0
  exact ⟨rfl, rfl⟩

/-- 'ZZabandon'. -/
theorem zzAbandon_any (b : Nat) (iin iout st lin lout : Int) (jl : Bool) (w : World) (k0 : w.cell? ⟨b, 0, none⟩ = some (.int .u64 iin)) (k1 : w.cell? ⟨b, 1, none⟩ = some (.int .u64 iout))
    (k2 : w.cell? ⟨b, 2, none⟩ = some (.int .i64 st)) (k7 : w.cell? ⟨b, 7, none⟩ = some (.int .u64 lin)) (k8 : w.cell? ⟨b, 8, none⟩ = some (.int .u64 lout)) (k9 : w.cell? ⟨b, 9, none⟩ = some (.bool jl))
    (z2 : w.frozen? ⟨b, 2, none⟩ = false) (z7 : w.frozen? ⟨b, 7, none⟩ = false) (z8 : w.frozen? ⟨b, 8, none⟩ = false) (z9 : w.frozen? ⟨b, 9, none⟩ = false) :
    Calls Trym.prog 17 #[.pointer (some ⟨b, 0, none⟩)] w fun e w' =>
      e = .returned (.tuple #[]) ∧ w' = (((w.setCell ⟨b, 2, none⟩ (.int .i64 5)).setCell ⟨b, 7, none⟩ (.int .u64 iin)).setCell ⟨b, 8, none⟩ (.int .u64 iout)).setCell ⟨b, 9, none⟩ (.bool true) := by
  go_enter Trym.func17, Trym.ntmps17
  go_wp2_with (go_at_call 22; refine (abandon_any b iin iout st lin lout jl _ k0 k1 k2 k7 k8 k9 z2 z7 z8 z9).mono ?_; rintro e w' ⟨rfl, rfl⟩)
  go_end0
  exact ⟨rfl, rfl⟩


/-- '==' between two nil '*Location's, inside a comparison of structs. -/
theorem eql_loc (w : World) : (Op.equalIn 9998 26 (.pointer none) (.pointer none)).run Trym.prog w = .ok true w :=
  run_equalIn_pointer_nil w 9997 26 none (by kernel_rfl)
end Go.Proofs.Qxb6612553aMods.Sp
