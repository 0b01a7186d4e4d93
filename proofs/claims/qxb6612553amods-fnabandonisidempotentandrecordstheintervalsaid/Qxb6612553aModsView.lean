/-
  THE WALK of ZZspliceView (seat b6612553aM): a region of 54 operations that draws its order.
-/
import Derived.Test.Qxb6612553aModsProg
import Derived.WalkKit
import Derived.RowKit3
import Derived.WalkSpells
import Derived.Deep.RegionHeld3
namespace Go.Proofs.Qxb6612553aMods.Sp
open Go.RowKit

set_option maxHeartbeats 4000000 in
/-- 'ZZspliceView'. -/
theorem view_any (b : Nat) (iin iout st now : Int) (hn : Bool) (sn : Int) (sp : Bool) (lin lout : Int) (jl ja : Bool) (wa ex : Int) (w : World) (k0 : w.cell? ⟨b, 0, none⟩ = some (.int .u64 iin)) (k1 : w.cell? ⟨b, 1, none⟩ = some (.int .u64 iout)) (k2 : w.cell? ⟨b, 2, none⟩ = some (.int .i64 st)) (k3 : w.cell? ⟨b, 3, none⟩ = some (.int .u64 now)) (k4 : w.cell? ⟨b, 4, none⟩ = some (.bool hn)) (k5 : w.cell? ⟨b, 5, none⟩ = some (.int .u64 sn)) (k6 : w.cell? ⟨b, 6, none⟩ = some (.bool sp)) (k7 : w.cell? ⟨b, 7, none⟩ = some (.int .u64 lin)) (k8 : w.cell? ⟨b, 8, none⟩ = some (.int .u64 lout)) (k9 : w.cell? ⟨b, 9, none⟩ = some (.bool jl)) (k10 : w.cell? ⟨b, 10, none⟩ = some (.bool ja)) (k11 : w.cell? ⟨b, 11, none⟩ = some (.int .u64 wa)) (k12 : w.cell? ⟨b, 12, none⟩ = some (.int .i64 ex)) (k13 : w.cell? ⟨b, 13, none⟩ = some (.pointer none)) :
    Calls Trym.prog 18 #[.pointer (some ⟨b, 0, none⟩)] w fun e w' => e = .returned (.agg #[.int .u64 iin, .int .u64 iout, .int .i64 st, .int .u64 now, .bool hn, .int .u64 sn, .bool sp, .int .u64 lin, .int .u64 lout, .bool jl, .bool ja, .int .u64 wa, .int .i64 ex, .pointer none]) ∧ ∃ c1 : Array Value, w' = (w.alloc (.cells c1 43)).drew := by
  have hb := World.new_ne w _ k0
  go_enter Trym.func18, Trym.ntmps18
  go_wp2
  go_region_held3 (fun w' => w'.cell? ⟨b, 0, none⟩ = some (.int .u64 iin) ∧ w'.cell? ⟨b, 1, none⟩ = some (.int .u64 iout) ∧ w'.cell? ⟨b, 2, none⟩ = some (.int .i64 st) ∧ w'.cell? ⟨b, 3, none⟩ = some (.int .u64 now) ∧ w'.cell? ⟨b, 4, none⟩ = some (.bool hn) ∧ w'.cell? ⟨b, 5, none⟩ = some (.int .u64 sn) ∧ w'.cell? ⟨b, 6, none⟩ = some (.bool sp) ∧ w'.cell? ⟨b, 7, none⟩ = some (.int .u64 lin) ∧ w'.cell? ⟨b, 8, none⟩ = some (.int .u64 lout) ∧ w'.cell? ⟨b, 9, none⟩ = some (.bool jl) ∧ w'.cell? ⟨b, 10, none⟩ = some (.bool ja) ∧ w'.cell? ⟨b, 11, none⟩ = some (.int .u64 wa) ∧ w'.cell? ⟨b, 12, none⟩ = some (.int .i64 ex) ∧ w'.cell? ⟨b, 13, none⟩ = some (.pointer none)) (go_keep) (fail)
  go_wp2
  simp [bodyPost, results, Trym.results18, go_sem]
  exact ⟨_, rfl⟩
end Go.Proofs.Qxb6612553aMods.Sp
