/-
  THE CONTRACTS of the settings' makers in the form that a region which draws its order wants (seat b6613092aM): exact worlds for zzConfig and zzPaths; ONE contract for ZZserverSettings, with TLS or without.
-/
import Derived.Test.Qxb6613092aModsSame
namespace Go.Proofs.Qxb6613092aMods.Sx
open Go.RowKit Se
set_option linter.unusedVariables false

/-- Where the certificate lies: nowhere without TLS; with TLS in a block from B on. -/
def Cert (t : Bool) (q : Option Addr) (B : Nat) (c k : ByteArray) (w : World) : Prop :=
  (t = false ∧ q = none) ∨ (t = true ∧ ∃ b : Nat, q = some ⟨b, 0, none⟩ ∧ B ≤ b ∧ w.heap[b]? = some (.cells #[.string c, .string k] 51 (0, 0)))
theorem Cert.grown {t : Bool} {q : Option Addr} {B : Nat} {c k : ByteArray} {w w' : World} (h : Cert t q B c k w) (hg : Grown w w') : Cert t q B c k w' := by
  rcases h with h | ⟨ht, b, hq, hB, hb⟩
  · exact Or.inl h
  · exact Or.inr ⟨ht, b, hq, hB, grown_block hg hb⟩
theorem Cert.low {t : Bool} {q : Option Addr} {B B' : Nat} {c k : ByteArray} {w : World} (h : Cert t q B c k w) (hB : B' ≤ B) : Cert t q B' c k w := by
  rcases h with h | ⟨ht, b, hq, hB', hb⟩
  · exact Or.inl h
  · exact Or.inr ⟨ht, b, hq, Nat.le_trans hB hB', hb⟩

/-- 'zzConfig', the world written out. -/
theorem config_x (a0 : ByteArray) (a1 : ByteArray) (a2 : ByteArray) (a3 : Int) (a4 : ByteArray) (a5 : ByteArray) (a6 : ByteArray) (a7 : ByteArray) (a8 : ByteArray) (a9 : ByteArray) (a10 : ByteArray) (w : World) :
    Calls Trym.prog 11 #[.agg #[.string a0, .string a1, .string a2, .int .i64 a3, .string a4, .string a5, .string a6, .string a7, .string a8, .string a9, .string a10]] w fun e w' => e = .returned (.agg #[.string a0, .string a1, .string a2, .int .i64 a3, .string a4, .string a5, .string a6, .string a7, .string a8, .string a9, .string a10, .pointer none, .pointer none, .pointer none, .pointer none]) ∧ ∃ c1 c2 : Array Value, w' = (w.alloc (.cells c1 23)).alloc (.cells c2 42) := by
  have o1 : (#[.string a0, .string a1, .string a2, .int .i64 a3, .string a4, .string a5, .string a6, .string a7, .string a8, .string a9, .string a10, .pointer none, .pointer none, .pointer none, .pointer none] : Array Value).all (·.oneCell') = true := by simp [Value.oneCell']
  have O1 : Hid _ := o1
  clear o1
  go_enter Trym.func11, Trym.ntmps11
  go_wp2_with (refine wpList_store_row rfl 42 _ _ rfl (w.heap.size + 1) #[.string a0, .string a1, .string a2, .int .i64 a3, .string a4, .string a5, .string a6, .string a7, .string a8, .string a9, .string a10, .pointer none, .pointer none, .pointer none, .pointer none] rfl rfl 42 _ (heap_alloc2_new w _ _) (by kernel_rfl) rfl O1.out ?_)
  exact bodyPost_ret (v := .agg #[.string a0, .string a1, .string a2, .int .i64 a3, .string a4, .string a5, .string a6, .string a7, .string a8, .string a9, .string a10, .pointer none, .pointer none, .pointer none, .pointer none]) (results_cell_row Trym.results11 _ _ (w.heap.size + 1) 42 #[.string a0, .string a1, .string a2, .int .i64 a3, .string a4, .string a5, .string a6, .string a7, .string a8, .string a9, .string a10, .pointer none, .pointer none, .pointer none, .pointer none] (0, 0) _ rfl (by rw [setRow_alloc2]; exact heap_alloc2_new w _ _) Trym.underlying42 rfl (by kernel_rfl)) rfl ⟨rfl, _, _, setRow_alloc2 _ _ _ _ _⟩

/-- 'zzPaths', the world written out. -/
theorem paths_x (p0 : ByteArray) (p1 : ByteArray) (p2 : ByteArray) (p3 : ByteArray) (p4 : ByteArray) (p5 : ByteArray) (p6 : ByteArray) (p7 : ByteArray) (p8 : ByteArray) (p9 : ByteArray) (p10 : ByteArray) (w : World) :
    Calls Trym.prog 12 #[.agg #[.string p0, .string p1, .string p2, .string p3, .string p4, .string p5, .string p6, .string p7, .string p8, .string p9, .string p10]] w fun e w' => e = .returned (.agg #[.string p0, .string p1, .string p2, .string p3, .string p4, .string p5, .string p6, .string p7, .string p8, .string p9, .string p10]) ∧ ∃ c1 c2 : Array Value, w' = (w.alloc (.cells c1 25)).alloc (.cells c2 44) := by
  have o1 : (#[.string p0, .string p1, .string p2, .string p3, .string p4, .string p5, .string p6, .string p7, .string p8, .string p9, .string p10] : Array Value).all (·.oneCell') = true := by simp [Value.oneCell']
  have O1 : Hid _ := o1
  clear o1
  go_enter Trym.func12, Trym.ntmps12
  go_wp2_with (refine wpList_store_row rfl 44 _ _ rfl (w.heap.size + 1) #[.string p0, .string p1, .string p2, .string p3, .string p4, .string p5, .string p6, .string p7, .string p8, .string p9, .string p10] rfl rfl 44 _ (heap_alloc2_new w _ _) (by kernel_rfl) rfl O1.out ?_)
  exact bodyPost_ret (v := .agg #[.string p0, .string p1, .string p2, .string p3, .string p4, .string p5, .string p6, .string p7, .string p8, .string p9, .string p10]) (results_cell_row Trym.results12 _ _ (w.heap.size + 1) 44 #[.string p0, .string p1, .string p2, .string p3, .string p4, .string p5, .string p6, .string p7, .string p8, .string p9, .string p10] (0, 0) _ rfl (by rw [setRow_alloc2]; exact heap_alloc2_new w _ _) Trym.underlying44 rfl (by kernel_rfl)) rfl ⟨rfl, _, _, setRow_alloc2 _ _ _ _ _⟩

/-- 'ZZserverSettings', with TLS or without. -/
theorem server_any (a0 : ByteArray) (a1 : ByteArray) (a2 : ByteArray) (a3 : Int) (a4 : ByteArray) (a5 : ByteArray) (a6 : ByteArray) (a7 : ByteArray) (a8 : ByteArray) (a9 : ByteArray) (a10 : ByteArray) (p0 : ByteArray) (p1 : ByteArray) (p2 : ByteArray) (p3 : ByteArray) (p4 : ByteArray) (p5 : ByteArray) (p6 : ByteArray) (p7 : ByteArray) (p8 : ByteArray) (p9 : ByteArray) (p10 : ByteArray) (w : World) :
    Calls Trym.prog 10 #[.agg #[.string a0, .string a1, .string a2, .int .i64 a3, .string a4, .string a5, .string a6, .string a7, .string a8, .string a9, .string a10, .pointer none, .pointer none, .pointer none, .pointer none], .agg #[.string p0, .string p1, .string p2, .string p3, .string p4, .string p5, .string p6, .string p7, .string p8, .string p9, .string p10]] w fun e w' => ∃ q : Option Addr, e = .returned (.agg #[.int .i64 a3, .string p4, .string ⟨#[42]⟩, .string ⟨#[]⟩, .bool false, .slice none 0 0, .bool false, .int .i64 300, .int .i64 0, .int .i64 0, .int .i64 0, .pointer q, .pointer none]) ∧ Cert (isTLS a6) q w.heap.size p9 p10 w' ∧ Grown w w' := by
  cases ht : isTLS a6 with
  | false =>
    refine (zzServer_no a0 a1 a2 a3 a4 a5 a6 a7 a8 a9 a10 p0 p1 p2 p3 p4 p5 p6 p7 p8 p9 p10 w ht).mono ?_
    rintro e w' ⟨rfl, hg⟩
    exact ⟨none, rfl, Or.inl ⟨rfl, rfl⟩, hg⟩
  | true =>
    refine (zzServer_yes a0 a1 a2 a3 a4 a5 a6 a7 a8 a9 a10 p0 p1 p2 p3 p4 p5 p6 p7 p8 p9 p10 w ht).mono ?_
    rintro e w' ⟨b, rfl, hb, hc, hg⟩
    exact ⟨some ⟨b, 0, none⟩, rfl, Or.inr ⟨rfl, b, rfl, hb, hc⟩, hg⟩
end Go.Proofs.Qxb6613092aMods.Sx
