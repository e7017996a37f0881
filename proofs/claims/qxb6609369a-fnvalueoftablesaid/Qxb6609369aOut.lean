/-
  WALKS shared by the seat's two statements, on: zzArgOut, ZZvalueOf.
-/
import Derived.Test.Qxb6609369aValue
namespace Go.Proofs.Qxb6609369a
open Go.RowKit

theorem setRow_alloc2_new (w : World) (A : Obj) (c c' : Array Value) (t : TypeId) : ((w.alloc A).alloc (.cells c t)).setRow (w.heap.size + 1) c' = (w.alloc A).alloc (.cells c' t) := by
  have := World.setRow_alloc_new (w.alloc A) c c' t
  simpa using this

set_option maxHeartbeats 2000000 in
theorem argOut_any (t s : ByteArray) (w : World) :
    Calls Try.prog 14 #[.agg (argCells t s)] w fun e w' => e = .returned (.agg (argCells t s)) ∧ Below w.heap.size w w' := by
  have hc : (.agg (argCells t s) : Value) = .agg #[.string t, .bool false, .bool false, .bool false, .bool false, .bool false, .bool false, .bool false, .string s, .bool false, .bool false, .bool false,
    .string ByteArray.empty, .string ByteArray.empty, .string ByteArray.empty, .string ByteArray.empty, .int .i64 0, .string ByteArray.empty, .string ByteArray.empty, .bool false, .bool false] := rfl
  conv => arg 3; rw [hc]
  clear hc
  go_enter Try.func14, Try.ntmps14
  go_wp2_with (first | (refine wpList_store_row rfl 27 (.tmp 2) (.tmp 49) rfl (w.heap.size + 1) (argCells t s) rfl rfl 27 _ (heap_alloc2_new _ _ _) (size27 _ _) rfl (argCells_one _ _) ?_; rw [setRow_alloc2_new]))
  exact bodyPost_ret (v := .agg (argCells t s)) (results_cell_row Try.results14 _ _ (w.heap.size + 1) 27 _ (0, 0) _ rfl (heap_alloc2_new _ _ _) Try.underlying27 rfl (size27 _ _)) rfl ⟨rfl, ((Below.refl _ _).alloc (Nat.le_refl _) _).alloc (by simp) _⟩
end Go.Proofs.Qxb6609369a
