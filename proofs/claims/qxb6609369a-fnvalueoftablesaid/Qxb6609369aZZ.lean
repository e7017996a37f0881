/-
  WALKS shared by the seat's two statements, on: ZZvalueOf.
-/
import Derived.Test.Qxb6609369aOut
namespace Go.Proofs.Qxb6609369a
open Go.RowKit

theorem keep_block {w w1 w2 : World} {o : Obj} (h1 : Below (w.alloc o).heap.size (w.alloc o) w1) (h2 : Below w1.heap.size w1 w2) : w2.heap[w.heap.size]? = some o := by
  have hs := h1.size
  have e : (w.alloc o).heap.size = w.heap.size + 1 := by simp
  rw [h2.block _ (by omega), h1.block _ (by omega)]
  exact heap_alloc_new w o
theorem below_row {B g : Nat} {w0 w : World} (hb : Below B w0 w) (hBg : B ≤ g) (cs : Array Value) : Below B w0 (w.setRow g cs) :=
  hb.trans ⟨rfl, rfl, rfl, by simp, fun k hk => setRow_other w g k cs (by omega)⟩
theorem below_two {w w1 w2 : World} {o : Obj} (h1 : Below (w.alloc o).heap.size (w.alloc o) w1) (h2 : Below w1.heap.size w1 w2) : Below w.heap.size w w2 := by
  have hs := h1.size
  have e : (w.alloc o).heap.size = w.heap.size + 1 := by simp
  exact (((Below.refl _ _).alloc (Nat.le_refl _) o).trans (h1.mono (by omega))).trans (h2.mono (by omega))

set_option maxHeartbeats 1000000 in
theorem zzValueOf_any (s : ByteArray) (w : World) (hs : s.size ≤ 1048590) :
    Calls Try.prog 10 #[.string s] w fun e w' => e = .returned (.agg (argCells (⟨#[36]⟩ ++ shown s) s)) ∧ Below w.heap.size w w' := by
  obtain ⟨t, ht⟩ : ∃ t : ByteArray, (⟨#[36]⟩ ++ shown s : ByteArray) = t := ⟨_, rfl⟩
  have hv : ∀ w, Calls Try.prog 15 #[.string s] w fun e w' => e = .returned (.agg (argCells t s)) ∧ Below w.heap.size w w' := fun w => by
    rw [← ht]
    exact valueOf_any s w hs
  rw [ht]
  clear ht
  have HV : Hid _ := hv
  clear hv
  go_enter Try.func10, Try.ntmps10
  go_wp2_with (first | (go_at_call 15; refine (HV.out _).mono ?_; rintro e w1 ⟨rfl, hb1⟩) | (go_at_call 14; refine (argOut_any _ _ _).mono ?_; rintro e w2 ⟨rfl, hb2⟩) | (refine wpList_store_row rfl 27 (.tmp 2) (.tmp 5) rfl w.heap.size (argCells t s) rfl rfl 27 _ (keep_block hb1 hb2) (size27 _ _) rfl (argCells_one _ _) ?_))
  exact bodyPost_ret (v := .agg (argCells t s)) (results_cell_row Try.results10 _ _ w.heap.size 27 _ (0, 0) _ rfl (setRow_heap _ _ _ _ _ _ (keep_block hb1 hb2)) Try.underlying27 rfl (size27 _ _)) rfl ⟨rfl, below_row (below_two hb1 hb2) (Nat.le_refl _) _⟩
end Go.Proofs.Qxb6609369a
