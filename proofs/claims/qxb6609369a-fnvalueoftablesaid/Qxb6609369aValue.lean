/-
  WALKS shared by the seat's two statements, on: valueOf, zzArgOut, ZZvalueOf.
-/
import Derived.Test.Qxb6609369aShown
import Derived.Deep.WholeRow
namespace Go.Proofs.Qxb6609369a
open Go.RowKit

/-- the struct of 21 cells with a text and a name. -/
def argCells (t s : ByteArray) : Array Value :=
  #[.string t, .bool false, .bool false, .bool false, .bool false, .bool false, .bool false, .bool false, .string s, .bool false, .bool false, .bool false,
    .string ByteArray.empty, .string ByteArray.empty, .string ByteArray.empty, .string ByteArray.empty, .int .i64 0, .string ByteArray.empty, .string ByteArray.empty, .bool false, .bool false]

theorem shown_size (s : ByteArray) : (shown s).size ≤ s.size + 20 := by
  have h1 : sArgv.size = 9 := by decide
  have h2 : sAt.size = 1 := by decide
  have h3 : sArgvAll.size = 12 := by decide
  have h4 : sStar.size = 1 := by decide
  unfold shown
  split
  · split <;> omega
  · split
    · split <;> omega
    · omega
theorem shown_not (s : ByteArray) (h : isShown s = false) : shown s = s := by
  unfold isShown at h
  unfold shown
  simp at h
  simp [h]
theorem shown_yes (s : ByteArray) (h : isShown s = true) : shownOr s = shown s := by
  unfold shownOr
  rw [if_pos h]
theorem argCells_one (t s : ByteArray) : (argCells t s).all (·.oneCell') = true := by kernel_rfl
theorem size33 (t s : ByteArray) : (Try.prog.info? 33).map (·.size) = some (argCells t s).size := by kernel_rfl
theorem size27 (t s : ByteArray) : (Try.prog.info? 27).map (·.size) = some (argCells t s).size := by kernel_rfl

set_option maxHeartbeats 1000000 in
theorem valueOf_any (s : ByteArray) (w : World) (hs : s.size ≤ 1048590) :
    Calls Try.prog 15 #[.string s] w fun e w' => e = .returned (.agg (argCells (⟨#[36]⟩ ++ shown s) s)) ∧ Below w.heap.size w w' := by
  have hz := shown_size s
  cases h : isShown s
  · have h2 := shown_not s h
    rw [h2]
    clear h2 hz
    go_enter Try.func15, Try.ntmps15
    go_wp2_with (first | (go_at_call 17; refine (shownParams_any _ _ hs).mono ?_; rintro e w' ⟨rfl, rfl⟩) | (refine wpList_store_row rfl 33 (.tmp 2) (.tmp 17) rfl w.heap.size (argCells (⟨#[36]⟩ ++ s) s) rfl rfl 33 _ (heap_alloc_new _ _) (size33 _ _) rfl (argCells_one _ _) ?_; rw [World.setRow_alloc_new]))
    exact bodyPost_ret (v := .agg (argCells (⟨#[36]⟩ ++ s) s)) (results_cell_row Try.results15 _ _ w.heap.size 33 _ (0, 0) _ rfl (heap_alloc_new w _) Try.underlying33 rfl (size33 _ _)) rfl ⟨rfl, (Below.refl _ _).alloc (Nat.le_refl _) _⟩
  · have h2 := shown_yes s h
    obtain ⟨t, ht⟩ : ∃ t, shown s = t := ⟨_, rfl⟩
    rw [ht] at h2 hz ⊢
    clear ht
    go_enter Try.func15, Try.ntmps15
    go_wp2_with (first | (go_at_call 17; refine (shownParams_any _ _ hs).mono ?_; rintro e w' ⟨rfl, rfl⟩) | (refine wpList_store_row rfl 33 (.tmp 2) (.tmp 17) rfl w.heap.size (argCells (⟨#[36]⟩ ++ t) s) rfl rfl 33 _ (heap_alloc_new _ _) (size33 _ _) rfl (argCells_one _ _) ?_; rw [World.setRow_alloc_new]))
    exact bodyPost_ret (v := .agg (argCells (⟨#[36]⟩ ++ t) s)) (results_cell_row Try.results15 _ _ w.heap.size 33 _ (0, 0) _ rfl (heap_alloc_new w _) Try.underlying33 rfl (size33 _ _)) rfl ⟨rfl, (Below.refl _ _).alloc (Nat.le_refl _) _⟩
end Go.Proofs.Qxb6609369a
