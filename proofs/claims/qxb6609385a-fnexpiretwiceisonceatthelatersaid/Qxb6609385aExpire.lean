/-
  WALKS: (*queue).expire, ZZexpire.
-/
import Derived.Test.Qxb6609385aDelete
import Derived.Deep.RegionWith
namespace Go.Proofs.Qxb6609385a
open Go.RowKit
set_option linter.unusedVariables false
set_option maxRecDepth 100000

/-- a queue at block qb, all its blocks at or behind B: its messages, its retention; nothing gone. -/
def Queue (B : Nat) (w : World) (qb : Nat) (R : Int) (ms : List Msg) : Prop :=
  ∃ a c, w.heap[qb]? = some (.cells #[.slice a ms.length c, .slice none 0 0, .int .i64 R, .map none, .bool false] 59 (0, 0)) ∧ B ≤ qb ∧ ms.length ≤ 65536 ∧
    (∀ m ∈ ms, m.ok w ∧ inTime m.sent ∧ B ≤ m.blk) ∧
    (ms = [] ∨ ∃ Mb, a = some ⟨Mb, 0, none⟩ ∧ B ≤ Mb ∧ Mb ≠ qb ∧ (∀ m ∈ ms, m.blk ≠ Mb ∧ m.blk ≠ qb) ∧ Ptrs w Mb c ms)

theorem Queue.later {B : Nat} {w w' : World} {qb : Nat} {R : Int} {ms : List Msg} (h : Queue B w qb R ms) (hb : Below w.heap.size w w') : Queue B w' qb R ms := by
  obtain ⟨a, c, h1, h2, h3, h4, h5⟩ := h
  refine ⟨a, c, (hb.block _ (Array.getElem?_eq_some_iff.1 h1).1).trans h1, h2, h3, fun m hm => ⟨(h4 m hm).1.later hb, (h4 m hm).2⟩, ?_⟩
  rcases h5 with h5 | ⟨Mb, e1, e2, e3, e4, cur, e5, e6⟩
  · exact .inl h5
  · exact .inr ⟨Mb, e1, e2, e3, e4, cur, (hb.block _ (Array.getElem?_eq_some_iff.1 e5).1).trans e5, e6⟩
theorem Queue.lt {B : Nat} {w : World} {qb : Nat} {R : Int} {ms : List Msg} (h : Queue B w qb R ms) : qb < w.heap.size := by
  obtain ⟨a, c, h1, _⟩ := h
  exact (Array.getElem?_eq_some_iff.1 h1).1

theorem getD_mem {ms : List Msg} {j : Nat} (hj : j < ms.length) : ms.getD j Msg.zero ∈ ms := by
  simp only [List.getD, List.getElem?_eq_getElem hj, Option.getD_some]
  exact List.getElem_mem hj
theorem kept_mem {A R : Int} {ms : List Msg} {m : Msg} (h : m ∈ kept A R ms) : m ∈ ms := (List.mem_filter.1 h).1

/-- the world behind the two boxes. -/
def boxed (w : World) (qb : Nat) (A : Int) : World := (w.alloc (.cells #[.pointer (some ⟨qb, 0, none⟩)] 39)).alloc (.cells (timeC A) 64)
theorem boxed_size (w : World) (qb : Nat) (A : Int) : (boxed w qb A).heap.size = w.heap.size + 2 := by simp [boxed]
theorem boxed_below (w : World) (qb : Nat) (A : Int) : Below w.heap.size w (boxed w qb A) := ((Below.refl _ _).alloc (Nat.le_refl _) _).alloc (by simp) _
theorem boxed_q (w : World) (qb : Nat) (A : Int) : (boxed w qb A).cell? ⟨w.heap.size, 0, none⟩ = some (.pointer (some ⟨qb, 0, none⟩)) := by simp [boxed]
theorem boxed_n (w : World) (qb : Nat) (A : Int) (i : Nat) : (boxed w qb A).cell? ⟨w.heap.size + 1, i, none⟩ = (timeC A)[i]? := by
  unfold boxed
  exact cell_of_row _ _ _ _ _ _ (heap_alloc2_new _ _ _)
theorem queue_row {w w1 : World} {qb c k : Nat} {a a' : Option Addr} {R : Int} {n : Nat} (h : w.heap[qb]? = some (.cells #[.slice a n c, .slice none 0 0, .int .i64 R, .map none, .bool false] 59 (0, 0))) :
    (w.setCell ⟨qb, 0, none⟩ (.slice a' k c)).heap[qb]? = some (.cells #[.slice a' k c, .slice none 0 0, .int .i64 R, .map none, .bool false] 59 (0, 0)) := by
  rw [heap_setCell_same w qb 0 _ 59 _ h]
  rfl

theorem close_none {B : Nat} {w W : World} {qb c : Nat} {a : Option Addr} {R : Int} (hr : W.heap[qb]? = some (.cells #[.slice a 0 c, .slice none 0 0, .int .i64 R, .map none, .bool false] 59 (0, 0))) (hB : B ≤ qb) (hqs : qb < w.heap.size) (hb : Below w.heap.size w W) :
    Queue B (W.setCell ⟨qb, 0, none⟩ (.slice a 0 c)).drew qb R [] ∧ Below B w (W.setCell ⟨qb, 0, none⟩ (.slice a 0 c)).drew :=
  ⟨⟨a, c, queue_row (w1 := w) hr, hB, by simp, fun m hm => by simp at hm, .inl rfl⟩, (Below.setCell (hb.mono (by omega)) (p := ⟨qb, 0, none⟩) hB _).drew⟩

set_option maxHeartbeats 1000000 in
theorem expire_none (B : Nat) (w : World) (qb : Nat) (A R : Int) (h : Queue B w qb R []) :
    Calls Try.prog 31 #[.pointer (some ⟨qb, 0, none⟩), .agg (timeC A)] w fun e w' => e = .returned (.tuple #[]) ∧ Queue B w' qb R [] ∧ Below B w w' := by
  obtain ⟨a, c, h1, h2, h3, h4, h5⟩ := h
  have hqs : qb < w.heap.size := (Array.getElem?_eq_some_iff.1 h1).1
  have hb := boxed_below w qb A
  have r1 := (hb.block _ hqs).trans h1
  have c0 : (boxed w qb A).cell? ⟨qb, 0, none⟩ = some (.slice a 0 c) := by rw [cell_of_row _ qb 0 _ 59 (0, 0) r1]; rfl
  have cz : (boxed w qb A).frozen? ⟨qb, 0, none⟩ = false := frozen_of_row _ qb 0 _ 59 r1
  have cq := boxed_q w qb A
  have HR := hideX r1
  have HB := hideX h2
  have HBX := hideX hb
  clear h1 h2 h3 h4 h5 hb r1
  go_enter Try.func31, Try.ntmps31
  unfold timeC
  go_wp2
  rw [show ((w.alloc (.cells #[.pointer (some ⟨qb, 0, none⟩)] 39)).alloc (.cells #[.int .u64 (A % 1000000000), .int .i64 (A / 1000000000), .pointer none] 64)) = boxed w qb A from rfl]
  obtain ⟨W, hW⟩ : ∃ W, boxed w qb A = W := ⟨_, rfl⟩
  rw [hW] at c0 cz cq HR HBX ⊢
  clear hW
  go_region_with (first | (go_at_call 37; refine (delete_none _ _ _ _).mono ?_; rintro e w' ⟨rfl, hw⟩; rw [hw]; clear hw))
  all_goals (go_end0; exact ⟨rfl, close_none HR.out HB.out hqs HBX.out⟩)

end Go.Proofs.Qxb6609385a
