/-
  WALKS: (*queue).expire with messages; ZZexpire.
-/
import Derived.Test.Qxb6609385aExpire
namespace Go.Proofs.Qxb6609385a
open Go.RowKit
set_option linter.unusedVariables false
set_option maxRecDepth 100000

/-- the messages' row of a queue whose first message is there. -/
theorem expire_world {B : Nat} {w W w1 : World} {qb Mb c : Nat} {A R : Int} {ms : List Msg} {a : Option Addr} (hW : Below w.heap.size w W) (hrow : W.heap[qb]? = some (.cells #[.slice a ms.length c, .slice none 0 0, .int .i64 R, .map none, .bool false] 59 (0, 0)))
    (hB : B ≤ qb) (hqs : qb < w.heap.size) (hn : ms.length ≤ 65536) (hms : ∀ m ∈ ms, m.ok W ∧ inTime m.sent ∧ B ≤ m.blk) (hMB : B ≤ Mb) (hMq : Mb ≠ qb) (hne : ∀ m ∈ ms, m.blk ≠ Mb ∧ m.blk ≠ qb)
    (hp : Ptrs w1 Mb c (kept A R ms)) (hbut : But Mb W.drew w1) :
    Queue B (w1.setCell ⟨qb, 0, none⟩ (.slice (some ⟨Mb, 0, none⟩) (kept A R ms).length c)) qb R (kept A R ms) ∧ Below B w (w1.setCell ⟨qb, 0, none⟩ (.slice (some ⟨Mb, 0, none⟩) (kept A R ms).length c)) := by
  have hqW : qb < W.drew.heap.size := (Array.getElem?_eq_some_iff.1 hrow).1
  have hrow1 : w1.heap[qb]? = some (.cells #[.slice a ms.length c, .slice none 0 0, .int .i64 R, .map none, .bool false] 59 (0, 0)) := (hbut.block qb hqW hMq.symm).trans hrow
  have hset : ∀ k, k ≠ qb → (w1.setCell ⟨qb, 0, none⟩ (.slice (some ⟨Mb, 0, none⟩) (kept A R ms).length c)).heap[k]? = w1.heap[k]? := fun k hk => Below.heap_setCell _ _ _ _ hk
  refine ⟨⟨some ⟨Mb, 0, none⟩, c, queue_row (w1 := w) hrow1, hB, Nat.le_trans (kept_le A R ms) hn, ?_, .inr ⟨Mb, rfl, hMB, hMq, fun m hm => hne m (kept_mem hm), ?_⟩⟩, ?_⟩
  · intro m hm
    obtain ⟨o1, o2, o3⟩ := hms m (kept_mem hm)
    have o4 : m.ok W.drew := o1
    have hb := hne m (kept_mem hm)
    exact ⟨(o4.but hbut hb.1).but (But.setCell qb 0 w1 _) hb.2, o2, o3⟩
  · obtain ⟨cur, e1, e2⟩ := hp
    exact ⟨cur, (hset Mb hMq).trans e1, e2⟩
  · have hWd : Below w.heap.size w W.drew := hW.drew
    refine ⟨hbut.os.trans hWd.os, hbut.tape.trans hWd.tape, hbut.output.trans hWd.output, ?_, fun k hk => ?_⟩
    · have := hbut.size
      have := hWd.size
      simp [World.setCell]
      omega
    · have hkw : k < w.heap.size := by omega
      rw [hset k (by omega), hbut.block k (Nat.lt_of_lt_of_le hkw hWd.size) (by omega), hWd.block k hkw]

set_option maxHeartbeats 2000000 in
theorem expire_some (B : Nat) (w : World) (qb : Nat) (A R : Int) (ms : List Msg) (hA : inTime A) (a : Option Addr) (c Mb : Nat)
    (h1 : w.heap[qb]? = some (.cells #[.slice (some ⟨Mb, 0, none⟩) ms.length c, .slice none 0 0, .int .i64 R, .map none, .bool false] 59 (0, 0))) (h2 : B ≤ qb) (h3 : ms.length ≤ 65536)
    (h4 : ∀ m ∈ ms, m.ok w ∧ inTime m.sent ∧ B ≤ m.blk) (e2 : B ≤ Mb) (e3 : Mb ≠ qb) (e4 : ∀ m ∈ ms, m.blk ≠ Mb ∧ m.blk ≠ qb) (e5 : Ptrs w Mb c ms) :
    Calls Try.prog 31 #[.pointer (some ⟨qb, 0, none⟩), .agg (timeC A)] w fun e w' => e = .returned (.tuple #[]) ∧ Queue B w' qb R (kept A R ms) ∧ Below B w w' := by
  have hqs : qb < w.heap.size := (Array.getElem?_eq_some_iff.1 h1).1
  have hb := boxed_below w qb A
  have hsz := boxed_size w qb A
  have r1 := (hb.block _ hqs).trans h1
  have hMs : Mb < w.heap.size := by obtain ⟨cur, q1, _⟩ := e5; exact (Array.getElem?_eq_some_iff.1 q1).1
  have p5 : Ptrs (boxed w qb A) Mb c ms := by obtain ⟨cur, q1, q2⟩ := e5; exact ⟨cur, (hb.block _ hMs).trans q1, q2⟩
  have hms : ∀ m ∈ ms, m.ok (boxed w qb A) ∧ inTime m.sent ∧ B ≤ m.blk := fun m hm => ⟨(h4 m hm).1.later hb, (h4 m hm).2⟩
  have c0 : (boxed w qb A).cell? ⟨qb, 0, none⟩ = some (.slice (some ⟨Mb, 0, none⟩) ms.length c) := by rw [cell_of_row _ qb 0 _ 59 (0, 0) r1]; rfl
  have c2 : (boxed w qb A).cell? ⟨qb, 2, none⟩ = some (.int .i64 R) := by rw [cell_of_row _ qb 2 _ 59 (0, 0) r1]; rfl
  have cq := boxed_q w qb A
  have hbx : Boxes (boxed w qb A) (w.heap.size + 1) w.heap.size qb A R := ⟨boxed_n w qb A 0, boxed_n w qb A 1, boxed_n w qb A 2, cq, c2⟩
  obtain ⟨W, hW⟩ : ∃ W, boxed w qb A = W := ⟨_, rfl⟩
  have hWeq := hW
  rw [hW] at hb hsz r1 p5 hms c0 c2 cq hbx
  have hdel := delete_some Mb ms.length c (w.heap.size + 1) w.heap.size qb A R ms W.drew h3 hA rfl hbx (by omega) (by omega) e3.symm (fun j hj => ⟨(hms _ (getD_mem hj)).1, (hms _ (getD_mem hj)).2.1, (e4 _ (getD_mem hj)).1⟩) p5
  have fin : ∀ w1, Ptrs w1 Mb c (kept A R ms) → But Mb W.drew w1 → Queue B (w1.setCell ⟨qb, 0, none⟩ (.slice (some ⟨Mb, 0, none⟩) (kept A R ms).length c)) qb R (kept A R ms) ∧ Below B w (w1.setCell ⟨qb, 0, none⟩ (.slice (some ⟨Mb, 0, none⟩) (kept A R ms).length c)) :=
    fun w1 hp hbut => expire_world hb r1 h2 hqs h3 hms e2 e3 e4 hp hbut
  have after : ∀ w1, But Mb W.drew w1 → w1.cell? ⟨w.heap.size, 0, none⟩ = some (.pointer (some ⟨qb, 0, none⟩)) ∧ w1.cell? ⟨qb, 0, none⟩ = some (.slice (some ⟨Mb, 0, none⟩) ms.length c) ∧ w1.frozen? ⟨qb, 0, none⟩ = false := by
    intro w1 hbut
    have rr : w1.heap[qb]? = _ := (hbut.block qb (Array.getElem?_eq_some_iff.1 r1).1 e3.symm).trans r1
    refine ⟨hbut.cell (w := W.drew) cq (by show w.heap.size ≠ Mb; omega), hbut.cell (w := W.drew) c0 (by show qb ≠ Mb; exact e3.symm), frozen_of_row _ qb 0 _ 59 rr⟩
  have cz : W.frozen? ⟨qb, 0, none⟩ = false := frozen_of_row _ qb 0 _ 59 r1
  obtain ⟨n, hnn⟩ : ∃ n, ms.length = n := ⟨_, rfl⟩
  obtain ⟨K, hK⟩ : ∃ K, (kept A R ms).length = K := ⟨_, rfl⟩
  rw [hK] at hdel fin
  rw [hnn] at hdel after c0
  unfold clo at hdel
  have HD := hideX hdel
  have HF := hideX fin
  have HAF := hideX after
  have HWE := hideX hWeq
  clear h1 h2 h3 h4 e2 e3 e4 e5 hb hsz r1 hMs p5 hms hbx hdel fin after hA hnn hK c2 hW hWeq
  go_enter Try.func31, Try.ntmps31
  unfold timeC
  go_wp2
  rw [show ((w.alloc (.cells #[.pointer (some ⟨qb, 0, none⟩)] 39)).alloc (.cells #[.int .u64 (A % 1000000000), .int .i64 (A / 1000000000), .pointer none] 64)) = W from HWE.out]
  clear HWE
  go_region_with (first | (go_at_call 37; refine Calls.mono HD.out ?_; rintro e w1 ⟨rfl, hp1, hb1⟩; obtain ⟨d1, d2, d3⟩ := HAF.out w1 hb1; have HP1 := hideX hp1; have HB1 := hideX hb1; clear hp1 hb1))
  all_goals (go_end0; exact ⟨rfl, HF.out _ HP1.out HB1.out⟩)
end Go.Proofs.Qxb6609385a
