/-
  WALKS: ZZnewQueue, its walk.
-/
import Derived.Test.Qxb6609385aNewQ
import Derived.Test.Qxb6609385aLaw3
namespace Go.Proofs.Qxb6609385a
open Go.RowKit
set_option linter.unusedVariables false
set_option maxRecDepth 100000

def ints (zs : List Int) : List Value := zs.map fun z => Value.int .i64 z
theorem ints_length (zs : List Int) : (ints zs).length = zs.length := by simp [ints]
theorem ints_get {zs : List Int} {k : Nat} (hk : k < zs.length) : (ints zs)[k]? = some (.int .i64 (zs.getD k 0)) := by
  unfold ints
  simp [List.getD, hk]
def allFit (zs : List Int) : Prop := ∀ k, k < zs.length → inTime (zs.getD k 0)

theorem fill_queue {w0 wr : World} {qb : Nat} {R : Int} {zs : List Int} {k : Nat} {v : Value} {ms : List Msg} (h : Fill w0 qb R zs k v ms wr) (hk : k = zs.length) (h6 : k ≤ 65536) (hf : allFit zs) : Queue qb wr qb R ms := by
  obtain ⟨f1, f2, f3, f4, f5, f6⟩ := h
  have hm : ∀ m ∈ ms, m.ok wr ∧ inTime m.sent ∧ qb ≤ m.blk := by
    intro m hm
    obtain ⟨j, hj, e⟩ := List.getElem_of_mem hm
    have e2 : ms.getD j Msg.zero = m := by simp [List.getD, hj, e]
    refine ⟨(f5 m hm).1.ok, ?_, by have := (f5 m hm).2; omega⟩
    have := (f2 j (by omega)).2
    rw [e2] at this
    rw [this]
    exact hf j (by omega)
  rcases f4.2 with ⟨rfl, e2⟩ | ⟨g, cap, cur, rfl, e2, e3, e4⟩
  · have hl : ms.length = 0 := by
      rcases e2 with e2 | e2 <;> simp_all
    exact ⟨none, 0, by rw [hl]; exact f3, Nat.le_refl _, by omega, hm, .inl (List.eq_nil_of_length_eq_zero hl)⟩
  · have hne : ∀ (b : Nat) (cs : Array Value) (t : TypeId), wr.heap[b]? = some (.cells cs t (0, 0)) → t ≠ 60 → b ≠ g := by
      intro b cs t hb ht e
      subst e
      rw [hb] at e3
      simp at e3
      exact ht e3.2
    refine ⟨some ⟨g, 0, none⟩, cap, by rw [f1]; exact f3, Nat.le_refl _, by omega, hm, .inr ⟨g, rfl, by omega, by omega, ?_, cur, e3, by have := e4.2.2.1; omega, by omega, ?_⟩⟩
    · intro m hmm
      exact ⟨hne _ _ _ (f5 m hmm).1 (by decide), by have := (f5 m hmm).2; omega⟩
    · intro j hj
      have h4 := e4.2.2.2
      have h5 : (List.take (k * 1) cur.toList)[j]? = (List.map Msg.ptr ms)[j]? := by rw [h4]
      rw [List.getElem?_take, if_pos (by omega)] at h5
      simpa [List.getD, hj] using h5

theorem add_sent (z : Int) (w : World) (hz : inTime z) :
    Calls Try.prog 30 #[.agg #[.int .u64 0, .int .i64 0, .pointer none], .int .i64 z] w fun e w' => e = .returned (.agg #[.int .u64 (z % 1000000000), .int .i64 (z / 1000000000), .pointer none]) ∧ Below w.heap.size w w' := by
  have ha := add_any 0 z w (by decide) (by decide) (by have := hz.1; omega) (by have := hz.2; omega)
  rw [Int.zero_add] at ha
  exact ha

theorem fill_own {w0 wr w1 : World} {qb k : Nat} {R : Int} {zs : List Int} {v : Value} {ms : List Msg} {o1 o2 : Obj} (h : Fill w0 qb R zs k v ms wr) (hb1 : Below wr.drew.heap.size wr.drew w1) :
    ((w1.alloc o1).alloc o2).ownsRow (qb + 1) 60 1 v k (ms.map Msg.ptr) := by
  have hb1' : Below wr.heap.size wr w1 := ⟨hb1.os, hb1.tape, hb1.output, hb1.size, hb1.block⟩
  exact World.ownsRow.alloc (World.ownsRow.alloc (ownsRow_below h.2.2.2.1 hb1') _) _
theorem fill_new (w1 : World) (o1 : Obj) (u : Value) : ∀ j x, [u][j]? = some x → ((w1.alloc o1).alloc (.cells #[u] 60)).cell? ((⟨w1.heap.size + 1, 0, none⟩ : Addr).add j) = some x := by
  have h := cell_one_new (w1.alloc o1) u 60
  simpa using h

set_option maxHeartbeats 2000000 in
theorem newQueue_any (pa : Option Addr) (zs : List Int) (n : Nat) (R : Int) (w : World) (hn : n ≤ 65536) (hl : zs.length = n) (hp : Lies w pa (ints zs)) (hf : allFit zs) :
    Calls Try.prog 21 #[.slice pa n n, .int .i64 R] w fun e w' => ∃ ms v, e = .returned (.pointer (some ⟨w.heap.size, 0, none⟩)) ∧ Queue w.heap.size w' w.heap.size R ms ∧ Fill w w.heap.size R zs n v ms w' := by
  obtain ⟨i0, hi, hz0, hz1, hz2⟩ := info_parts info60
  have HL := hideX hl
  have HP := hideX hp
  have HF := hideX hf
  clear hl hp hf
  go_enter Try.func21, Try.ntmps21
  go_wp2
  go_loopw [6] (fun i wr => ∃ k v ms, k ≤ n ∧ i = .int .i64 (k : Int) ∧ Fill w w.heap.size R zs k v ms wr) (fun i _ => n - (intOf i).toNat)
  case atStart =>
    refine ⟨0, .slice none 0 0, [], Nat.zero_le _, rfl, rfl, fun j hj => absurd hj (by omega), ?_, ?_, fun m hm => by simp at hm, ?_⟩
    · exact heap_alloc_new _ _
    · exact World.ownsRow_nil _ _ _ _
    · exact (Below.refl _ _).alloc (Nat.le_refl _) _
  case round =>
    obtain ⟨k, v, ms, hk, rfl, hfill⟩ := hrel
    by_cases hlt : k < n
    · obtain ⟨b, ha, hc⟩ := lies_pos HP.out (by rw [ints_length, HL.out]; omega)
      subst ha
      obtain ⟨z, hz⟩ : ∃ z, zs.getD k 0 = z := ⟨_, rfl⟩
      have hfit := HF.out k (by rw [HL.out]; omega)
      rw [hz] at hfit
      have cs : wr.cell? ⟨b, k, none⟩ = some (.int .i64 z) := by
        refine cell_keeps hfill.2.2.2.2.2 ?_
        rw [hc k _ (ints_get (by rw [HL.out]; omega)), hz]
      have cq : wr.cell? ⟨w.heap.size, 0, none⟩ = some v := by rw [cell_of_row wr _ 0 _ 59 (0, 0) hfill.2.2.1]; rfl
      have hqs : w.heap.size < wr.heap.size := (Array.getElem?_eq_some_iff.1 hfill.2.2.1).1
      have HADD := hideX (add_sent z wr.drew hfit)
      have HFI := hideX hfill
      have HZ := hideX hz
      clear hc hz hfit hfill
      have hkn : (k : Int) < (n : Int) := by omega
      go_wp2_with fail
      go_region_law (first | (refine step_append_own rfl (.tmp 20) (.tmp 30) 56 rfl (w.heap.size + 1) 60 i0 (.pointer none) 1 8 Try.underlying56 hi hz0 hz1 hz2 rfl (by decide) _ _ _ (by simp [Act.eval]) (fill_own HFI.out HB1.out) ⟨w1.heap.size + 1, 0, none⟩ 1 1 [.pointer (some ⟨w1.heap.size, 0, none⟩)] (by simp [Act.eval]) rfl (fill_new _ _ _) (by intro u hu; simp at hu; subst hu; rfl) (by unfold maxLen; omega) (by omega) (by simp; omega) ?_; intro v' w2 hown2 hgrow2 hnil2; obtain ⟨g, cap, hv'⟩ := own_shape hown2 (fun e => absurd (hnil2.1 e).2 (by decide)); subst hv'; obtain ⟨t1, t2, t3⟩ := fill_step HFI.out HZ.out HB1.out hown2 hgrow2; have R1 := hideX t1; clear t1 hown2 hgrow2 hnil2) | (go_simp; go_at_call 30; refine Calls.mono HADD.out ?_; rintro e w1 ⟨rfl, hb1⟩; have cq1 : w1.cell? ⟨w.heap.size, 0, none⟩ = some v := cell_keeps hb1 cq; have hqs1 : w.heap.size < w1.heap.size := Nat.lt_of_lt_of_le hqs hb1.size; have HB1 := hideX hb1; clear hb1))
      all_goals go_wp2
      all_goals go_roundw
      all_goals first | exact ⟨k + 1, _, _, by omega, by go_num, R1.out⟩ | (simp [intOf]; omega)
    · have ek : k = n := by omega
      subst ek
      have HQ := hideX (fill_queue hfill HL.out.symm hn HF.out)
      have HFI := hideX hfill
      clear hfill
      go_wp2
      go_ret
      exact ⟨ms, v, rfl, HQ.out, HFI.out⟩
end Go.Proofs.Qxb6609385a
