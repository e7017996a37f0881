/-
  WALKS: ZZnewExpressionsPairFrom; the law FnNewExpressionsGivesEachCallItsOwnMarks.
-/
import Derived.Test.Qxb6609385aBytes
import Derived.Laws.CopyOwn
import Derived.Deep.DeepCutAuto
import Derived.Deep.WholeRow
namespace Go.Proofs.Qxb6609385a
open Go.RowKit
set_option linter.unusedVariables false
set_option maxRecDepth 100000

/-- the two records as they lie: e1 at s + 2, e2 at s + 5; the names at nb; the sets: what they read as. -/
structure Recs (w : World) (s nb m : Nat) (gN : ByteArray → Option Value) (a : Nat) (gU : ByteArray → Option Value) (b : Nat) (gD : ByteArray → Option Value) : Prop where
  c1 : w.heap[s + 2]? = some (.cells #[.map (some nb), .map none, .map (some s), .map (some (s + 1))] 53 (0, 0))
  c2 : w.heap[s + 5]? = some (.cells #[.map (some nb), .map none, .map (some (s + 3)), .map (some (s + 4))] 53 (0, 0))
  names : MapIs w nb m gN
  u1 : MapIs w s a gU
  d1 : MapIs w (s + 1) 0 (fun _ => none)
  u2 : MapIs w (s + 3) 0 (fun _ => none)
  d2 : MapIs w (s + 4) b gD
  lt : nb < s

theorem cell1 {w : World} {s nb m a b : Nat} {gN gU gD : ByteArray → Option Value} (h : Recs w s nb m gN a gU b gD) (i : Nat) : w.cell? ⟨s + 2, i, none⟩ = (#[.map (some nb), .map none, .map (some s), .map (some (s + 1))] : Array Value)[i]? := cell_of_row _ _ _ _ _ _ h.c1
theorem cell2 {w : World} {s nb m a b : Nat} {gN gU gD : ByteArray → Option Value} (h : Recs w s nb m gN a gU b gD) (i : Nat) : w.cell? ⟨s + 5, i, none⟩ = (#[.map (some nb), .map none, .map (some (s + 3)), .map (some (s + 4))] : Array Value)[i]? := cell_of_row _ _ _ _ _ _ h.c2

theorem recs_used {w w' : World} {s nb m b : Nat} {gN gD gU : ByteArray → Option Value} (h : Recs w s nb m gN 0 (fun _ => none) b gD) (hp : Put w w' s) (hm : MapIs w' s 1 gU) : Recs w' s nb m gN 1 gU b gD :=
  ⟨(hp.block _ (by omega)).trans h.c1, (hp.block _ (by omega)).trans h.c2, h.names.of_block (hp.block _ (by have := h.lt; omega)), hm, h.d1.of_block (hp.block _ (by omega)), h.u2.of_block (hp.block _ (by omega)), h.d2.of_block (hp.block _ (by omega)), h.lt⟩
theorem recs_named {w w' : World} {s nb m a : Nat} {gN gD gU : ByteArray → Option Value} (h : Recs w s nb m gN a gU 0 (fun _ => none)) (hp : Put w w' (s + 4)) (hm : MapIs w' (s + 4) 1 gD) : Recs w' s nb m gN a gU 1 gD :=
  ⟨(hp.block _ (by omega)).trans h.c1, (hp.block _ (by omega)).trans h.c2, h.names.of_block (hp.block _ (by have := h.lt; omega)), h.u1.of_block (hp.block _ (by omega)), h.d1.of_block (hp.block _ (by omega)), h.u2.of_block (hp.block _ (by omega)), hm, h.lt⟩

theorem size_rec (w : World) (nb : Nat) : (recWorld w nb).heap.size = w.heap.size + 3 := by simp [recWorld]
theorem below_rec (w : World) (nb : Nat) : Below w.heap.size w (recWorld w nb) := (((Below.refl _ _).alloc (Nat.le_refl _) _).alloc (by simp) _).alloc (by simp; omega) _
theorem rec_cells (w : World) (nb : Nat) : (recWorld w nb).heap[w.heap.size + 2]? = some (.cells #[.map (some nb), .map none, .map (some w.heap.size), .map (some (w.heap.size + 1))] 53 (0, 0)) := by
  have h := heap_alloc_new ((w.alloc (.map #[] 0)).alloc (.map #[] 0)) (.cells #[.map (some nb), .map none, .map (some w.heap.size), .map (some (w.heap.size + 1))] 53)
  simpa [recWorld] using h
theorem rec_map0 (w : World) (nb : Nat) : MapIs (recWorld w nb) w.heap.size 0 (fun _ => none) := by
  refine (mapIs_new w).of_block ?_
  unfold recWorld
  rw [Below.heap_alloc _ _ _ (by simp; omega), Below.heap_alloc _ _ _ (by simp)]
theorem rec_map1 (w : World) (nb : Nat) : MapIs (recWorld w nb) (w.heap.size + 1) 0 (fun _ => none) := by
  have h := mapIs_new (w.alloc (.map #[] 0))
  have e : (w.alloc (.map #[] 0)).heap.size = w.heap.size + 1 := by simp
  rw [e] at h
  refine h.of_block ?_
  unfold recWorld
  rw [Below.heap_alloc _ _ _ (by simp)]

theorem recs_made (w : World) (nb m : Nat) (gN : ByteArray → Option Value) (hm : MapIs w nb m gN) : Recs (recWorld (recWorld w nb) nb) w.heap.size nb m gN 0 (fun _ => none) 0 (fun _ => none) := by
  have hs := size_rec w nb
  have b1 := below_rec w nb
  have b2 := below_rec (recWorld w nb) nb
  have k2 := rec_cells (recWorld w nb) nb
  have m3 := rec_map0 (recWorld w nb) nb
  have m4 := rec_map1 (recWorld w nb) nb
  rw [hs] at k2 m3 m4
  exact ⟨(b2.block _ (by omega)).trans (rec_cells w nb), k2, (hm.of_block (b1.block _ hm.lt)).of_block (b2.block _ (by have := hm.lt; omega)), (rec_map0 w nb).of_block (b2.block _ (by omega)), (rec_map1 w nb).of_block (b2.block _ (by omega)), m3, m4, hm.lt⟩

set_option maxHeartbeats 1000000 in
theorem pair_any (ka va : Option Addr) (ks vs : List ByteArray) (n1 n2 : Nat) (w : World) (h1 : n1 ≤ 4096) (h2 : n2 ≤ 4096) (hl1 : ks.length = n1) (hl2 : vs.length = n2) (hk : Lies w ka (strs ks)) (hv : Lies w va (strs vs)) :
    Calls Try.prog 8 #[.slice ka n1 n1, .slice va n2 n2, .int .u8 1, .slice none 0 0, .slice none 0 0, .int .u8 0] w fun e w' => ∃ s nb m, e = .returned (.tuple #[.pointer (some ⟨s + 2, 0, none⟩), .pointer (some ⟨s + 5, 0, none⟩)]) ∧
      Recs w' s nb m (named ks vs (min n1 n2)) 0 (fun _ => none) 0 (fun _ => none) ∧ w.heap.size ≤ nb ∧ Below w.heap.size w w' := by
  have HB := hide2 (body_any ka va ks vs n1 n2 w h1 h2 hl1 hl2 hk hv)
  clear hl1 hl2 hk hv
  go_enter Try.func8, Try.ntmps8
  go_wp2_with fail
  refine Calls.mono HB.out ?_
  rintro e w1 ⟨rfl, ⟨n', hm1⟩, ⟨m, hm2⟩, hb1⟩
  have N1 := hide2 (newExpr_any w.heap.size n' (w.heap.size + 1) w1 hm1)
  have hb2 := below_rec w1 (w.heap.size + 1)
  have N2 := hide2 (newExpr_any w.heap.size n' (w.heap.size + 1) (recWorld w1 (w.heap.size + 1)) (hm1.of_block (hb2.block _ hm1.lt)))
  rw [size_rec] at N2
  have HR := hide2 (recs_made w1 (w.heap.size + 1) m _ hm2)
  have HBB : Hid (Below w.heap.size w (recWorld (recWorld w1 (w.heap.size + 1)) (w.heap.size + 1))) :=
    (hb1.trans (hb2.mono hb1.size)).trans ((below_rec _ _).mono (by rw [size_rec]; have := hb1.size; omega))
  clear hm1 hm2 hb1 hb2
  go_wp2_with fail
  refine Calls.mono N1.out ?_
  rintro e w' ⟨rfl, hw⟩
  rw [hw]
  clear hw
  go_wp2_with fail
  refine Calls.mono N2.out ?_
  rintro e w' ⟨rfl, hw⟩
  rw [hw]
  clear hw
  go_wp2
  go_ret2
  exact ⟨w1.heap.size, w.heap.size + 1, m, rfl, HR.out, by omega, HBB.out⟩
end Go.Proofs.Qxb6609385a
