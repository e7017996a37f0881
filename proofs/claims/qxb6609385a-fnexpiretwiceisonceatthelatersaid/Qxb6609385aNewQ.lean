/-
  WALKS: ZZnewQueue.
-/
import Derived.Test.Qxb6609385aExpireZ
import Derived.Deep.RegionLaw
namespace Go.Proofs.Qxb6609385a
open Go.RowKit
set_option linter.unusedVariables false
set_option maxRecDepth 100000

/-- append onto a row of the call's own, as one step of a region that draws. -/
theorem step_append_own {P : Program} {ops : Array Oper} {o : Oper} {a : Act} {w : World} {K : Act → World → Prop} {Q : Exit → Act → World → Prop} {E : Prop} (hg : o.guard = none) (s x : Operand) (t : TypeId)
    (ho : o.op = .call { callee := .builtin .append, args := #[s, x], argTypes := #[t, t] })
    (base : Nat) (e : TypeId) (i : TypeInfo) (z : Value) (size bytes : Nat) (ht : P.underlying t = some (.slice e)) (hi : P.info? e = some i) (hz : i.zero = some z)
    (hsize : i.size = size) (hby : i.bytes = bytes) (hzs : z.cells.size = size) (hsz : 0 < size)
    (v : Value) (n : Nat) (xs : List Value) (hs : a.eval s = v) (hown : w.ownsRow base e size v n xs)
    (ad : Addr) (m c : Nat) (news : List Value) (hx : a.eval x = .slice (some ad) m c) (hl : news.length = m * size) (hnews : ∀ j u, news[j]? = some u → w.cell? (ad.add j) = some u) (h1 : ∀ u ∈ news, u.oneCell' = true)
    (h63 : n + m ≤ maxLen) (hbytes : (n + m) * bytes ≤ 140737488355328) (hbase : base ≤ w.heap.size)
    (h : ∀ v' w', w'.ownsRow base e size v' (n + m) (xs ++ news) → w.grownBy w' v.ownBlock → (v' = .slice none 0 0 ↔ v = .slice none 0 0 ∧ m = 0) → K (a.put o.dst v') w') :
    if Region.wanted o (yielded ops a.tmps) = true then Oper.wp P o a w K Q else E := by
  rw [if_pos (by simp [Region.wanted, hg])]
  exact wp_append_own w s x t ho base e i z size bytes ht hi hz hsize hby hzs hsz v n xs hs hown ad m c news hx hl hnews h1 h63 hbytes hbase h

def qcells (v : Value) (R : Int) : Array Value := #[v, .slice none 0 0, .int .i64 R, .map none, .bool false]
def mcells (k : Nat) (z : Int) : Array Value :=
  #[.string ByteArray.empty, .string ByteArray.empty, .int .i64 (k : Int), .int .u64 (z % 1000000000), .int .i64 (z / 1000000000), .pointer none, .int .u64 0, .int .i64 0, .pointer none, .bool false, .string ByteArray.empty, .int .u64 0, .int .i64 0, .pointer none]
/-- the message's block lies in memory. -/
def Msg.lies (w : World) (m : Msg) : Prop := w.heap[m.blk]? = some (.cells (mcells m.seq m.sent) 67 (0, 0))
theorem Msg.lies.ok {w : World} {m : Msg} (h : m.lies w) : m.ok w := by
  unfold Msg.lies at h
  exact ⟨by rw [cell_of_row w _ 2 _ 67 (0, 0) h]; rfl, by rw [cell_of_row w _ 3 _ 67 (0, 0) h]; rfl, by rw [cell_of_row w _ 4 _ 67 (0, 0) h]; rfl, by rw [cell_of_row w _ 5 _ 67 (0, 0) h]; rfl⟩

/-- the queue while it is filled: k messages of zs. -/
def Fill (w0 : World) (qb : Nat) (R : Int) (zs : List Int) (k : Nat) (v : Value) (ms : List Msg) (wr : World) : Prop :=
  ms.length = k ∧ (∀ j, j < k → (ms.getD j Msg.zero).seq = j ∧ (ms.getD j Msg.zero).sent = zs.getD j 0) ∧ wr.heap[qb]? = some (.cells (qcells v R) 59 (0, 0)) ∧
  wr.ownsRow (qb + 1) 60 1 v k (ms.map Msg.ptr) ∧ (∀ m ∈ ms, m.lies wr ∧ qb + 1 ≤ m.blk) ∧ Below qb w0 wr

theorem ownsRow_below {w w' : World} {B : Nat} {e : TypeId} {v : Value} {n : Nat} {xs : List Value} (h : w.ownsRow B e 1 v n xs) (hb : Below w.heap.size w w') : w'.ownsRow B e 1 v n xs := by
  obtain ⟨h1, h2⟩ := h
  refine ⟨h1, ?_⟩
  rcases h2 with h2 | ⟨g, cap, cur, e1, e2, e3, e4⟩
  · exact .inl h2
  · exact .inr ⟨g, cap, cur, e1, e2, (hb.block g (Array.getElem?_eq_some_iff.1 e3).1).trans e3, e4⟩
/-- the row's block is no block of another type. -/
theorem own_ne {w : World} {B : Nat} {e : TypeId} {v : Value} {n : Nat} {xs : List Value} {b : Nat} {cs : Array Value} {t : TypeId} (h : w.ownsRow B e 1 v n xs) (hb : w.heap[b]? = some (.cells cs t (0, 0))) (hne : t ≠ e) : some b ≠ v.ownBlock := by
  rcases h.2 with ⟨rfl, _⟩ | ⟨g, cap, cur, rfl, _, e3, _⟩
  · simp [Value.ownBlock]
  · intro hh
    simp [Value.ownBlock] at hh
    subst hh
    rw [hb] at e3
    simp at e3
    exact hne e3.2
theorem fill_step {w0 wr w1 w2 : World} {qb k : Nat} {R z : Int} {zs : List Int} {v v' : Value} {ms : List Msg} (h : Fill w0 qb R zs k v ms wr) (hz : zs.getD k 0 = z) (hb1 : Below wr.drew.heap.size wr.drew w1)
    (hown : w2.ownsRow (qb + 1) 60 1 v' (k + 1) (ms.map Msg.ptr ++ [.pointer (some ⟨w1.heap.size, 0, none⟩)]))
    (hg : ((w1.alloc (.cells (mcells k z) 67)).alloc (.cells #[.pointer (some ⟨w1.heap.size, 0, none⟩)] 60)).grownBy w2 v.ownBlock) :
    Fill w0 qb R zs (k + 1) v' (ms ++ [⟨w1.heap.size, k, z⟩]) (w2.setCell ⟨qb, 0, none⟩ v') ∧ w2.cell? ⟨qb, 0, none⟩ = some v ∧ w2.frozen? ⟨qb, 0, none⟩ = false := by
  obtain ⟨f1, f2, f3, f4, f5, f6⟩ := h
  have hqs : qb < wr.heap.size := (Array.getElem?_eq_some_iff.1 f3).1
  have hs1 : wr.heap.size ≤ w1.heap.size := hb1.size
  have hb1' : Below wr.heap.size wr w1 := ⟨hb1.os, hb1.tape, hb1.output, hb1.size, hb1.block⟩
  have sz2 : ((w1.alloc (.cells (mcells k z) 67)).alloc (.cells #[.pointer (some ⟨w1.heap.size, 0, none⟩)] 60)).heap.size = w1.heap.size + 2 := by simp
  -- a block of w1 that is not the row is in w2 as it was
  have keep : ∀ (b : Nat) (cs : Array Value) (t : TypeId), wr.heap[b]? = some (.cells cs t (0, 0)) → t ≠ 60 → w2.heap[b]? = some (.cells cs t (0, 0)) := by
    intro b cs t hb ht
    have hbs : b < wr.heap.size := (Array.getElem?_eq_some_iff.1 hb).1
    rw [hg.block b (by omega) (own_ne f4 hb ht), Below.heap_alloc _ _ _ (by simp; omega), Below.heap_alloc _ _ _ (by omega), hb1'.block b hbs]
    exact hb
  have rq := keep qb _ 59 f3 (by decide)
  have rn : w2.heap[w1.heap.size]? = some (.cells (mcells k z) 67 (0, 0)) := by
    have hne : some w1.heap.size ≠ v.ownBlock := by
      intro e
      have := (f4.lt w1.heap.size e.symm).2
      omega
    rw [hg.block w1.heap.size (by omega) hne, Below.heap_alloc _ _ _ (by simp)]
    exact heap_alloc_new _ _
  have hset : ∀ b, b ≠ qb → (w2.setCell ⟨qb, 0, none⟩ v').heap[b]? = w2.heap[b]? := fun b hb => Below.heap_setCell _ _ _ _ hb
  refine ⟨⟨by simp [f1], ?_, ?_, ?_, ?_, ?_⟩, ?_, ?_⟩
  · intro j hj
    by_cases e : j = k
    · subst e
      have : (ms ++ ([⟨w1.heap.size, j, z⟩] : List Msg)).getD j Msg.zero = ⟨w1.heap.size, j, z⟩ := by simp [List.getD, ← f1]
      rw [this]
      exact ⟨rfl, hz.symm⟩
    · have hjk : j < ms.length := by omega
      have : (ms ++ ([⟨w1.heap.size, k, z⟩] : List Msg)).getD j Msg.zero = ms.getD j Msg.zero := by simp [List.getD, List.getElem?_append_left hjk]
      rw [this]
      exact f2 j (by omega)
  · rw [heap_setCell_same w2 qb 0 _ 59 _ rq]
    rfl
  · rw [List.map_append]
    exact ownsRow_setCell_below hown (by show qb < qb + 1; omega) _
  · intro m hm
    rw [List.mem_append, List.mem_singleton] at hm
    rcases hm with hm | rfl
    · obtain ⟨q1, q2⟩ := f5 m hm
      exact ⟨(hset _ (by omega)).trans (keep _ _ 67 q1 (by decide)), q2⟩
    · exact ⟨(hset _ (by show w1.heap.size ≠ qb; omega)).trans rn, by show qb + 1 ≤ w1.heap.size; omega⟩
  · have g1 : Below qb w0 w1 := f6.trans (hb1'.mono (by omega))
    have g2 : Below qb w0 w2 := ((g1.alloc (by omega) _).alloc (by simp; omega) _).grown hg (by omega) (fun k e => by have := (f4.lt k e).1; omega)
    exact g2.setCell (p := ⟨qb, 0, none⟩) (Nat.le_refl _) _
  · rw [cell_of_row w2 qb 0 _ 59 (0, 0) rq]; rfl
  · exact frozen_of_row w2 qb 0 _ 59 rq
theorem info60 : (Try.prog.info? 60).map (fun i => (i.zero, i.size, i.bytes)) = some (some (.pointer none), 1, 8) := by kernel_rfl
end Go.Proofs.Qxb6609385a
