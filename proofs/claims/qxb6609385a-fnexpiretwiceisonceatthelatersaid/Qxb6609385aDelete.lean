/-
  WALKS: slices.DeleteFunc with expire's closure.
-/
import Derived.Test.Qxb6609385aIndex
import Derived.Laws.CopyRow
namespace Go.Proofs.Qxb6609385a
open Go.RowKit
set_option linter.unusedVariables false
set_option maxRecDepth 100000

theorem zero60 (w : World) : (zeroValue 60).run Try.prog w = .ok (.pointer none) w := by kernel_rfl
theorem zeros_ptr (m : Nat) : (Builtin.zeroCells #[.pointer none] m).toList = List.replicate m (.pointer none) := by
  simp [Builtin.zeroCells]
  apply List.ext_getElem
  · simp
  · intro i h1 h2
    simp [Nat.mod_one]
theorem run_clear_row (w : World) (ty : TypeId) (Mb o m c' : Nat) (cur : Array Value) (t : TypeId) (hg : w.heap[Mb]? = some (.cells cur t (0, 0))) (hn : 0 < m) (hfit : o + m ≤ cur.size) :
    (Builtin.clear_ #[56] ty #[.slice (some ⟨Mb, o, none⟩) m c']).run Try.prog w = .ok (.tuple #[]) (w.setRow Mb (cur.toList.take o ++ List.replicate m (Value.pointer none) ++ cur.toList.drop (o + m)).toArray) := by
  obtain ⟨m', rfl⟩ : ∃ m', m = m' + 1 := ⟨m - 1, by omega⟩
  have h := run_storeCells_at (P := Try.prog) Mb o t (List.replicate (m' + 1) (.pointer none)) 0 cur w hg (by simp; omega) (by intro v hv; rw [List.eq_of_mem_replicate hv]; rfl)
  simp only [Nat.add_zero, List.length_replicate] at h
  have hz : (Value.pointer none).cells = #[.pointer none] := rfl
  simp [Builtin.clear_, run_underlying Try.underlying56, hz, zeros_ptr, h, Result.andThen]

/-- nothing that was there turns but block Mb. -/
structure But (Mb : Nat) (w w' : World) : Prop where
  os : w'.os = w.os
  tape : w'.tape = w.tape
  output : w'.output = w.output
  size : w.heap.size ≤ w'.heap.size
  block : ∀ i, i < w.heap.size → i ≠ Mb → w'.heap[i]? = w.heap[i]?
theorem But.refl (Mb : Nat) (w : World) : But Mb w w := ⟨rfl, rfl, rfl, Nat.le_refl _, fun _ _ _ => rfl⟩
theorem But.trans {Mb : Nat} {a b c : World} (h : But Mb a b) (k : But Mb b c) : But Mb a c :=
  ⟨k.os.trans h.os, k.tape.trans h.tape, k.output.trans h.output, Nat.le_trans h.size k.size, fun i hi hn => (k.block i (Nat.lt_of_lt_of_le hi h.size) hn).trans (h.block i hi hn)⟩
theorem But.of_below {Mb : Nat} {w w' : World} (h : Below w.heap.size w w') : But Mb w w' := ⟨h.os, h.tape, h.output, h.size, fun i hi _ => h.block i hi⟩
theorem But.setCell (Mb i : Nat) (w : World) (v : Value) : But Mb w (w.setCell ⟨Mb, i, none⟩ v) :=
  ⟨rfl, rfl, rfl, by simp [World.setCell], fun k _ hk => Below.heap_setCell _ _ _ _ hk⟩
theorem But.setRow (Mb : Nat) (w : World) (cs : Array Value) : But Mb w (w.setRow Mb cs) := ⟨rfl, rfl, rfl, by simp, fun k _ hk => setRow_other w Mb k cs hk⟩
theorem But.cell {Mb : Nat} {w w' : World} (h : But Mb w w') {p : Addr} {v : Value} (hp : w.cell? p = some v) (hne : p.block ≠ Mb) : w'.cell? p = some v :=
  (World.cell?_of_block (h.block p.block (World.block_lt_of_cell? w _ hp) hne)).trans hp
theorem Boxes.but {w w' : World} {Mb nb pb qb : Nat} {A R : Int} (h : Boxes w nb pb qb A R) (hb : But Mb w w') (h1 : nb ≠ Mb) (h2 : pb ≠ Mb) (h3 : qb ≠ Mb) : Boxes w' nb pb qb A R :=
  ⟨hb.cell h.1 h1, hb.cell h.2.1 h1, hb.cell h.2.2.1 h1, hb.cell h.2.2.2.1 h2, hb.cell h.2.2.2.2 h3⟩
theorem Msg.ok.but {w w' : World} {Mb : Nat} {m : Msg} (h : m.ok w) (hb : But Mb w w') (h1 : m.blk ≠ Mb) : m.ok w' :=
  ⟨hb.cell h.1 h1, hb.cell h.2.1 h1, hb.cell h.2.2.1 h1, hb.cell h.2.2.2 h1⟩

/-- the messages that stay. -/
def kept (A R : Int) (ms : List Msg) : List Msg := ms.filter fun m => !del A R m
theorem kept_succ (A R : Int) (ms : List Msg) (k : Nat) (hk : k < ms.length) : kept A R (ms.take (k + 1)) = kept A R (ms.take k) ++ (if del A R (ms.getD k Msg.zero) then [] else [ms.getD k Msg.zero]) := by
  unfold kept
  rw [List.take_succ_eq_append_getElem hk, List.filter_append]
  congr 1
  have e : ms.getD k Msg.zero = ms[k] := by simp [List.getD, hk]
  rw [e]
  by_cases h : del A R ms[k] <;> simp [h]
theorem kept_all {A R : Int} {ms : List Msg} {k : Nat} (hk : k ≤ ms.length) (h : ∀ j, j < k → del A R (ms.getD j Msg.zero) = false) : kept A R (ms.take k) = ms.take k := by
  unfold kept
  rw [List.filter_eq_self]
  intro m hm
  obtain ⟨j, hj, rfl⟩ := List.mem_iff_getElem.1 hm
  have hjk : j < k := by rw [List.length_take] at hj; omega
  have := h j hjk
  have e : ms.getD j Msg.zero = (ms.take k)[j] := by simp [List.getD, show j < ms.length by omega]
  rw [e] at this
  rw [this]; rfl
theorem kept_le (A R : Int) (ms : List Msg) : (kept A R ms).length ≤ ms.length := List.length_filter_le _ _

/-- the row of pointers. -/
def Ptrs (w : World) (Mb c : Nat) (ms : List Msg) : Prop :=
  ∃ cur, w.heap[Mb]? = some (.cells cur 60 (0, 0)) ∧ cur.size = c ∧ ms.length ≤ c ∧ ∀ j, j < ms.length → cur[j]? = some (ms.getD j Msg.zero).ptr

theorem row_keep {cur : Array Value} {ms K : List Msg} {n i j : Nat} {m : Msg} (hij : i < j) (hic : i < cur.size) (h1 : ∀ t, t < i → cur[t]? = some (K.getD t Msg.zero).ptr) (hK : K.length = i) :
    ∀ t, t < i + 1 → (cur.setIfInBounds i m.ptr)[t]? = some ((K ++ [m]).getD t Msg.zero).ptr := by
  intro t ht
  rw [Array.getElem?_setIfInBounds]
  by_cases e : i = t
  · subst e
    rw [if_pos rfl, if_pos hic]
    simp [List.getD, hK]
  · rw [if_neg e, h1 t (by omega)]
    have : t < K.length := by omega
    simp [List.getD, List.getElem?_append_left this]
theorem row_rest {cur : Array Value} {ms : List Msg} {n i j : Nat} {v : Value} (hij : i < j) (h2 : ∀ t, j ≤ t → t < n → cur[t]? = some (ms.getD t Msg.zero).ptr) :
    ∀ t, j + 1 ≤ t → t < n → (cur.setIfInBounds i v)[t]? = some (ms.getD t Msg.zero).ptr := by
  intro t ht htn
  rw [Array.getElem?_setIfInBounds, if_neg (by omega)]
  exact h2 t (by omega) htn

theorem row_clear {cu : Array Value} {i m t : Nat} (hi : i ≤ cu.size) (ht : t < i) : (cu.toList.take i ++ (List.replicate m (Value.pointer none) ++ cu.toList.drop (i + m))).toArray[t]? = cu[t]? := by
  rw [List.getElem?_toArray, List.getElem?_append_left (by rw [List.length_take]; simp; omega), List.getElem?_take, if_pos ht]
  simp

set_option maxHeartbeats 2000000 in
theorem delete_some (Mb n c nb pb qb : Nat) (A R : Int) (ms : List Msg) (w : World) (hn : n ≤ 65536) (hA : inTime A) (hl : ms.length = n) (hb : Boxes w nb pb qb A R) (q1 : nb ≠ Mb) (q2 : pb ≠ Mb) (q3 : qb ≠ Mb)
    (hm : ∀ j, j < n → (ms.getD j Msg.zero).ok w ∧ inTime (ms.getD j Msg.zero).sent ∧ (ms.getD j Msg.zero).blk ≠ Mb) (hp : Ptrs w Mb c ms) :
    Calls Try.prog 37 #[.slice (some ⟨Mb, 0, none⟩) n c, clo nb pb] w fun e w' => e = .returned (.slice (some ⟨Mb, 0, none⟩) (kept A R ms).length c) ∧ Ptrs w' Mb c (kept A R ms) ∧ But Mb w w' := by
  obtain ⟨cur, hrow, hsz, hlc, hcur⟩ := hp
  rw [hl] at hlc hcur
  have HI := hideX (index_some Mb n c nb pb qb A R ms w hn hA hl hb (fun j hj => ⟨(hm j hj).1, (hm j hj).2.1⟩) (fun j hj => by rw [cell_of_row w Mb j cur 60 (0, 0) hrow]; exact hcur j hj))
  have HROW := hideX hrow
  have HSZ := hideX hsz
  have HCUR := hideX hcur
  have HB := hideX hb
  have HM := hideX hm
  have HL := hideX hl
  have HA := hideX hA
  have Q1 := hideX q1
  have Q2 := hideX q2
  have Q3 := hideX q3
  clear hrow hsz hcur hb hm hl hA q1 q2 q3
  unfold clo at HI ⊢
  go_enter Try.func37, Try.ntmps37
  go_wp2_with fail
  refine Calls.mono HI.out ?_
  rintro e w1 ⟨⟨r, rfl, hr⟩, hb1⟩
  have HB1 : Hid (But Mb w w1) := But.of_below hb1
  have hrow1 : Hid (w1.heap[Mb]? = some (.cells cur 60 (0, 0))) := (hb1.block Mb (Array.getElem?_eq_some_iff.1 HROW.out).1).trans HROW.out
  clear hb1 HI
  rcases hr with ⟨rfl, hall⟩ | ⟨i0, hi0, rfl, hd0, hbef⟩
  · have hk : kept A R ms = ms := by
      have := kept_all (A := A) (R := R) (ms := ms) (k := n) (by have := HL.out; omega) hall
      rwa [List.take_of_length_le (by have := HL.out; omega)] at this
    have HK := hideX hk
    clear hall hk
    go_wp2
    go_ret
    exact ⟨by rw [HK.out, HL.out]; rfl, by rw [HK.out]; exact ⟨cur, hrow1.out, HSZ.out, by have := HL.out; omega, fun j hj => HCUR.out j (by have := HL.out; omega)⟩, HB1.out⟩
  · have hk0 : kept A R (ms.take (i0 + 1)) = ms.take i0 := by
      rw [kept_succ A R ms i0 (by have := HL.out; omega), hd0, if_pos rfl, List.append_nil]
      exact kept_all (by have := HL.out; omega) hbef
    have hne : (((i0 : Nat) : Int) == -1) = false := by rw [beq_eq_false_iff_ne]; omega
    have HK0 := hideX hk0
    clear hk0 hd0 hbef
    go_wp2
    go_loopw [5, 6] (fun vi vj wr => ∃ (i j : Nat) (cu : Array Value), vi = .int .i64 i ∧ vj = .int .i64 j ∧ i < j ∧ j ≤ n ∧ (kept A R (ms.take j)).length = i ∧ wr.heap[Mb]? = some (.cells cu 60 (0, 0)) ∧ cu.size = c ∧
        (∀ t, t < i → cu[t]? = some ((kept A R (ms.take j)).getD t Msg.zero).ptr) ∧ (∀ t, j ≤ t → t < n → cu[t]? = some (ms.getD t Msg.zero).ptr) ∧ But Mb w wr) (fun _ vj _ => n - (intOf vj).toNat)
    case atStart =>
      refine ⟨i0, i0 + 1, cur, rfl, by go_num, by omega, by omega, ?_, hrow1.out, HSZ.out, ?_, fun t _ ht => HCUR.out t ht, HB1.out⟩
      · rw [HK0.out, List.length_take, HL.out]; omega
      · intro t ht
        rw [HK0.out, HCUR.out t (by omega)]
        simp [List.getD, ht]
    case round =>
      obtain ⟨i, j, cu, rfl, rfl, hij, hjn, hki, hrow, hcs, hkp, hrest, hbut⟩ := hrel
      by_cases hlt : j < n
      · obtain ⟨m, hmm⟩ : ∃ m, ms.getD j Msg.zero = m := ⟨_, rfl⟩
        have h1 := HM.out j hlt
        rw [hmm] at h1
        have cp : wr.cell? ⟨Mb, j, none⟩ = some (.pointer (some ⟨m.blk, 0, none⟩)) := by rw [cell_of_row wr Mb j cu 60 (0, 0) hrow, hrest j (Nat.le_refl _) hlt, hmm]; rfl
        have HC := hideX (closure_msg (w := wr) HA.out h1.2.1 (HB.out.but hbut Q1.out Q2.out Q3.out) (h1.1.but hbut h1.2.2))
        have hks := kept_succ A R ms j (by have := HL.out; omega)
        rw [hmm] at hks
        have HKI := hideX hki
        have HROWR := hideX hrow
        have HCS := hideX hcs
        have HKP := hideX hkp
        have HREST := hideX hrest
        have HBUT := hideX hbut
        have HKS := hideX hks
        clear hki hrow hcs hkp hrest hbut hks hmm h1
        cases hd : del A R m
        · go_wp2_with fail
          refine Calls.mono HC.out ?_
          rintro e w2 ⟨rfl, hb2⟩
          rw [hd]
          have hrow2 : w2.heap[Mb]? = some (.cells cu 60 (0, 0)) := (hb2.block Mb (Array.getElem?_eq_some_iff.1 HROWR.out).1).trans HROWR.out
          have hic : i < cu.size := by have := HCS.out; omega
          have ci : ∃ old, w2.cell? ⟨Mb, i, none⟩ = some old := by
            rw [cell_of_row w2 Mb i cu 60 (0, 0) hrow2]
            exact ⟨cu[i], by simp⟩
          obtain ⟨old, co⟩ := ci
          have cz : w2.frozen? ⟨Mb, i, none⟩ = false := frozen_of_row w2 Mb i cu 60 hrow2
          have HROW2 := hideX hrow2
          have HB2 : Hid (But Mb w w2) := HBUT.out.trans (But.of_below hb2)
          have ii : (i : Int) < (n : Int) := by omega
          clear hrow2 hb2
          go_wp2
          go_roundw
          case rel =>
            have hkk : kept A R (ms.take (j + 1)) = kept A R (ms.take j) ++ [m] := by rw [HKS.out, hd]; rfl
            refine ⟨i + 1, j + 1, _, by go_num, by go_num, by omega, by omega, ?_, heap_setCell_same _ _ _ _ _ _ HROW2.out, by simpa using HCS.out, ?_, row_rest hij HREST.out, HB2.out.trans (But.setCell Mb i w2 _)⟩
            · rw [hkk, List.length_append, HKI.out]; rfl
            · rw [hkk]
              exact row_keep (m := m) (ms := ms) (n := n) hij hic HKP.out HKI.out
          case measure => simp [intOf]; omega
        · go_wp2_with fail
          refine Calls.mono HC.out ?_
          rintro e w2 ⟨rfl, hb2⟩
          rw [hd]
          have HROW2 : Hid (w2.heap[Mb]? = some (.cells cu 60 (0, 0))) := (hb2.block Mb (Array.getElem?_eq_some_iff.1 HROWR.out).1).trans HROWR.out
          have HB2 : Hid (But Mb w w2) := HBUT.out.trans (But.of_below hb2)
          clear hb2
          go_wp2
          go_roundw
          case rel =>
            have hkk : kept A R (ms.take (j + 1)) = kept A R (ms.take j) := by rw [HKS.out, hd]; simp
            refine ⟨i, j + 1, cu, rfl, by go_num, by omega, by omega, ?_, HROW2.out, HCS.out, ?_, fun t ht htn => HREST.out t (by omega) htn, HB2.out⟩
            · rw [hkk]; exact HKI.out
            · rw [hkk]; exact HKP.out
          case measure => simp [intOf]; omega
      · have ej : ms.take j = ms := List.take_of_length_le (by have := HL.out; omega)
        rw [ej] at hki hkp
        have hin : i < n := by omega
        have hcl := fun ty => run_clear_row wr ty Mb i (n - i) (c - i) cu 60 hrow (by omega) (by omega)
        have i0n : (i : Int) < (n : Int) := by omega
        have HKI := hideX hki
        have HKP := hideX hkp
        have HROWR := hideX hrow
        have HCS := hideX hcs
        have HBUT := hideX hbut
        clear hki hkp hrow hcs hrest hbut ej
        go_wp2
        go_ret
        refine ⟨by rw [HKI.out]; rfl, ⟨_, setRow_heap _ _ _ _ _ _ HROWR.out, ?_, by rw [HKI.out]; omega, ?_⟩, HBUT.out.trans (But.setRow Mb wr _)⟩
        · have := HCS.out
          simp
          omega
        · intro t ht
          rw [HKI.out] at ht
          rw [← HKP.out t ht]
          exact row_clear (cu := cu) (by have := HCS.out; omega) ht

theorem delete_none (a : Option Addr) (c : Nat) (f : Value) (w : World) :
    Calls Try.prog 37 #[.slice a 0 c, f] w fun e w' => e = .returned (.slice a 0 c) ∧ w' = w := by
  go_enter Try.func37, Try.ntmps37
  go_wp2_with (go_at_call 42; refine (index_none _ _ _ 0 0 _).mono ?_; rintro e w' ⟨rfl, hw⟩; rw [hw]; clear hw)
  go_ret
  exact ⟨rfl, rfl⟩
end Go.Proofs.Qxb6609385a
