/-
  WALKS: ZZpersonsWith.
-/
import Derived.Test.Qxb6609375aWith
import Derived.Deep.OwnRows
namespace Go.Proofs.Qxb6609375a
open Go.RowKit
set_option linter.unusedVariables false

/-- a slice of the call's own or nil: its cells, from the head of its block on. -/
def Lies (w : World) (a : Option Addr) (cs : List Value) : Prop :=
  cs = [] ∨ ∃ b, a = some ⟨b, 0, none⟩ ∧ ∀ k v, cs[k]? = some v → w.cell? ⟨b, k, none⟩ = some v

theorem Lies.later {w w' : World} {a : Option Addr} {cs : List Value} (h : Lies w a cs) (hb : Below w.heap.size w w') : Lies w' a cs := by
  rcases h with h | ⟨b, ha, hc⟩
  · exact .inl h
  · refine .inr ⟨b, ha, fun k v hv => ?_⟩
    have h1 := hc k v hv
    rw [hb.cell (World.block_lt_of_cell? w _ h1)]
    exact h1
theorem u16s_length (a : List Nat) : (u16s a).length = a.length := by simp [u16s]
theorem i32s_get {l : List Nat} {k : Nat} (hk : k < l.length) : (i32s l)[k]? = some (.int .i32 (l.getD k 0 : Nat)) := by
  simp [i32s, hk, List.getD]
theorem u16s_get {l : List Nat} {k : Nat} (hk : k < l.length) : (u16s l)[k]? = some (.int .u16 (l.getD k 0 : Nat)) := by
  simp [u16s, hk, List.getD]

theorem with_any (ab fb m r : Nat) (pa : Option Addr) (ps f : List Nat) (w : World) (hn : ps.length ≤ 65536) (hm : m ≤ 65536) (hfl : f.length = m) (hr : r ≤ 15)
    (hid : ∀ k, k < ps.length → ps.getD k 0 < m) (hf : ∀ j, f.getD j 0 < 65536)
    (ha : w.cell? ⟨ab, 20, none⟩ = some (.slice pa ps.length ps.length))
    (hp : Lies w pa (i32s ps))
    (hfc : ∀ j, j < m → w.cell? ⟨fb, j, none⟩ = some (.int .u16 (f.getD j 0 : Nat))) :
    Calls Try.prog 6 #[.pointer (some ⟨ab, 0, none⟩), .slice (some ⟨fb, 0, none⟩) m m, .int .u8 (r : Int)] w fun e w' => ∃ v, e = .returned v ∧
      w'.ownsRow w.heap.size 21 1 v (listOf f r ps).length (i32s (listOf f r ps)) ∧ Below w.heap.size w w' := by
  rcases hp with hp | ⟨pb, rfl, hc⟩
  · have e : ps = [] := by
      have h := congrArg List.length hp
      rw [i32s_length] at h
      exact List.eq_nil_of_length_eq_zero h
    subst e
    refine (with_none ab fb m pa _ r w ha).mono ?_
    rintro e w' ⟨rfl, rfl⟩
    exact ⟨_, rfl, World.ownsRow_nil _ _ _ _, Below.refl _ _⟩
  · exact with_some ab fb pb m r ps f w hn hm hfl hr hid hf ha (fun k hk => hc k _ (i32s_get hk)) hfc

theorem row_step {cur : Array Value} {f : List Nat} {k x : Nat} (h : ∀ j, j < k → cur[j]? = some (.int .u16 (f.getD j 0 : Nat))) (hx : f.getD k 0 = x) (hk : k < cur.size) :
    ∀ j, j < k + 1 → (cur.setIfInBounds k (.int .u16 (x : Int)))[j]? = some (.int .u16 (f.getD j 0 : Nat)) := by
  intro j hj
  rw [Array.getElem?_setIfInBounds]
  by_cases e : k = j
  · subst e
    rw [if_pos rfl, if_pos hk, hx]
  · rw [if_neg e]
    exact h j (by omega)
theorem cell_other {w : World} {b o k : Nat} {v u : Value} (h : w.cell? ⟨b, o, none⟩ = some v) : (w.setCell ⟨b + 1, k, none⟩ u).cell? ⟨b, o, none⟩ = some v := by
  rw [World.cell?_setCell_other _ _ _ _ (by simp)]
  exact h

set_option maxRecDepth 100000 in
set_option maxHeartbeats 1000000 in
theorem zzWith_any (pa fa : Option Addr) (m r : Nat) (ps f : List Nat) (w : World) (hn : ps.length ≤ 65536) (hm : m ≤ 65536) (hfl : f.length = m) (hr : r ≤ 15)
    (hid : ∀ k, k < ps.length → ps.getD k 0 < m) (hf : ∀ j, f.getD j 0 < 65536) (hp : Lies w pa (i32s ps)) (hq : Lies w fa (u16s f)) :
    Calls Try.prog 5 #[.slice pa ps.length ps.length, .slice fa m m, .int .u8 (r : Int)] w fun e w' => ∃ v B, e = .returned v ∧ w.heap.size ≤ B ∧
      w'.ownsRow B 21 1 v (listOf f r ps).length (i32s (listOf f r ps)) ∧ Below w.heap.size w w' := by
  have hmk := run_make_row' (P := Try.prog) 30 42 (.int .u16 0) 2 Try.underlying30 (by kernel_rfl) rfl .i64 .i64 m (by omega) (by omega)
  have HID : Hid _ := hid
  have HP : Hid (Lies w pa (i32s ps)) := hp
  have HQ : Hid (Lies w fa (u16s f)) := hq
  have HF : Hid _ := hf
  have HFL : Hid _ := hfl
  clear hid hp hq hf hfl
  go_enter Try.func5, Try.ntmps5
  go_wp2
  go_loopw [18] (fun i wr => ∃ (k : Nat) (cur : Array Value), k ≤ m ∧ i = .int .i64 k ∧ wr.heap[w.heap.size + 1]? = some (.cells cur 42 (0, 0)) ∧ cur.size = m ∧
      (∀ j, j < k → cur[j]? = some (.int .u16 (f.getD j 0 : Nat))) ∧ wr.cell? ⟨w.heap.size, 20, none⟩ = some (.slice pa ps.length ps.length) ∧ Below w.heap.size w wr)
    (fun i _ => m - (intOf i).toNat)
  case atStart =>
    refine ⟨0, _, Nat.zero_le _, rfl, heap_alloc2_new _ _ _, by simp [madeCells], fun j hj => absurd hj (Nat.not_lt_zero _), by simp, ?_⟩
    exact ((Below.refl _ _).alloc (Nat.le_refl _) _).alloc (by simp) _
  case round =>
    obtain ⟨k, cur, hk, rfl, hrow, hsz, hall, hcel, hbel⟩ := hrel
    by_cases hlt : k < m
    · obtain ⟨qb, hqa, hqc⟩ : ∃ b, fa = some ⟨b, 0, none⟩ ∧ ∀ k v, (u16s f)[k]? = some v → w.cell? ⟨b, k, none⟩ = some v := by
        rcases HQ.out with h | h
        · have h2 := congrArg List.length h
          have h3 := HFL.out
          rw [u16s_length] at h2
          simp only [List.length_nil] at h2
          omega
        · exact h
      subst hqa
      obtain ⟨x, hx⟩ : ∃ x, f.getD k 0 = x := ⟨_, rfl⟩
      have cq0 := hqc k _ (u16s_get (by have := HFL.out; omega))
      have cq : wr.cell? ⟨qb, k, none⟩ = some (.int .u16 (x : Int)) := by
        rw [hbel.cell (World.block_lt_of_cell? w _ cq0), cq0, hx]
      have cs : ∃ old, wr.cell? ⟨w.heap.size + 1, k, none⟩ = some old := by
        rw [cell_of_row wr _ k cur 42 (0, 0) hrow]
        exact ⟨cur[k], by simp⟩
      obtain ⟨old, co⟩ := cs
      have cz : wr.frozen? ⟨w.heap.size + 1, k, none⟩ = false := frozen_of_row wr _ k cur 42 hrow
      have HR : Hid _ := hrow
      have HA : Hid _ := hall
      have HC : Hid _ := hcel
      have HB : Hid _ := hbel
      have HX : Hid _ := hx
      have HS : Hid _ := hsz
      clear hrow hall hcel hbel hx hqc cq0 hsz
      go_wp2
      go_roundw
      case rel => exact ⟨k + 1, _, by omega, by go_num, heap_setCell_same _ _ _ _ _ _ HR.out, by simpa using HS.out, row_step HA.out HX.out (by have := HS.out; omega), cell_other HC.out, HB.out.setCell (by simp) _⟩
      case measure => simp [intOf]; omega
    · have ek : k = m := by omega
      have hfc : ∀ j, j < m → wr.cell? ⟨w.heap.size + 1, j, none⟩ = some (.int .u16 (f.getD j 0 : Nat)) := fun j hj => by
        rw [cell_of_row wr _ j cur 42 (0, 0) hrow]
        exact hall j (by omega)
      have HW : Hid _ := with_any w.heap.size (w.heap.size + 1) m r pa ps f wr hn hm HFL.out hr HID.out HF.out hcel (HP.out.later hbel) hfc
      have HB : Hid _ := hbel
      clear hrow hall hcel hbel hsz hfc ek
      go_wp2_with fail
      refine Calls.mono HW.out ?_
      rintro e w1 ⟨v, rfl, hown, hb1⟩
      have R1 : Hid _ := hown
      have R2 : Hid _ := hb1
      clear hown hb1
      go_wp2
      go_ret
      exact ⟨v, wr.heap.size, rfl, HB.out.size, R1.out, HB.out.trans (R2.out.mono HB.out.size)⟩

/-- a slice at or behind block B, or empty: its cells, from the head of its block on. -/
def LiesFrom (B : Nat) (w : World) (a : Option Addr) (cs : List Value) : Prop :=
  cs = [] ∨ ∃ b, B ≤ b ∧ a = some ⟨b, 0, none⟩ ∧ ∀ k v, cs[k]? = some v → w.cell? ⟨b, k, none⟩ = some v

theorem zzWith_lies (pa fa : Option Addr) (m r : Nat) (ps f : List Nat) (w : World) (hn : ps.length ≤ 65536) (hm : m ≤ 65536) (hfl : f.length = m) (hr : r ≤ 15)
    (hid : ∀ k, k < ps.length → ps.getD k 0 < m) (hf : ∀ j, f.getD j 0 < 65536) (hp : Lies w pa (i32s ps)) (hq : Lies w fa (u16s f)) :
    Calls Try.prog 5 #[.slice pa ps.length ps.length, .slice fa m m, .int .u8 (r : Int)] w fun e w' => ∃ la lc, e = .returned (.slice la (listOf f r ps).length lc) ∧
      LiesFrom w.heap.size w' la (i32s (listOf f r ps)) ∧ Below w.heap.size w w' := by
  refine (zzWith_any pa fa m r ps f w hn hm hfl hr hid hf hp hq).mono ?_
  rintro e w' ⟨v, B, rfl, hB, hown, hbel⟩
  rcases hown.2 with ⟨rfl, h0⟩ | ⟨g, cap, cur, rfl, hg, hh, hnc, hcm, hcs, htake⟩
  · have hl := hown.1
    rw [h0] at hl ⊢
    exact ⟨none, 0, rfl, .inl (List.eq_nil_of_length_eq_zero (by omega)), hbel⟩
  · refine ⟨_, _, rfl, .inr ⟨g, by omega, rfl, fun k v hv => ?_⟩, hbel⟩
    have hk : k < (i32s (listOf f r ps)).length := (List.getElem?_eq_some_iff.1 hv).1
    rw [hown.cellAt k (by rw [i32s_length] at hk; omega)]
    exact hv
end Go.Proofs.Qxb6609375a
