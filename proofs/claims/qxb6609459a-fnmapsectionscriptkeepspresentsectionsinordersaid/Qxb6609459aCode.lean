/-
  WALKS: compoundCode and its four callers; stringsBytes; toSymbols; zzBytes.
-/
import Derived.Test.Qxb6609459aRows
import Derived.WalkKit
import Derived.WalkSpells
import Derived.WalkLawsBesides
import Derived.ProofKit
import Derived.Deep.OwnRows
import Derived.Laws.MakeOwn
import Derived.Deep.DeepCutAuto
namespace Go.Proofs.Qxb6609459a
open Go.RowKit
set_option linter.unusedVariables false
set_option maxRecDepth 100000

theorem as33_33 (a : Option Addr) (n c : Nat) (w : World) : (Instr.typeAssert (.iface 33 (.slice a n c)) 20 33 true).run Try.prog w = .ok (.tuple #[.slice a n c, .bool true]) w := by kernel_rfl
theorem as40_33 (a : Option Addr) (n c : Nat) (w : World) : (Instr.typeAssert (.iface 40 (.slice a n c)) 20 33 true).run Try.prog w = .ok (.tuple #[.slice none 0 0, .bool false]) w := by kernel_rfl
theorem as40_40 (a : Option Addr) (n c : Nat) (w : World) : (Instr.typeAssert (.iface 40 (.slice a n c)) 20 40 true).run Try.prog w = .ok (.tuple #[.slice a n c, .bool true]) w := by kernel_rfl
theorem as46_33 (a : Option Addr) (n c : Nat) (w : World) : (Instr.typeAssert (.iface 46 (.slice a n c)) 20 33 true).run Try.prog w = .ok (.tuple #[.slice none 0 0, .bool false]) w := by kernel_rfl
theorem as46_40 (a : Option Addr) (n c : Nat) (w : World) : (Instr.typeAssert (.iface 46 (.slice a n c)) 20 40 true).run Try.prog w = .ok (.tuple #[.slice none 0 0, .bool false]) w := by kernel_rfl
theorem as46_46 (a : Option Addr) (n c : Nat) (w : World) : (Instr.typeAssert (.iface 46 (.slice a n c)) 20 46 true).run Try.prog w = .ok (.tuple #[.slice a n c, .bool true]) w := by kernel_rfl
theorem as46_28 (a : Option Addr) (n c : Nat) (w : World) : (Instr.typeAssert (.iface 46 (.slice a n c)) 20 28 true).run Try.prog w = .ok (.tuple #[.slice none 0 0, .bool false]) w := by kernel_rfl
theorem as28_33 (a : Option Addr) (n c : Nat) (w : World) : (Instr.typeAssert (.iface 28 (.slice a n c)) 20 33 true).run Try.prog w = .ok (.tuple #[.slice none 0 0, .bool false]) w := by kernel_rfl
theorem as28_40 (a : Option Addr) (n c : Nat) (w : World) : (Instr.typeAssert (.iface 28 (.slice a n c)) 20 40 true).run Try.prog w = .ok (.tuple #[.slice none 0 0, .bool false]) w := by kernel_rfl
theorem as28_46 (a : Option Addr) (n c : Nat) (w : World) : (Instr.typeAssert (.iface 28 (.slice a n c)) 20 46 true).run Try.prog w = .ok (.tuple #[.slice none 0 0, .bool false]) w := by kernel_rfl
theorem as28_28 (a : Option Addr) (n c : Nat) (w : World) : (Instr.typeAssert (.iface 28 (.slice a n c)) 20 28 true).run Try.prog w = .ok (.tuple #[.slice a n c, .bool true]) w := by kernel_rfl

theorem code33 (a : Option Addr) (n c : Nat) (w : World) : Calls Try.prog 18 #[.iface 33 (.slice a n c)] w fun e w' => e = .returned (.tuple #[.int .u8 192, .bool true]) ∧ w' = w := by
  have h1 := as33_33 a n c
  go_enter Try.func18, Try.ntmps18
  go_wp2
  go_ret2
  exact ⟨rfl, rfl⟩
theorem code40 (a : Option Addr) (n c : Nat) (w : World) : Calls Try.prog 18 #[.iface 40 (.slice a n c)] w fun e w' => e = .returned (.tuple #[.int .u8 193, .bool true]) ∧ w' = w := by
  have h1 := as40_33 a n c
  have h2 := as40_40 a n c
  go_enter Try.func18, Try.ntmps18
  go_wp2
  go_ret2
  exact ⟨rfl, rfl⟩
theorem code46 (a : Option Addr) (n c : Nat) (w : World) : Calls Try.prog 18 #[.iface 46 (.slice a n c)] w fun e w' => e = .returned (.tuple #[.int .u8 224, .bool true]) ∧ w' = w := by
  have h1 := as46_33 a n c
  have h2 := as46_40 a n c
  have h3 := as46_46 a n c
  have h4 := as46_28 a n c
  go_enter Try.func18, Try.ntmps18
  go_wp2
  go_ret2
  exact ⟨rfl, rfl⟩
theorem code28 (a : Option Addr) (n c : Nat) (w : World) : Calls Try.prog 18 #[.iface 28 (.slice a n c)] w fun e w' => e = .returned (.tuple #[.int .u8 224, .bool true]) ∧ w' = w := by
  have h1 := as28_33 a n c
  have h2 := as28_40 a n c
  have h3 := as28_46 a n c
  have h4 := as28_28 a n c
  go_enter Try.func18, Try.ntmps18
  go_wp2
  go_ret2
  exact ⟨rfl, rfl⟩

theorem hide2 {p : Prop} (h : p) : Hid p := h

theorem symbols_any (a : Option Addr) (n c : Nat) (w : World) : Calls Try.prog 10 #[.slice a n c] w fun e w' => e = .returned (.tuple #[.int .u8 224, .bool true]) ∧ w' = w := by
  have HC := hide2 (code28 a n c w)
  go_enter Try.func10, Try.ntmps10
  go_wp2_with fail
  refine Calls.mono HC.out ?_
  rintro e w' ⟨rfl, hw⟩
  rw [hw]
  clear hw
  go_wp2
  go_ret2
  exact ⟨rfl, rfl⟩
theorem info20 : (Try.prog.info? 20).map (fun i => (i.zero, i.size, i.bytes)) = some (some .nilIface, 1, 16) := by kernel_rfl
theorem info52 : (Try.prog.info? 52).map (fun i => (i.zero, i.size, i.bytes)) = some (some (.agg #[.nilIface, .nilIface]), 2, 32) := by kernel_rfl
theorem info47 : (Try.prog.info? 47).map (fun i => (i.zero, i.size, i.bytes)) = some (some (.string ByteArray.empty), 1, 16) := by kernel_rfl
theorem below_alloc (w : World) (o : Obj) : Below w.heap.size w (w.alloc o) := (Below.refl _ _).alloc (Nat.le_refl _) _

theorem list_any (n : Nat) (w : World) (hn : n ≤ 65536) : Calls Try.prog 7 #[.int .i64 (n : Int)] w fun e w' => e = .returned (.tuple #[.int .u8 192, .bool true]) ∧ Below w.heap.size w w' := by
  have hmk := run_make_row' (P := Try.prog) 33 20 .nilIface 16 Try.underlying33 info20 rfl .i64 .i64 n (by omega) (by omega)
  have HC := hide2 (code33 (some ⟨w.heap.size, 0, none⟩) n n (w.alloc (.cells (madeCells #[.nilIface] n) 20)))
  go_enter Try.func7, Try.ntmps7
  go_wp2_with fail
  refine Calls.mono HC.out ?_
  rintro e w' ⟨rfl, hw⟩
  rw [hw]
  clear hw
  go_wp2
  go_ret2
  exact ⟨rfl, below_alloc _ _⟩
theorem array_any (n : Nat) (w : World) (hn : n ≤ 65536) : Calls Try.prog 9 #[.int .i64 (n : Int)] w fun e w' => e = .returned (.tuple #[.int .u8 224, .bool true]) ∧ Below w.heap.size w w' := by
  have hmk := run_make_row' (P := Try.prog) 46 20 .nilIface 16 Try.underlying46 info20 rfl .i64 .i64 n (by omega) (by omega)
  have HC := hide2 (code46 (some ⟨w.heap.size, 0, none⟩) n n (w.alloc (.cells (madeCells #[.nilIface] n) 20)))
  go_enter Try.func9, Try.ntmps9
  go_wp2_with fail
  refine Calls.mono HC.out ?_
  rintro e w' ⟨rfl, hw⟩
  rw [hw]
  clear hw
  go_wp2
  go_ret2
  exact ⟨rfl, below_alloc _ _⟩
theorem make40 (n : Nat) (w : World) (hn : n ≤ 65536) : (Instr.makeSlice 40 (.int .i64 (n : Int)) (.int .i64 (n : Int))).run Try.prog w = .ok (.slice (some ⟨w.heap.size, 0, none⟩) n n) (w.alloc (.cells (madeCells #[.nilIface, .nilIface] (n * 2)) 52)) := by
  obtain ⟨i, hi, hzz⟩ := Option.map_eq_some_iff.1 info52
  simp only [Prod.mk.injEq] at hzz
  obtain ⟨hz, hs, hb⟩ := hzz
  have h := run_make (P := Try.prog) w 40 52 i _ Try.underlying40 hi hz .i64 .i64 n n (by omega) (Int.le_refl _) (by rw [hb]; omega) (by omega)
  rw [hs] at h
  exact h
theorem map_any (n : Nat) (w : World) (hn : n ≤ 65536) : Calls Try.prog 8 #[.int .i64 (n : Int)] w fun e w' => e = .returned (.tuple #[.int .u8 193, .bool true]) ∧ Below w.heap.size w w' := by
  have hmk := fun w => make40 n w hn
  have HC := hide2 (code40 (some ⟨w.heap.size, 0, none⟩) n n (w.alloc (.cells (madeCells #[.nilIface, .nilIface] (n * 2)) 52)))
  go_enter Try.func8, Try.ntmps8
  go_wp2_with fail
  refine Calls.mono HC.out ?_
  rintro e w' ⟨rfl, hw⟩
  rw [hw]
  clear hw
  go_wp2
  go_ret2
  exact ⟨rfl, below_alloc _ _⟩

def strs (l : List ByteArray) : List Value := l.map Value.string
theorem strs_length (l : List ByteArray) : (strs l).length = l.length := by simp [strs]
theorem strs_get {l : List ByteArray} {k : Nat} (hk : k < l.length) : (strs l)[k]? = some (.string (l.getD k ByteArray.empty)) := by
  unfold strs
  simp [List.getD, hk]
/-- a slice that came in: its cells, wherever it lies. -/
def In (w : World) (a : Option Addr) (cs : List Value) : Prop :=
  cs = [] ∨ ∃ b o, a = some ⟨b, o, none⟩ ∧ ∀ k v, cs[k]? = some v → w.cell? ⟨b, o + k, none⟩ = some v
theorem in_pos {w : World} {a : Option Addr} {cs : List Value} (h : In w a cs) (hp : 0 < cs.length) : ∃ b o, a = some ⟨b, o, none⟩ ∧ ∀ k v, cs[k]? = some v → w.cell? ⟨b, o + k, none⟩ = some v := by
  rcases h with rfl | h
  · simp at hp
  · exact h
theorem In.later {w w' : World} {a : Option Addr} {cs : List Value} (h : In w a cs) (hb : Below w.heap.size w w') : In w' a cs := by
  rcases h with rfl | ⟨b, o, ha, hc⟩
  · exact .inl rfl
  · refine .inr ⟨b, o, ha, fun k v hv => ?_⟩
    have h1 := hc k v hv
    rw [hb.cell (World.block_lt_of_cell? w _ h1)]
    exact h1

/-- it hands back a number of the kind. -/
def SomeInt (e : Ending) : Prop := ∃ z, e = .returned (.int .i64 z)
def SomeBool (e : Ending) : Prop := ∃ b, e = .returned (.bool b)
theorem someBool (b : Bool) : SomeBool (.returned (.bool b)) := ⟨b, rfl⟩

set_option maxHeartbeats 1000000 in
theorem strBytes_any (a0 : Option Addr) (l0 c0 : Nat) (ss : List ByteArray) (w : World) (h0 : l0 ≤ 65536) (hl : ss.length = l0) (hi : In w a0 (strs ss)) :
    Calls Try.prog 6 #[.slice a0 l0 c0] w fun e w' => SomeInt e ∧ w' = w := by
  have HL := hide2 hl
  have HI := hide2 hi
  clear hl hi
  go_enter Try.func6, Try.ntmps6
  go_wp2
  go_loop [3, 4] (fun v i => ∃ (k : Nat) (z : Int), k ≤ l0 ∧ i = .int .i64 k ∧ v = .int .i64 z) (fun _ i => l0 - (intOf i).toNat)
  case atStart => exact ⟨0, _, Nat.zero_le _, rfl, rfl⟩
  case round =>
    obtain ⟨k, z, hk, rfl, rfl⟩ := hrel
    by_cases hlt : k < l0
    · obtain ⟨b, o, ha, hc⟩ := in_pos HI.out (by rw [strs_length, HL.out]; omega)
      subst ha
      obtain ⟨x, hx⟩ : ∃ s, ss.getD k ByteArray.empty = s := ⟨_, rfl⟩
      have c1 : w.cell? ⟨b, o + k, none⟩ = some (.string x) := by rw [hc k _ (strs_get (by rw [HL.out]; omega)), hx]
      clear hx hc
      go_wp2
      · go_ret
        exact ⟨⟨_, rfl⟩, rfl⟩
      · go_ret
        exact ⟨⟨_, rfl⟩, rfl⟩
      · go_round
        case rel => exact ⟨k + 1, _, by omega, by go_num, rfl⟩
        case measure => simp [intOf]; omega
    · go_wp2
      go_ret
      exact ⟨⟨_, rfl⟩, rfl⟩

set_option maxHeartbeats 1000000 in
theorem toSymbols_any (a0 : Option Addr) (l0 c0 : Nat) (ss : List ByteArray) (w : World) (h0 : l0 ≤ 65536) (hl : ss.length = l0) (hi : In w a0 (strs ss)) :
    Calls Try.prog 11 #[.slice a0 l0 c0] w fun e w' => (∃ a n c, e = .returned (.slice a n c)) ∧ Below w.heap.size w w' := by
  have heq := fun w a n c => Lib.run_eql_slice_nil (P := Try.prog) w 22 9 a n c 0 0 Try.underlying22
  have hmk := run_make_row' (P := Try.prog) 28 47 (.string ByteArray.empty) 16 Try.underlying28 info47 rfl .i64 .i64 l0 (by omega) (by omega)
  have HL := hide2 hl
  have HI := hide2 hi
  clear hl hi
  cases ha : a0 with
  | none =>
    go_enter Try.func11, Try.ntmps11
    go_wp2
    go_ret
    exact ⟨⟨_, _, _, rfl⟩, Below.refl _ _⟩
  | some x =>
    go_enter Try.func11, Try.ntmps11
    go_wp2
    go_loopw [4] (fun i wr => ∃ (k : Nat) (cur : Array Value), k ≤ l0 ∧ i = .int .i64 (k : Int) ∧ wr.heap[w.heap.size]? = some (.cells cur 47 (0, 0)) ∧ cur.size = l0 ∧ Below w.heap.size w wr) (fun i _ => l0 - (intOf i).toNat)
    case atStart => exact ⟨0, _, Nat.zero_le _, rfl, heap_alloc_new _ _, size_madeCells _ _, below_alloc _ _⟩
    case round =>
      obtain ⟨k, cur, hk, rfl, hrow, hsz, hbel⟩ := hrel
      by_cases hlt : k < l0
      · obtain ⟨b, o, ha', hc⟩ := in_pos (HI.out.later hbel) (by rw [strs_length, HL.out]; omega)
        obtain rfl : x = ⟨b, o, none⟩ := by rw [ha] at ha'; exact Option.some.inj ha'
        obtain ⟨y, hy⟩ : ∃ s, ss.getD k ByteArray.empty = s := ⟨_, rfl⟩
        have c1 : wr.cell? ⟨b, o + k, none⟩ = some (.string y) := by rw [hc k _ (strs_get (by rw [HL.out]; omega)), hy]
        have c2 : wr.cell? ⟨w.heap.size, k, none⟩ = some (cur[k]'(by omega)) := by rw [cell_of_row wr _ k cur 47 (0, 0) hrow]; simp [hsz, hlt]
        have c3 := frozen_of_row wr w.heap.size k cur 47 hrow
        have hkn : (k : Int) < (l0 : Int) := by omega
        have R1 := hide2 (heap_setCell_same wr w.heap.size k cur 47 (.string y) hrow)
        have R2 := hide2 (hbel.setCell (p := ⟨w.heap.size, k, none⟩) (Nat.le_refl _) (.string y))
        clear hc hy ha' hrow hbel
        go_wp2
        go_roundw
        case rel => exact ⟨k + 1, _, by omega, by go_num, R1.out, by simpa using hsz, R2.out⟩
        case measure => simp [intOf]; omega
      · have HB := hide2 hbel
        clear hbel
        go_wp2
        go_ret
        exact ⟨⟨_, _, _, rfl⟩, HB.out⟩

set_option maxHeartbeats 2000000 in
theorem bytes_any (a0 : Option Addr) (l0 c0 : Nat) (ks : List ByteArray) (a1 : Option Addr) (l1 c1 : Nat) (vs : List ByteArray) (n m : Int) (w : World) (h0 : l0 ≤ maxLen) (h1 : l1 ≤ maxLen)
    (hl0 : ks.length = l0) (hl1 : vs.length = l1) (hi0 : In w a0 (strs ks)) (hi1 : In w a1 (strs vs)) :
    Calls Try.prog 5 #[.int .i64 n, .int .i64 m, .slice a0 l0 c0, .slice a1 l1 c1] w fun e w' => SomeBool e ∧ w' = w := by
  unfold maxLen at h0 h1
  have HL0 := hide2 hl0
  have HL1 := hide2 hl1
  have HI0 := hide2 hi0
  have HI1 := hide2 hi1
  clear hl0 hl1 hi0 hi1
  go_enter Try.func5, Try.ntmps5
  go_wp2
  · go_ret
    exact ⟨someBool _, rfl⟩
  go_loop [9, 10] (fun v i => ∃ (k : Nat) (z : Int), k ≤ l0 ∧ i = .int .i64 k ∧ v = .int .i64 z) (fun _ i => l0 - (intOf i).toNat)
  case atStart => exact ⟨0, _, Nat.zero_le _, rfl, rfl⟩
  case round =>
    obtain ⟨k, z, hk, rfl, rfl⟩ := hrel
    by_cases hlt : k < l0
    · obtain ⟨b, o, ha, hc⟩ := in_pos HI0.out (by rw [strs_length, HL0.out]; omega)
      subst ha
      obtain ⟨x, hx⟩ : ∃ s, ks.getD k ByteArray.empty = s := ⟨_, rfl⟩
      have cc : w.cell? ⟨b, o + k, none⟩ = some (.string x) := by rw [hc k _ (strs_get (by rw [HL0.out]; omega)), hx]
      clear hx hc
      go_wp2
      · go_ret
        exact ⟨someBool _, rfl⟩
      · go_ret
        exact ⟨someBool _, rfl⟩
      · go_round
        case rel => exact ⟨k + 1, _, by omega, by go_num, rfl⟩
        case measure => simp [intOf]; omega
    · go_wp2
      · go_ret
        exact ⟨someBool _, rfl⟩
      · go_ret
        exact ⟨someBool _, rfl⟩
      go_loop [9, 11] (fun v i => ∃ (k : Nat) (z : Int), k ≤ l1 ∧ i = .int .i64 k ∧ v = .int .i64 z) (fun _ i => l1 - (intOf i).toNat)
      case atStart => exact ⟨0, _, Nat.zero_le _, rfl, rfl⟩
      case round =>
        obtain ⟨k2, z2, hk2, rfl, rfl⟩ := hrel
        by_cases hlt2 : k2 < l1
        · obtain ⟨b, o, ha, hc⟩ := in_pos HI1.out (by rw [strs_length, HL1.out]; omega)
          subst ha
          obtain ⟨x, hx⟩ : ∃ s, vs.getD k2 ByteArray.empty = s := ⟨_, rfl⟩
          have cc : w.cell? ⟨b, o + k2, none⟩ = some (.string x) := by rw [hc k2 _ (strs_get (by rw [HL1.out]; omega)), hx]
          clear hx hc
          go_wp2
          · go_ret
            exact ⟨someBool _, rfl⟩
          · go_ret
            exact ⟨someBool _, rfl⟩
          · go_round
            case rel => exact ⟨k2 + 1, _, by omega, by go_num, rfl⟩
            case measure => simp [intOf]; omega
        · go_wp2
          all_goals (go_ret; exact ⟨someBool _, rfl⟩)

set_option maxHeartbeats 1000000 in
theorem code_big (n m : Int) (a0 : Option Addr) (l0 c0 : Nat) (ks : List ByteArray) (a1 : Option Addr) (l1 c1 : Nat) (vs : List ByteArray) (w : World) (h0 : l0 ≤ maxLen) (h1 : l1 ≤ maxLen)
    (hl0 : ks.length = l0) (hl1 : vs.length = l1) (hi0 : In w a0 (strs ks)) (hi1 : In w a1 (strs vs)) (hb : ¬ (l0 ≤ 65536 ∧ l1 ≤ 65536)) :
    Calls Try.prog 3 #[.int .i64 n, .int .i64 m, .slice a0 l0 c0, .slice a1 l1 c1] w fun e w' => e = .returned (.bool true) ∧ Below w.heap.size w w' := by
  have HC := hide2 (bytes_any a0 l0 c0 ks a1 l1 c1 vs n m w h0 h1 hl0 hl1 hi0 hi1)
  clear hl0 hl1 hi0 hi1
  unfold maxLen at h0 h1
  by_cases g0 : 65536 < l0
  · go_enter Try.func3, Try.ntmps3
    go_wp2_with fail
    refine Calls.mono HC.out ?_
    rintro e w' ⟨⟨b, rfl⟩, hw⟩
    rw [hw]
    clear hw
    cases b <;> (go_wp2; go_ret; exact ⟨rfl, Below.refl _ _⟩)
  · have g1 : 65536 < l1 := by omega
    go_enter Try.func3, Try.ntmps3
    go_wp2_with fail
    refine Calls.mono HC.out ?_
    rintro e w' ⟨⟨b, rfl⟩, hw⟩
    rw [hw]
    clear hw
    cases b <;> (go_wp2; go_ret; exact ⟨rfl, Below.refl _ _⟩)

set_option maxHeartbeats 4000000 in
theorem code_small (n m : Int) (a0 : Option Addr) (l0 c0 : Nat) (ks : List ByteArray) (a1 : Option Addr) (l1 c1 : Nat) (vs : List ByteArray) (w : World) (h0 : l0 ≤ 65536) (h1 : l1 ≤ 65536)
    (hl0 : ks.length = l0) (hl1 : vs.length = l1) (hi0 : In w a0 (strs ks)) (hi1 : In w a1 (strs vs)) :
    Calls Try.prog 3 #[.int .i64 n, .int .i64 m, .slice a0 l0 c0, .slice a1 l1 c1] w fun e w' => e = .returned (.bool true) ∧ Below w.heap.size w w' := by
  have HC := hide2 (bytes_any a0 l0 c0 ks a1 l1 c1 vs n m w (by unfold maxLen; omega) (by unfold maxLen; omega) hl0 hl1 hi0 hi1)
  have HS0 := hide2 (strBytes_any a0 l0 c0 ks w h0 hl0 hi0)
  have HS1 := hide2 (strBytes_any a1 l1 c1 vs w h1 hl1 hi1)
  have HT0 : ∀ w', Below w.heap.size w w' → Hid (Calls Try.prog 11 #[.slice a0 l0 c0] w' fun e w'' => (∃ a n c, e = .returned (.slice a n c)) ∧ Below w'.heap.size w' w'') := fun w' hb => toSymbols_any a0 l0 c0 ks w' h0 hl0 (hi0.later hb)
  have HT1 : ∀ w', Below w.heap.size w w' → Hid (Calls Try.prog 11 #[.slice a1 l1 c1] w' fun e w'' => (∃ a n c, e = .returned (.slice a n c)) ∧ Below w'.heap.size w' w'') := fun w' hb => toSymbols_any a1 l1 c1 vs w' h1 hl1 (hi1.later hb)
  have GT0 := hide2 HT0
  have GT1 := hide2 HT1
  clear hl0 hl1 hi0 hi1 HT0 HT1
  by_cases hnm : 0 ≤ n ∧ n ≤ 65536 ∧ 0 ≤ m ∧ m ≤ 65536
  case neg =>
    have hb' : n < 0 ∨ (0 ≤ n ∧ 65536 < n) ∨ (0 ≤ n ∧ n ≤ 65536 ∧ m < 0) ∨ (0 ≤ n ∧ n ≤ 65536 ∧ 0 ≤ m ∧ 65536 < m) := by omega
    clear hnm GT0 GT1
    go_enter Try.func3, Try.ntmps3
    go_wp2_with fail
    refine Calls.mono HC.out ?_
    rintro e w' ⟨⟨b, rfl⟩, hw⟩
    rw [hw]
    clear hw HC
    cases b
    · go_wp2
      go_ret
      exact ⟨rfl, Below.refl _ _⟩
    go_wp2_with fail
    refine Calls.mono HS0.out ?_
    rintro e w' ⟨⟨z0, rfl⟩, hw⟩
    rw [hw]
    clear hw HS0
    go_wp2_with fail
    refine Calls.mono HS1.out ?_
    rintro e w' ⟨⟨z1, rfl⟩, hw⟩
    rw [hw]
    clear hw HS1
    rcases hb' with g1 | ⟨g1, g2⟩ | ⟨g1, g2, g3⟩ | ⟨g1, g2, g3, g4⟩ <;> go_wp2
    all_goals (go_ret; exact ⟨rfl, Below.refl _ _⟩)
  obtain ⟨p1, p2, p3, p4⟩ := hnm
  obtain ⟨N, rfl⟩ : ∃ N : Nat, n = (N : Int) := ⟨n.toNat, by omega⟩
  obtain ⟨M, rfl⟩ : ∃ M : Nat, m = (M : Int) := ⟨m.toNat, by omega⟩
  have hN : N ≤ 65536 := by omega
  have hM : M ≤ 65536 := by omega
  go_enter Try.func3, Try.ntmps3
  go_wp2_with fail
  refine Calls.mono HC.out ?_
  rintro e w' ⟨⟨b, rfl⟩, hw⟩
  rw [hw]
  clear hw HC
  cases b
  · go_wp2
    go_ret
    exact ⟨rfl, Below.refl _ _⟩
  go_wp2_with fail
  refine Calls.mono HS0.out ?_
  rintro e w' ⟨⟨z0, rfl⟩, hw⟩
  rw [hw]
  clear hw HS0
  go_wp2_with fail
  refine Calls.mono HS1.out ?_
  rintro e w' ⟨⟨z1, rfl⟩, hw⟩
  rw [hw]
  clear hw HS1
  go_upto_if 58 with fail
  · go_ret
    exact ⟨rfl, Below.refl _ _⟩
  have B0 := hide2 (Below.refl w.heap.size w)
  have H1 := hide2 (list_any N w hN)
  go_wp2_with fail
  refine Calls.mono H1.out ?_
  rintro e w1 ⟨rfl, hb⟩
  have B1 := hide2 (B0.out.trans (hb.mono B0.out.size))
  clear hb H1 B0
  have H2 := hide2 (list_any M w1 hM)
  go_wp2_with fail
  refine Calls.mono H2.out ?_
  rintro e w2 ⟨rfl, hb⟩
  have B2 := hide2 (B1.out.trans (hb.mono B1.out.size))
  clear hb H2 B1
  have H3 := hide2 (map_any N w2 hN)
  go_wp2_with fail
  refine Calls.mono H3.out ?_
  rintro e w3 ⟨rfl, hb⟩
  have B3 := hide2 (B2.out.trans (hb.mono B2.out.size))
  clear hb H3 B2
  have H4 := hide2 (map_any M w3 hM)
  go_wp2_with fail
  refine Calls.mono H4.out ?_
  rintro e w4 ⟨rfl, hb⟩
  have B4 := hide2 (B3.out.trans (hb.mono B3.out.size))
  clear hb H4 B3
  have H5 := hide2 (array_any N w4 hN)
  go_wp2_with fail
  refine Calls.mono H5.out ?_
  rintro e w5 ⟨rfl, hb⟩
  have B5 := hide2 (B4.out.trans (hb.mono B4.out.size))
  clear hb H5 B4
  have H6 := hide2 (array_any M w5 hM)
  go_wp2_with fail
  refine Calls.mono H6.out ?_
  rintro e w6 ⟨rfl, hb⟩
  have B6 := hide2 (B5.out.trans (hb.mono B5.out.size))
  clear hb H6 B5
  go_wp2_with fail
  refine Calls.mono (GT0.out w6 B6.out).out ?_
  rintro e w7 ⟨⟨sa, sn, sc, rfl⟩, hb⟩
  have B7 := hide2 (B6.out.trans (hb.mono B6.out.size))
  have H7 := hide2 (symbols_any sa sn sc w7)
  clear hb B6
  go_wp2_with fail
  refine Calls.mono H7.out ?_
  rintro e w' ⟨rfl, hw⟩
  rw [hw]
  clear hw H7
  go_wp2_with fail
  refine Calls.mono (GT1.out w7 B7.out).out ?_
  rintro e w8 ⟨⟨ta, tn, tc, rfl⟩, hb⟩
  have B8 := hide2 (B7.out.trans (hb.mono B7.out.size))
  have H8 := hide2 (symbols_any ta tn tc w8)
  clear hb B7
  go_wp2_with fail
  refine Calls.mono H8.out ?_
  rintro e w' ⟨rfl, hw⟩
  rw [hw]
  clear hw H8
  go_wp2
  go_ret
  exact ⟨rfl, B8.out⟩

theorem code_any (n m : Int) (a0 : Option Addr) (l0 c0 : Nat) (ks : List ByteArray) (a1 : Option Addr) (l1 c1 : Nat) (vs : List ByteArray) (w : World) (h0 : l0 ≤ maxLen) (h1 : l1 ≤ maxLen)
    (hl0 : ks.length = l0) (hl1 : vs.length = l1) (hi0 : In w a0 (strs ks)) (hi1 : In w a1 (strs vs)) :
    Calls Try.prog 3 #[.int .i64 n, .int .i64 m, .slice a0 l0 c0, .slice a1 l1 c1] w fun e w' => e = .returned (.bool true) ∧ Below w.heap.size w w' := by
  by_cases hb : l0 ≤ 65536 ∧ l1 ≤ 65536
  · exact code_small n m a0 l0 c0 ks a1 l1 c1 vs w hb.1 hb.2 hl0 hl1 hi0 hi1
  · exact code_big n m a0 l0 c0 ks a1 l1 c1 vs w h0 h1 hl0 hl1 hi0 hi1 hb
end Go.Proofs.Qxb6609459a
