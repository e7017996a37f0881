/-
  WALKS: ZZentry, ZZentryFields, mapSection, ZZmapSection, ZZdescribedAt.
-/
import Derived.Test.Qxb6609459aSec
import Derived.Deep.RegionLaw
namespace Go.Proofs.Qxb6609459a
open Go.RowKit
set_option linter.unusedVariables false
set_option maxRecDepth 100000

def entV (k : ByteArray) (v : Int) : Value := .agg #[.iface 9 (.string k), .iface 2 (.int .i64 v)]
theorem size52 : (Try.prog.info? 52).map (·.size) = some 2 := by kernel_rfl
theorem entry_any (k : ByteArray) (v : Int) (w : World) : Calls Try.prog 21 #[.string k, .int .i64 v] w fun e w' => e = .returned (.agg #[.iface 9 (.string k), .iface 2 (.int .i64 v)]) ∧ Below w.heap.size w w' := by
  go_enter Try.func21, Try.ntmps21
  go_wp2
  exact bodyPost_ret (v := .agg #[.iface 9 (.string k), .iface 2 (.int .i64 v)]) (results_cell_row Try.results21 _ _ w.heap.size 52 _ (0, 0) _ rfl (heap_alloc_new w _) Try.underlying52 rfl size52) rfl ⟨rfl, below_alloc _ _⟩
theorem as9 (s : ByteArray) (w : World) : (Instr.typeAssert (.iface 9 (.string s)) 20 9 true).run Try.prog w = .ok (.tuple #[.string s, .bool true]) w := by kernel_rfl
theorem as2 (s : Int) (w : World) : (Instr.typeAssert (.iface 2 (.int .i64 s)) 20 2 true).run Try.prog w = .ok (.tuple #[.int .i64 s, .bool true]) w := by kernel_rfl
theorem as35 (s : Int) (w : World) : (Instr.typeAssert (.iface 35 (.int .u64 s)) 20 35 true).run Try.prog w = .ok (.tuple #[.int .u64 s, .bool true]) w := by kernel_rfl
theorem as55 (x y : Value) (w : World) : (Instr.typeAssert (.iface 55 (.agg #[x, y])) 20 55 true).run Try.prog w = .ok (.tuple #[.agg #[x, y], .bool true]) w := by kernel_rfl
theorem entryFields_any (k : ByteArray) (v : Int) (w : World) : Calls Try.prog 22 #[.agg #[.iface 9 (.string k), .iface 2 (.int .i64 v)]] w fun e w' => e = .returned (.tuple #[.string k, .int .i64 v, .bool true]) ∧ Below w.heap.size w w' := by
  have h1 := as9
  have h2 := as2
  go_enter Try.func22, Try.ntmps22
  go_wp2
  go_ret3
  exact ⟨rfl, below_alloc _ _⟩
def descV (c : Int) (m : Value) : Value := .iface 55 (.agg #[.iface 35 (.int .u64 c), .iface 40 m])
theorem described_any (va : Nat) (n c j : Nat) (code : Int) (g : Option Addr) (l cap : Nat) (w : World) (hj : j < n) (hn : n ≤ 65536) (h : w.cell? ⟨va, j, none⟩ = some (descV code (.slice g l cap))) :
    Calls Try.prog 16 #[.slice (some ⟨va, 0, none⟩) n c, .int .i64 (j : Int)] w fun e w' => e = .returned (.tuple #[.int .u64 code, .slice g l cap, .bool true]) ∧ Below w.heap.size w w' := by
  have h1 := as35
  have h2 := as40_40
  have h3 := as55
  unfold descV at h
  have hjn : (j : Int) < (n : Int) := by omega
  go_enter Try.func16, Try.ntmps16
  go_wp2
  go_ret3
  exact ⟨rfl, below_alloc _ _⟩

theorem eql40 (w : World) (a : Option Addr) (n c : Nat) : (binOp .eql 40 (.slice a n c) (.slice none 0 0)).run Try.prog w = .ok (.bool a.isNone) w := Lib.run_eql_slice_nil (P := Try.prog) w 40 52 a n c 0 0 Try.underlying40
theorem eql36 (w : World) (a : Option Addr) (n c : Nat) : (binOp .eql 36 (.slice a n c) (.slice none 0 0)).run Try.prog w = .ok (.bool a.isNone) w := Lib.run_eql_slice_nil (P := Try.prog) w 36 49 a n c 0 0 Try.underlying36
theorem mapSection_nil (v : Value) (code : Int) (w : World) : Calls Try.prog 20 #[v, .int .u64 code, .slice none 0 0] w fun e w' => e = .returned v ∧ w' = w := by
  have h1 := eql40
  go_enter Try.func20, Try.ntmps20
  go_wp2
  go_ret
  exact ⟨rfl, rfl⟩
set_option maxHeartbeats 1000000 in
theorem mapSection_some (B k : Nat) (v : Value) (xs : List Value) (code : Int) (g l cap : Nat) (w : World) (hown : w.ownsRow B 20 1 v k xs) (hk : k ≤ 65536) (hB : B ≤ w.heap.size) :
    Calls Try.prog 20 #[v, .int .u64 code, .slice (some ⟨g, 0, none⟩) l cap] w fun e w' => ∃ v', e = .returned v' ∧ w'.ownsRow B 20 1 v' (k + 1) (xs ++ [descV code (.slice (some ⟨g, 0, none⟩) l cap)]) ∧
      (w.alloc (.cells #[descV code (.slice (some ⟨g, 0, none⟩) l cap)] 20)).grownBy w' v.ownBlock := by
  have h1 := eql40
  obtain ⟨i0, hi, hz0, hz1, hz2⟩ := info_parts info20
  have HO := hide2 hown
  clear hown
  unfold descV
  go_enter Try.func20, Try.ntmps20
  go_wp2_with (first | (at_builtin; refine wpList_append_own _ rfl (.tmp 10) (.tmp 17) 33 rfl B 20 i0 .nilIface 1 16 Try.underlying33 hi hz0 hz1 hz2 rfl (by decide) _ _ _ rfl (World.ownsRow.alloc HO.out _) ⟨w.heap.size, 0, none⟩ 1 1 [.iface 55 (.agg #[.iface 35 (.int .u64 code), .iface 40 (.slice (some ⟨g, 0, none⟩) l cap)])] rfl rfl (cell_one_new _ _ _) (by intro u hu; simp at hu; subst hu; rfl) (by unfold maxLen; omega) (by omega) (by simp; omega) ?_; intro v' w2 hown2 hgrow2 hnil2; have R1 := hide2 hown2; have R2 := hide2 hgrow2; clear hown2 hgrow2 hnil2))
  go_ret
  exact ⟨_, rfl, R1.out, R2.out⟩
theorem zzMap_nil (v : Value) (code : Int) (w : World) : Calls Try.prog 14 #[v, .int .u64 code, .slice none 0 0] w fun e w' => e = .returned v ∧ w' = w := by
  have HC := hide2 (mapSection_nil v code w)
  go_enter Try.func14, Try.ntmps14
  go_wp2_with fail
  refine Calls.mono HC.out ?_
  rintro e w' ⟨rfl, hw⟩
  rw [hw]
  clear hw
  go_wp2
  go_ret
  exact ⟨rfl, rfl⟩
theorem zzMap_some (B k : Nat) (v : Value) (xs : List Value) (code : Int) (g l cap : Nat) (w : World) (hown : w.ownsRow B 20 1 v k xs) (hk : k ≤ 65536) (hB : B ≤ w.heap.size) :
    Calls Try.prog 14 #[v, .int .u64 code, .slice (some ⟨g, 0, none⟩) l cap] w fun e w' => ∃ v', e = .returned v' ∧ w'.ownsRow B 20 1 v' (k + 1) (xs ++ [descV code (.slice (some ⟨g, 0, none⟩) l cap)]) ∧
      (w.alloc (.cells #[descV code (.slice (some ⟨g, 0, none⟩) l cap)] 20)).grownBy w' v.ownBlock := by
  have HC := hide2 (mapSection_some B k v xs code g l cap w hown hk hB)
  clear hown
  go_enter Try.func14, Try.ntmps14
  go_wp2_with fail
  refine Calls.mono HC.out ?_
  rintro e w' ⟨v', rfl, h1, h2⟩
  have R1 := hide2 h1
  have R2 := hide2 h2
  clear h1 h2 HC
  go_wp2
  go_ret
  exact ⟨_, rfl, R1.out, R2.out⟩
end Go.Proofs.Qxb6609459a
