/-
  WALKS: ZZmarkUsed, ZZmarkNamed, ZZusedLen, ZZusedHas, ZZnamedLen, ZZnamedHas, ZZvaluesNil, ZZnameAt, zzMin, zzLastOf.
-/
import Derived.Test.Qxb6609385aAny
import Derived.Lib.Strings
namespace Go.Proofs.Qxb6609385a
open Go.RowKit
set_option linter.unusedVariables false
set_option maxRecDepth 100000

/-- the set that holds k alone. -/
def oneG (k : ByteArray) : ByteArray → Option Value := fun x => if x = k then some (.bool true) else none
theorem oneG_self (k : ByteArray) : oneG k k = some (.bool true) := if_pos rfl
theorem markUsed_any (e u : Nat) (k : ByteArray) (w : World) (hc : w.cell? ⟨e, 2, none⟩ = some (.map (some u))) (hm : MapIs w u 0 (fun _ => none)) :
    Calls Try.prog 9 #[.pointer (some ⟨e, 0, none⟩), .string k] w fun en w' => en = .returned (.tuple #[]) ∧ MapIs w' u 1 (oneG k) ∧ Put w w' u := by
  obtain ⟨w1, hrun, hm1, hput⟩ := run_put (P := Try.prog) Try.underlying51 Try.underlying9 hm k (.bool true)
  have H1 : Hid (MapIs w1 u 1 (oneG k)) := hm1
  have H2 := hide2 hput
  clear hm1 hput hm
  go_enter Try.func9, Try.ntmps9
  go_wp2
  go_end0
  exact ⟨rfl, H1.out, H2.out⟩
theorem markNamed_any (e u : Nat) (k : ByteArray) (w : World) (hc : w.cell? ⟨e, 3, none⟩ = some (.map (some u))) (hm : MapIs w u 0 (fun _ => none)) :
    Calls Try.prog 10 #[.pointer (some ⟨e, 0, none⟩), .string k] w fun en w' => en = .returned (.tuple #[]) ∧ MapIs w' u 1 (oneG k) ∧ Put w w' u := by
  obtain ⟨w1, hrun, hm1, hput⟩ := run_put (P := Try.prog) Try.underlying51 Try.underlying9 hm k (.bool true)
  have H1 : Hid (MapIs w1 u 1 (oneG k)) := hm1
  have H2 := hide2 hput
  clear hm1 hput hm
  go_enter Try.func10, Try.ntmps10
  go_wp2
  go_end0
  exact ⟨rfl, H1.out, H2.out⟩
theorem usedLen_any (e u n : Nat) (g : ByteArray → Option Value) (w : World) (hc : w.cell? ⟨e, 2, none⟩ = some (.map (some u))) (hm : MapIs w u n g) :
    Calls Try.prog 11 #[.pointer (some ⟨e, 0, none⟩)] w fun en w' => en = .returned (.int .i64 (n : Int)) ∧ w' = w := by
  have hlen := run_mapLen (P := Try.prog) (ty := 3) Try.underlying51 hm
  obtain ⟨es, clock, hb, hn, _⟩ := hm
  subst hn
  have hget := MapKept.run_getObj_map (P := Try.prog) hb
  go_enter Try.func11, Try.ntmps11
  go_wp2
  go_ret
  exact ⟨rfl, rfl⟩
theorem namedLen_any (e u n : Nat) (g : ByteArray → Option Value) (w : World) (hc : w.cell? ⟨e, 3, none⟩ = some (.map (some u))) (hm : MapIs w u n g) :
    Calls Try.prog 13 #[.pointer (some ⟨e, 0, none⟩)] w fun en w' => en = .returned (.int .i64 (n : Int)) ∧ w' = w := by
  have hlen := run_mapLen (P := Try.prog) (ty := 3) Try.underlying51 hm
  obtain ⟨es, clock, hb, hn, _⟩ := hm
  subst hn
  have hget := MapKept.run_getObj_map (P := Try.prog) hb
  go_enter Try.func13, Try.ntmps13
  go_wp2
  go_ret
  exact ⟨rfl, rfl⟩
theorem zero4 (w : World) : (zeroValue 4).run Try.prog w = .ok (.bool false) w := by kernel_rfl
theorem zero20 (w : World) : (zeroValue 20).run Try.prog w = .ok .nilIface w := by kernel_rfl
theorem usedHas_any (e u n : Nat) (g : ByteArray → Option Value) (k : ByteArray) (w : World) (hc : w.cell? ⟨e, 2, none⟩ = some (.map (some u))) (hm : MapIs w u n g) (hg : g k = some (.bool true)) :
    Calls Try.prog 12 #[.pointer (some ⟨e, 0, none⟩), .string k] w fun en w' => en = .returned (.bool true) ∧ w' = w := by
  have hrun := run_get (P := Try.prog) Try.underlying51 Try.underlying9 (zero4 w) hm k false
  rw [hg] at hrun
  simp only [Option.getD_some, Bool.false_eq_true, if_false] at hrun
  clear hm hg
  go_enter Try.func12, Try.ntmps12
  go_wp2
  go_ret
  exact ⟨rfl, rfl⟩
theorem namedHas_any (e u n : Nat) (g : ByteArray → Option Value) (k : ByteArray) (w : World) (hc : w.cell? ⟨e, 3, none⟩ = some (.map (some u))) (hm : MapIs w u n g) (hg : g k = some (.bool true)) :
    Calls Try.prog 14 #[.pointer (some ⟨e, 0, none⟩), .string k] w fun en w' => en = .returned (.bool true) ∧ w' = w := by
  have hrun := run_get (P := Try.prog) Try.underlying51 Try.underlying9 (zero4 w) hm k false
  rw [hg] at hrun
  simp only [Option.getD_some, Bool.false_eq_true, if_false] at hrun
  clear hm hg
  go_enter Try.func14, Try.ntmps14
  go_wp2
  go_ret
  exact ⟨rfl, rfl⟩
theorem valuesNil_any (e : Nat) (w : World) (hc : w.cell? ⟨e, 1, none⟩ = some (.map none)) :
    Calls Try.prog 15 #[.pointer (some ⟨e, 0, none⟩)] w fun en w' => en = .returned (.bool true) ∧ w' = w := by
  have hq := fun (w : World) (r : Option Nat) => run_eql_map_nil (P := Try.prog) w 48 9 20 r Try.underlying48
  go_enter Try.func15, Try.ntmps15
  go_wp2
  go_ret
  exact ⟨rfl, rfl⟩
theorem assert_string (s : ByteArray) (w : World) : (Instr.typeAssert (.iface 9 (.string s)) 20 9 true).run Try.prog w = .ok (.tuple #[.string s, .bool true]) w := by kernel_rfl
theorem assert_nil9 (w : World) : (Instr.typeAssert .nilIface 20 9 true).run Try.prog w = .ok (.tuple #[.string ByteArray.empty, .bool false]) w := by kernel_rfl
theorem nameAt_yes (e u n : Nat) (g : ByteArray → Option Value) (k s : ByteArray) (w : World) (hc : w.cell? ⟨e, 0, none⟩ = some (.map (some u))) (hm : MapIs w u n g) (hg : g k = some (.iface 9 (.string s))) :
    Calls Try.prog 18 #[.pointer (some ⟨e, 0, none⟩), .string k] w fun en w' => en = .returned (.tuple #[.string s, .bool true]) ∧ w' = w := by
  have hrun := run_get (P := Try.prog) Try.underlying48 Try.underlying9 (zero20 w) hm k true
  rw [hg] at hrun
  simp only [Option.getD_some, if_true, Option.isSome_some] at hrun
  have ha := assert_string
  clear hm hg
  go_enter Try.func18, Try.ntmps18
  go_wp2
  go_ret2
  exact ⟨rfl, rfl⟩
theorem nameAt_no (e u n : Nat) (g : ByteArray → Option Value) (k : ByteArray) (w : World) (hc : w.cell? ⟨e, 0, none⟩ = some (.map (some u))) (hm : MapIs w u n g) (hg : g k = none) :
    Calls Try.prog 18 #[.pointer (some ⟨e, 0, none⟩), .string k] w fun en w' => en = .returned (.tuple #[.string ByteArray.empty, .bool false]) ∧ w' = w := by
  have hrun := run_get (P := Try.prog) Try.underlying48 Try.underlying9 (zero20 w) hm k true
  rw [hg] at hrun
  simp only [Option.getD_none, if_true, Option.isSome_none] at hrun
  have ha := assert_nil9
  clear hm hg
  go_enter Try.func18, Try.ntmps18
  go_wp2
  go_ret2
  exact ⟨rfl, rfl⟩
theorem min_any (a b : Nat) (w : World) : Calls Try.prog 16 #[.int .i64 (a : Int), .int .i64 (b : Int)] w fun en w' => en = .returned (.int .i64 ((min a b : Nat) : Int)) ∧ w' = w := by
  by_cases h : a < b
  · have e : min a b = a := by omega
    rw [e]
    clear e
    go_enter Try.func16, Try.ntmps16
    go_wp2
    go_ret
    exact ⟨rfl, rfl⟩
  · have e : min a b = b := by omega
    rw [e]
    clear e
    go_enter Try.func16, Try.ntmps16
    go_wp2
    go_ret
    exact ⟨rfl, rfl⟩

/-- the number that zzLastOf hands back. -/
def lastNum (o : Option Nat) : Int := match o with | some j => (j : Int) | none => -1
theorem lastNum_some (j : Nat) : lastNum (some j) = (j : Int) := rfl
theorem lastNum_none : lastNum none = -1 := rfl

theorem bytes_ne {a b : ByteArray} (h : (a.toList == b.toList) = false) : a ≠ b := by
  intro e
  subst e
  simp at h
theorem bytes_eq {a b : ByteArray} (h : (a.toList == b.toList) = true) : a = b := by
  have h' : a.toList = b.toList := eq_of_beq h
  rw [Lib.toList_data, Lib.toList_data] at h'
  rw [← Lib.mk_data a, ← Lib.mk_data b, h']
theorem last_hit {ks : List ByteArray} {k : Nat} {x key : ByteArray} (hx : ks.getD k ByteArray.empty = x) (h : (x.toList == key.toList) = true) : lastIdx ks key (k + 1) = some k := by
  rw [lastIdx, hx, if_pos (bytes_eq h)]
theorem last_miss {ks : List ByteArray} {k : Nat} {x key : ByteArray} (hx : ks.getD k ByteArray.empty = x) (h : (x.toList == key.toList) = false) : lastIdx ks key (k + 1) = lastIdx ks key k := by
  rw [lastIdx, hx, if_neg (bytes_ne h)]

set_option maxHeartbeats 400000 in
theorem lastOf_any (ka : Option Addr) (ks : List ByteArray) (n1 n : Nat) (key : ByteArray) (w : World) (h1 : n1 ≤ 4096) (hl1 : ks.length = n1) (hn : n ≤ n1) (hk : Lies w ka (strs ks)) :
    Calls Try.prog 17 #[.slice ka n1 n1, .int .i64 (n : Int), .string key] w fun en w' => en = .returned (.int .i64 (lastNum (lastIdx ks key n))) ∧ w' = w := by
  have HL1 := hide2 hl1
  have HK := hide2 hk
  clear hl1 hk
  go_enter Try.func17, Try.ntmps17
  go_wp2
  go_loop [7, 8] (fun v i => ∃ k : Nat, k ≤ n ∧ i = .int .i64 k ∧ v = .int .i64 (lastNum (lastIdx ks key k))) (fun _ i => n - (intOf i).toNat)
  case atStart => exact ⟨0, Nat.zero_le _, rfl, rfl⟩
  case round =>
    obtain ⟨k, hk, rfl, rfl⟩ := hrel
    by_cases hlt : k < n
    · obtain ⟨kb, hka, hkc⟩ := lies_pos HK.out (by rw [strs_length, HL1.out]; omega)
      subst hka
      obtain ⟨x, hx⟩ : ∃ s, ks.getD k ByteArray.empty = s := ⟨_, rfl⟩
      have c1 : w.cell? ⟨kb, k, none⟩ = some (.string x) := by rw [hkc k _ (strs_get (by rw [HL1.out]; omega)), hx]
      have HX := hide2 hx
      clear hx hkc
      cases ht : (x.toList == key.toList)
      · go_wp2
        go_round
        case rel => exact ⟨k + 1, by omega, by go_num, by rw [last_miss HX.out ht]⟩
        case measure => simp [intOf]; omega
      · go_wp2
        go_round
        case rel => exact ⟨k + 1, by omega, by go_num, by rw [last_hit HX.out ht]; rfl⟩
        case measure => simp [intOf]; omega
    · have ek : k = n := by omega
      subst ek
      go_wp2
      go_ret
      exact ⟨rfl, rfl⟩
end Go.Proofs.Qxb6609385a
