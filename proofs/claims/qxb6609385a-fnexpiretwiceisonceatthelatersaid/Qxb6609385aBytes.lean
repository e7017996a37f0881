/-
  WALKS: zzBytes_FnNewExpressionsGivesEachCallItsOwnMarks, zzStrBytes: each hands back something and turns nothing.
-/
import Derived.Test.Qxb6609385aPair
namespace Go.Proofs.Qxb6609385a
open Go.RowKit
set_option linter.unusedVariables false
set_option maxRecDepth 100000

/-- a slice that came in: its cells, wherever it lies. -/
def In (w : World) (a : Option Addr) (cs : List Value) : Prop :=
  cs = [] ∨ ∃ b o, a = some ⟨b, o, none⟩ ∧ ∀ k v, cs[k]? = some v → w.cell? ⟨b, o + k, none⟩ = some v
theorem in_pos {w : World} {a : Option Addr} {cs : List Value} (h : In w a cs) (hp : 0 < cs.length) : ∃ b o, a = some ⟨b, o, none⟩ ∧ ∀ k v, cs[k]? = some v → w.cell? ⟨b, o + k, none⟩ = some v := by
  rcases h with rfl | h
  · simp at hp
  · exact h

set_option maxHeartbeats 1000000 in
theorem strBytes_any (a0 : Option Addr) (l0 c0 : Nat) (ss : List ByteArray) (w : World) (h0 : l0 ≤ 4096) (hl : ss.length = l0) (hi : In w a0 (strs ss)) :
    Calls Try.prog 7 #[.slice a0 l0 c0] w fun e w' => (∃ z, e = .returned (.int .i64 z)) ∧ w' = w := by
  have HL := hide2 hl
  have HI := hide2 hi
  clear hl hi
  go_enter Try.func7, Try.ntmps7
  go_wp2
  go_loop [3, 4] (fun v i => ∃ (k : Nat) (z : Int), k ≤ l0 ∧ i = .int .i64 k ∧ v = .int .i64 z) (fun _ i => l0 - (intOf i).toNat)
  case atStart => exact ⟨0, _, Nat.zero_le _, rfl, rfl⟩
  case round =>
    obtain ⟨k, z, hk, rfl, rfl⟩ := hrel
    by_cases hlt : k < l0
    · obtain ⟨b, o, ha, hc⟩ := in_pos HI.out (by rw [strs_length, HL.out]; omega)
      subst ha
      obtain ⟨x, hx⟩ : ∃ s, ss.getD k ByteArray.empty = s := ⟨_, rfl⟩
      have c1 : w.cell? ⟨b, o + k, none⟩ = some (.string x) := by rw [hc k _ (strs_get (by rw [HL.out]; omega)), hx]
      clear hx hc
      by_cases hz : z ≤ 1048576
      · go_wp2
        go_round
        case rel => exact ⟨k + 1, _, by omega, by go_num, rfl⟩
        case measure => simp [intOf]; omega
      · go_wp2
        go_ret
        exact ⟨⟨_, rfl⟩, rfl⟩
    · go_wp2
      go_ret
      exact ⟨⟨_, rfl⟩, rfl⟩

/-- it hands back a bool. -/
def SomeBool (e : Ending) : Prop := ∃ b, e = .returned (.bool b)
theorem someBool (b : Bool) : SomeBool (.returned (.bool b)) := ⟨b, rfl⟩

set_option maxHeartbeats 2000000 in
theorem bytes_any (a0 : Option Addr) (l0 c0 : Nat) (ks : List ByteArray) (a1 : Option Addr) (l1 c1 : Nat) (vs : List ByteArray) (mark : ByteArray) (w : World) (h0 : l0 ≤ maxLen) (h1 : l1 ≤ maxLen)
    (hl0 : ks.length = l0) (hl1 : vs.length = l1) (hi0 : In w a0 (strs ks)) (hi1 : In w a1 (strs vs)) :
    Calls Try.prog 6 #[.slice a0 l0 c0, .slice a1 l1 c1, .string mark] w fun e w' => SomeBool e ∧ w' = w := by
  unfold maxLen at h0 h1
  have HL0 := hide2 hl0
  have HL1 := hide2 hl1
  have HI0 := hide2 hi0
  have HI1 := hide2 hi1
  clear hl0 hl1 hi0 hi1
  go_enter Try.func6, Try.ntmps6
  go_wp2
  · go_ret
    exact ⟨someBool _, rfl⟩
  go_loop [7, 8] (fun v i => ∃ (k : Nat) (z : Int), k ≤ l0 ∧ i = .int .i64 k ∧ v = .int .i64 z) (fun _ i => l0 - (intOf i).toNat)
  case atStart => exact ⟨0, _, Nat.zero_le _, rfl, rfl⟩
  case round =>
    obtain ⟨k, z, hk, rfl, rfl⟩ := hrel
    by_cases hlt : k < l0
    · obtain ⟨b, o, ha, hc⟩ := in_pos HI0.out (by rw [strs_length, HL0.out]; omega)
      subst ha
      obtain ⟨x, hx⟩ : ∃ s, ks.getD k ByteArray.empty = s := ⟨_, rfl⟩
      have cc : w.cell? ⟨b, o + k, none⟩ = some (.string x) := by rw [hc k _ (strs_get (by rw [HL0.out]; omega)), hx]
      clear hx hc
      go_wp2
      · go_ret
        exact ⟨someBool _, rfl⟩
      · go_ret
        exact ⟨someBool _, rfl⟩
      · go_round
        case rel => exact ⟨k + 1, _, by omega, by go_num, rfl⟩
        case measure => simp [intOf]; omega
    · go_wp2
      · go_ret
        exact ⟨someBool _, rfl⟩
      · go_ret
        exact ⟨someBool _, rfl⟩
      go_loop [7, 9] (fun v i => ∃ (k : Nat) (z : Int), k ≤ l1 ∧ i = .int .i64 k ∧ v = .int .i64 z) (fun _ i => l1 - (intOf i).toNat)
      case atStart => exact ⟨0, _, Nat.zero_le _, rfl, rfl⟩
      case round =>
        obtain ⟨k2, z2, hk2, rfl, rfl⟩ := hrel
        by_cases hlt2 : k2 < l1
        · obtain ⟨b, o, ha, hc⟩ := in_pos HI1.out (by rw [strs_length, HL1.out]; omega)
          subst ha
          obtain ⟨x, hx⟩ : ∃ s, vs.getD k2 ByteArray.empty = s := ⟨_, rfl⟩
          have cc : w.cell? ⟨b, o + k2, none⟩ = some (.string x) := by rw [hc k2 _ (strs_get (by rw [HL1.out]; omega)), hx]
          clear hx hc
          go_wp2
          · go_ret
            exact ⟨someBool _, rfl⟩
          · go_ret
            exact ⟨someBool _, rfl⟩
          · go_round
            case rel => exact ⟨k2 + 1, _, by omega, by go_num, rfl⟩
            case measure => simp [intOf]; omega
        · go_wp2
          all_goals (go_ret; exact ⟨someBool _, rfl⟩)
end Go.Proofs.Qxb6609385a
