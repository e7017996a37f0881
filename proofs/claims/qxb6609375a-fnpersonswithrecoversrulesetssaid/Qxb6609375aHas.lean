/-
  WALKS: ruleSet.has.
-/
import Derived.Test.Qxb6609375aRows
import Derived.WalkKit
import Derived.WalkSpells
import Derived.WalkLawsBesides
namespace Go.Proofs.Qxb6609375a
open Go.RowKit

theorem cast_pow (r : Nat) : ((2 : Int) ^ r) = ((2 ^ r : Nat) : Int) := by
  induction r with
  | zero => rfl
  | succ n ih => rw [Int.pow_succ, ih, Nat.pow_succ]; omega
theorem pow_lt16 (r : Nat) (hr : r ≤ 15) : 2 ^ r < 65536 := by
  have : 2 ^ r ≤ 2 ^ 15 := Nat.pow_le_pow_right (by omega) hr
  omega
theorem wrap_pow (r : Nat) (hr : r ≤ 15) : IntKind.u16.wrap (2 ^ r) = ((2 ^ r : Nat) : Int) := by
  rw [cast_pow, IntKind.wrap_u16]
  have := pow_lt16 r hr
  generalize 2 ^ r = q at this ⊢
  omega
theorem bit_has (x r : Nat) (hx : x < 65536) (hr : r ≤ 15) : (bits .and .u16 (x : Int) (IntKind.u16.wrap (2 ^ r)) != 0) = x.testBit r := by
  rw [wrap_pow r hr, u16_and_nat x (2 ^ r) hx (pow_lt16 r hr), nat_bit, Nat.testBit_eq_decide_div_mod_eq]
  have hp : 0 < 2 ^ r := Nat.pow_pos (by omega)
  have h2 : x / 2 ^ r % 2 = 0 ∨ x / 2 ^ r % 2 = 1 := by omega
  rcases h2 with h2 | h2
  · rw [h2]; simp
  · rw [h2]
    have : (1 * 2 ^ r : Nat) ≠ 0 := by omega
    rw [decide_eq_true rfl, bne_iff_ne]
    intro h
    exact this (by exact_mod_cast h)

set_option maxHeartbeats 400000 in
theorem has_any (x r : Nat) (w : World) (hx : x < 65536) (hr : r ≤ 15) :
    Calls Try.prog 7 #[.int .u16 (x : Int), .int .u8 (r : Int)] w fun e w' => e = .returned (.bool (x.testBit r)) ∧ w' = w := by
  go_enter Try.func7, Try.ntmps7
  go_wp2
  go_ret
  exact ⟨by rw [← bit_has x r hx hr]; rfl, rfl⟩
end Go.Proofs.Qxb6609375a
