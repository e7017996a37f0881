/-
  WALKS: package time's Add, Sub, Equal on times without a monotonic reading and without a location.
-/
import Derived.Test.Qxb6609385aRows
import Derived.WalkKit
import Derived.WalkSpells
import Derived.WalkLawsBesides
namespace Go.Proofs.Qxb6609385a
open Go.RowKit
set_option linter.unusedVariables false
set_option maxRecDepth 100000

theorem b_nsec (x : Nat) (hx : x < 1000000000) : bits .and .u64 (x : Int) 1073741823 = (x : Int) := by
  have h := u64_and_nat x 1073741823 (by omega) (by omega)
  rw [Nat.and_two_pow_sub_one_eq_mod x 30, Nat.mod_eq_of_lt (by omega)] at h
  exact h
theorem b_mono (x : Nat) (hx : x < 1000000000) : (bits .and .u64 (x : Int) 9223372036854775808 != 0) = false := by
  have h := u64_and_nat x 9223372036854775808 (by omega) (by omega)
  have e : x &&& 9223372036854775808 = 0 := by
    have h2 := nat_bit 63 x
    have h3 : x / 2 ^ 63 = 0 := Nat.div_eq_of_lt (by omega)
    rw [h3] at h2
    simpa using h2
  rw [e] at h
  have h' : bits .and .u64 (x : Int) 9223372036854775808 = 0 := h
  rw [h']
  rfl

theorem nsec_any (b o : Nat) (x : Nat) (w : World) (hx : x < 1000000000) (hc : w.cell? ⟨b, o, none⟩ = some (.int .u64 (x : Int))) :
    Calls Try.prog 34 #[.pointer (some ⟨b, o, none⟩)] w fun e w' => e = .returned (.int .i32 (x : Int)) ∧ w' = w := by
  have hb := b_nsec x hx
  go_enter Try.func34, Try.ntmps34
  go_wp2
  go_ret
  exact ⟨rfl, rfl⟩
theorem sec_any (b o : Nat) (x : Nat) (s : Int) (w : World) (hx : x < 1000000000) (hc : w.cell? ⟨b, o, none⟩ = some (.int .u64 (x : Int))) (hs : w.cell? ⟨b, o + 1, none⟩ = some (.int .i64 s)) :
    Calls Try.prog 41 #[.pointer (some ⟨b, o, none⟩)] w fun e w' => e = .returned (.int .i64 s) ∧ w' = w := by
  have hb := b_mono x hx
  go_enter Try.func41, Try.ntmps41
  go_wp2
  go_ret
  exact ⟨rfl, rfl⟩
/-- addSec where the sum fits. -/
theorem addSec_any (b o : Nat) (x : Nat) (s d : Int) (w : World) (hx : x < 1000000000) (h1 : -100000000000 ≤ s) (h2 : s ≤ 100000000000) (h3 : -100000000000 ≤ d) (h4 : d ≤ 100000000000)
    (hc : w.cell? ⟨b, o, none⟩ = some (.int .u64 (x : Int))) (hs : w.cell? ⟨b, o + 1, none⟩ = some (.int .i64 s)) (hf : w.frozen? ⟨b, o + 1, none⟩ = false) :
    Calls Try.prog 35 #[.pointer (some ⟨b, o, none⟩), .int .i64 d] w fun e w' => e = .returned (.tuple #[]) ∧ w' = w.setCell ⟨b, o + 1, none⟩ (.int .i64 (s + d)) := by
  have hb := b_mono x hx
  by_cases hd : 0 < d
  · go_enter Try.func35, Try.ntmps35
    go_wp2
    go_end0
    exact ⟨rfl, rfl⟩
  · have hk : decide (s < s + d) = false := decide_eq_false (by omega)
    go_enter Try.func35, Try.ntmps35
    go_wp2
    go_end0
    exact ⟨rfl, rfl⟩

/-- a time by its nanoseconds since the zero time. -/
def timeC (T : Int) : Array Value := #[.int .u64 (T % 1000000000), .int .i64 (T / 1000000000), .pointer none]

theorem b_clear (x : Nat) (hx : x < 1000000000) : bits .andNot .u64 (x : Int) 1073741823 = 0 := by
  have h := u64_andNot_nat x 1073741823 (by omega) (by omega)
  have e : x &&& (18446744073709551615 - 1073741823) = 0 := by
    have e2 : (18446744073709551615 - 1073741823 : Nat) = 2 ^ 30 * 17179869183 := by decide
    rw [e2]
    apply Nat.eq_of_testBit_eq
    intro i
    rw [Nat.testBit_and, Nat.testBit_two_pow_mul, Nat.zero_testBit]
    by_cases hi : 30 ≤ i
    · have : x.testBit i = false := Nat.testBit_lt_two_pow (Nat.lt_of_lt_of_le (by omega : x < 2 ^ 30) (Nat.pow_le_pow_right (by omega) hi))
      rw [this]; rfl
    · simp [hi]
  rw [e] at h
  exact h
theorem b_or (y : Nat) (hy : y < 1000000000) : bits .or .u64 0 (y : Int) = (y : Int) := by
  have h := u64_or_nat 0 y (by omega) (by omega)
  rw [Nat.zero_or] at h
  exact h
theorem timeC_of {T s : Int} {x : Nat} (hx : T % 1000000000 = (x : Int)) (hs : T / 1000000000 = s) : timeC T = #[.int .u64 (x : Int), .int .i64 s, .pointer none] := by
  unfold timeC; rw [hx, hs]
theorem tquo (d : Int) : d = 1000000000 * d.tdiv 1000000000 + d.tmod 1000000000 := (Int.mul_tdiv_add_tmod d 1000000000).symm
theorem trem (d : Int) : -1000000000 < d.tmod 1000000000 ∧ d.tmod 1000000000 < 1000000000 := by
  constructor
  · have := Int.lt_tmod_of_pos d (by decide : (0 : Int) < 1000000000); omega
  · exact Int.tmod_lt_of_pos d (by decide)

set_option maxHeartbeats 2000000 in
/-- Add, walked once for the sum's three ways: 'y' nanoseconds, 'c' seconds carried. -/
theorem add_way (x y : Nat) (s q r c : Int) (d : Int) (w : World) (hx : x < 1000000000) (hy : y < 1000000000) (hq : d.tdiv 1000000000 = q) (hr : d.tmod 1000000000 = r)
    (hq1 : -9000000000 ≤ q) (hq2 : q ≤ 9000000000) (hr1 : -1000000000 < r) (hr2 : r < 1000000000) (hs1 : -10000000000 ≤ s) (hs2 : s ≤ 10000000000) (hd1 : -8500000000000000000 ≤ d) (hd2 : d ≤ 8500000000000000000)
    (hcase : (1000000000 ≤ (x : Int) + r ∧ c = 1 ∧ (y : Int) = (x : Int) + r - 1000000000) ∨ ((x : Int) + r < 0 ∧ c = -1 ∧ (y : Int) = (x : Int) + r + 1000000000) ∨ (0 ≤ (x : Int) + r ∧ (x : Int) + r < 1000000000 ∧ c = 0 ∧ (y : Int) = (x : Int) + r)) :
    Calls Try.prog 30 #[.agg #[.int .u64 (x : Int), .int .i64 s, .pointer none], .int .i64 d] w fun e w' => e = .returned (.agg #[.int .u64 (y : Int), .int .i64 (s + (q + c)), .pointer none]) ∧ Below w.heap.size w w' := by
  have hbx := b_clear x hx
  have hmy := b_mono y hy
  rcases hcase with ⟨g1, rfl, g2⟩ | ⟨g1, rfl, g2⟩ | ⟨g1, g1', rfl, g2⟩
  · have hoy : bits .or .u64 0 ((x : Int) + r - 1000000000) = (y : Int) := by rw [← g2]; exact b_or y hy
    clear g2
    go_enter Try.func30, Try.ntmps30
    go_wp2_with (first | (go_at_call 34; refine (nsec_any _ _ x _ hx ?_).mono ?_; (simp); rintro e w' ⟨rfl, hw⟩; rw [hw]; clear hw))
    refine (addSec_any _ _ y s (q + 1) _ hy (by omega) (by omega) (by omega) (by omega) ?_ ?_ ?_).mono ?_
    · simp
    · simp
    · simp
    rintro e w1 ⟨rfl, hw⟩
    rw [hw]
    clear hw
    go_wp2
    exact bodyPost_ret (v := .agg #[.int .u64 (y : Int), .int .i64 (s + (q + 1)), .pointer none]) (by simp [results, Try.results30, go_sem]) rfl ⟨rfl, ((Below.refl _ _).alloc (Nat.le_refl _) _).alloc (by simp) _⟩
  · have hoy : bits .or .u64 0 ((x : Int) + r + 1000000000) = (y : Int) := by rw [← g2]; exact b_or y hy
    clear g2
    rw [show (q + -1 : Int) = q - 1 by omega]
    go_enter Try.func30, Try.ntmps30
    go_wp2_with (first | (go_at_call 34; refine (nsec_any _ _ x _ hx ?_).mono ?_; (simp); rintro e w' ⟨rfl, hw⟩; rw [hw]; clear hw))
    refine (addSec_any _ _ y s (q - 1) _ hy (by omega) (by omega) (by omega) (by omega) ?_ ?_ ?_).mono ?_
    · simp
    · simp
    · simp
    rintro e w1 ⟨rfl, hw⟩
    rw [hw]
    clear hw
    go_wp2
    exact bodyPost_ret (v := .agg #[.int .u64 (y : Int), .int .i64 (s + (q - 1)), .pointer none]) (by simp [results, Try.results30, go_sem]) rfl ⟨rfl, ((Below.refl _ _).alloc (Nat.le_refl _) _).alloc (by simp) _⟩
  · have hoy : bits .or .u64 0 ((x : Int) + r) = (y : Int) := by rw [← g2]; exact b_or y hy
    clear g2
    rw [Int.add_zero]
    go_enter Try.func30, Try.ntmps30
    go_wp2_with (first | (go_at_call 34; refine (nsec_any _ _ x _ hx ?_).mono ?_; (simp); rintro e w' ⟨rfl, hw⟩; rw [hw]; clear hw))
    refine (addSec_any _ _ y s q _ hy (by omega) (by omega) (by omega) (by omega) ?_ ?_ ?_).mono ?_
    · simp
    · simp
    · simp
    rintro e w1 ⟨rfl, hw⟩
    rw [hw]
    clear hw
    go_wp2
    exact bodyPost_ret (v := .agg #[.int .u64 (y : Int), .int .i64 (s + q), .pointer none]) (by simp [results, Try.results30, go_sem]) rfl ⟨rfl, ((Below.refl _ _).alloc (Nat.le_refl _) _).alloc (by simp) _⟩

theorem add_any (T d : Int) (w : World) (h1 : -8500000000000000000 ≤ T) (h2 : T ≤ 8500000000000000000) (h3 : -8500000000000000000 ≤ d) (h4 : d ≤ 8500000000000000000) :
    Calls Try.prog 30 #[.agg (timeC T), .int .i64 d] w fun e w' => e = .returned (.agg (timeC (T + d))) ∧ Below w.heap.size w w' := by
  obtain ⟨x, hx⟩ : ∃ x : Nat, T % 1000000000 = (x : Int) := ⟨(T % 1000000000).toNat, by omega⟩
  obtain ⟨s, hs⟩ : ∃ s : Int, T / 1000000000 = s := ⟨_, rfl⟩
  obtain ⟨y, hy⟩ : ∃ y : Nat, (T + d) % 1000000000 = (y : Int) := ⟨((T + d) % 1000000000).toNat, by omega⟩
  have e1 := tquo d
  have e2 := trem d
  obtain ⟨q, hq⟩ : ∃ q, d.tdiv 1000000000 = q := ⟨_, rfl⟩
  obtain ⟨r, hr⟩ : ∃ r, d.tmod 1000000000 = r := ⟨_, rfl⟩
  rw [hq, hr] at e1
  rw [hr] at e2
  have key : ∀ c : Int, ((1000000000 ≤ (x : Int) + r ∧ c = 1 ∧ (y : Int) = (x : Int) + r - 1000000000) ∨ ((x : Int) + r < 0 ∧ c = -1 ∧ (y : Int) = (x : Int) + r + 1000000000) ∨ (0 ≤ (x : Int) + r ∧ (x : Int) + r < 1000000000 ∧ c = 0 ∧ (y : Int) = (x : Int) + r)) →
      Calls Try.prog 30 #[.agg (timeC T), .int .i64 d] w fun e w' => e = .returned (.agg (timeC (T + d))) ∧ Below w.heap.size w w' := by
    intro c hc
    rw [timeC_of hx hs, timeC_of (T := T + d) (s := s + (q + c)) hy (by omega)]
    exact add_way x y s q r c d w (by omega) (by omega) hq hr (by omega) (by omega) (by omega) (by omega) (by omega) (by omega) h3 h4 hc
  by_cases g1 : 1000000000 ≤ (x : Int) + r
  · exact key 1 (.inl ⟨g1, rfl, by omega⟩)
  · by_cases g2 : (x : Int) + r < 0
    · exact key (-1) (.inr (.inl ⟨g2, rfl, by omega⟩))
    · exact key 0 (.inr (.inr ⟨by omega, by omega, rfl, by omega⟩))
end Go.Proofs.Qxb6609385a
