/-
  THE PLAIN LAW: what the rule sets' bits come to.
-/
import Derived.Test.Qxb6609375aZZ
namespace Go.Proofs.Qxb6609375a
open Go.RowKit
set_option linter.unusedVariables false

/-- the bits 1 .. r-1 of x. -/
def acc (x : Nat) : Nat → Nat
  | 0 => 0
  | r + 1 => acc x r ||| (if r ≠ 0 ∧ x.testBit r then 2 ^ r else 0)

theorem acc_one (x : Nat) : acc x 1 = 0 := by simp [acc]
theorem acc_bit (x r i : Nat) : (acc x r).testBit i = (decide (1 ≤ i ∧ i < r) && x.testBit i) := by
  induction r with
  | zero => simp [acc]
  | succ r ih =>
    rw [acc, Nat.testBit_or, ih]
    by_cases h : r ≠ 0 ∧ x.testBit r
    · rw [if_pos h, Nat.testBit_two_pow]
      by_cases e : r = i
      · subst e
        have h1 : (1 ≤ r ∧ r < r + 1) := by omega
        simp [h1, h.2]
      · have h2 : (1 ≤ i ∧ i < r + 1) ↔ (1 ≤ i ∧ i < r) := by omega
        simp [e, h2]
    · rw [if_neg h, Nat.zero_testBit, Bool.or_false]
      by_cases e : r = i
      · subst e
        by_cases h0 : r = 0
        · subst h0; simp
        · have hb : x.testBit r = false := by
            cases hh : x.testBit r
            · rfl
            · exact absurd ⟨h0, hh⟩ h
          simp [hb]
      · have h2 : (1 ≤ i ∧ i < r + 1) ↔ (1 ≤ i ∧ i < r) := by omega
        simp [h2]
theorem acc_lt (x r : Nat) (hr : r ≤ 16) : acc x r < 65536 := by
  induction r with
  | zero => simp [acc]
  | succ r ih =>
    rw [acc]
    have h1 := ih (by omega)
    have h2 : (if r ≠ 0 ∧ x.testBit r then 2 ^ r else 0) < 2 ^ 16 := by
      split
      · exact Nat.pow_lt_pow_right (by omega) (by omega)
      · omega
    have := Nat.or_lt_two_pow (n := 16) (by omega : acc x r < 2 ^ 16) h2
    omega
theorem bit_65534 (i : Nat) : (65534 : Nat).testBit i = decide (1 ≤ i ∧ i < 16) := by
  have e : (65534 : Nat) = 2 * (2 ^ 15 - 1) := by decide
  rw [e]
  cases i with
  | zero => simp
  | succ j =>
    rw [Nat.testBit_succ, Nat.mul_div_cancel_left _ (by omega), Nat.testBit_two_pow_sub_one]
    congr 1
    apply propext
    omega
theorem acc_all (x : Nat) : acc x 16 = x &&& 65534 := by
  apply Nat.eq_of_testBit_eq
  intro i
  rw [acc_bit, Nat.testBit_and, bit_65534, Bool.and_comm]

/-- what 'rebuilt' holds for 'id' in the round of rule r, once the ids in L have been seen. -/
def reb (f ps : List Nat) (r : Nat) (L : List Nat) (id : Nat) : Nat :=
  if id ∈ ps then acc (f.getD id 0) r ||| (if id ∈ L then 2 ^ r else 0) else 0

theorem reb_lt (f ps : List Nat) (r : Nat) (L : List Nat) (id : Nat) (hr : r ≤ 15) : reb f ps r L id < 65536 := by
  unfold reb
  split
  · have h1 := acc_lt (f.getD id 0) r (by omega)
    have h2 : (if id ∈ L then 2 ^ r else 0) < 2 ^ 16 := by
      split
      · exact Nat.pow_lt_pow_right (by omega) (by omega)
      · omega
    have := Nat.or_lt_two_pow (n := 16) (by omega : acc (f.getD id 0) r < 2 ^ 16) h2
    omega
  · omega
theorem reb_first (f ps : List Nat) (id : Nat) : reb f ps 1 [] id = 0 := by simp [reb, acc_one]
theorem reb_step {f ps : List Nat} {r : Nat} {L : List Nat} {k id0 : Nat} (hk : k < L.length) (hid : L.getD k 0 = id0) (hp : id0 ∈ ps) (j : Nat) :
    (if j = id0 then reb f ps r (L.take k) id0 ||| 2 ^ r else reb f ps r (L.take k) j) = reb f ps r (L.take (k + 1)) j := by
  have et : L.take (k + 1) = L.take k ++ [id0] := by
    rw [List.take_succ_eq_append_getElem hk, ← hid]
    simp [List.getD, hk]
  by_cases e : j = id0
  · subst e
    rw [if_pos rfl]
    unfold reb
    rw [if_pos hp, if_pos hp, et]
    have hm : j ∈ L.take k ++ [j] := by simp
    rw [if_pos hm, Nat.or_assoc]
    congr 1
    split
    · exact Nat.or_self _
    · exact Nat.zero_or _
  · rw [if_neg e]
    unfold reb
    rw [et]
    have hm : (j ∈ L.take k ++ [id0]) ↔ j ∈ L.take k := by simp [e]
    simp only [hm]
theorem reb_next {f ps : List Nat} {r : Nat} (hr : 1 ≤ r) (id : Nat) : reb f ps r (listOf f r ps) id = reb f ps (r + 1) [] id := by
  unfold reb
  by_cases hp : id ∈ ps
  · rw [if_pos hp, if_pos hp, acc]
    have e0 : (r == 0) = false := by rw [beq_eq_false_iff_ne]; omega
    have hm : (id ∈ listOf f r ps) ↔ (r ≠ 0 ∧ (f.getD id 0).testBit r) := by
      unfold listOf
      rw [List.mem_filter]
      unfold keeps
      rw [e0]
      constructor
      · rintro ⟨_, h⟩
        simp at h
        exact ⟨by omega, by simpa using h.2⟩
      · rintro ⟨_, h⟩
        refine ⟨hp, ?_⟩
        have h0 : f.getD id 0 ≠ 0 := by
          intro e
          rw [e] at h
          simp at h
        rw [h]
        simp only [Bool.false_or, Bool.and_true, bne_iff_ne]
        exact h0
    simp only [hm, List.not_mem_nil, if_false, Nat.or_zero]
  · rw [if_neg hp, if_neg hp]
theorem reb_last (f ps : List Nat) (id : Nat) (hp : id ∈ ps) : reb f ps 16 [] id = f.getD id 0 &&& 65534 := by
  unfold reb
  rw [if_pos hp, acc_all]
  simp
theorem reb_out (f ps : List Nat) (r : Nat) (L : List Nat) (id : Nat) (hp : id ∉ ps) : reb f ps r L id = 0 := by
  unfold reb
  rw [if_neg hp]
theorem any_iff (f ps : List Nat) (id : Nat) : id ∈ listOf f 0 ps ↔ id ∈ ps ∧ f.getD id 0 ≠ 0 := by
  unfold listOf
  rw [List.mem_filter]
  unfold keeps
  simp
theorem listOf_mem {f ps : List Nat} {r id : Nat} (h : id ∈ listOf f r ps) : id ∈ ps := by
  unfold listOf at h
  exact (List.mem_filter.1 h).1
end Go.Proofs.Qxb6609375a
