/-
  WALKS shared by the seat's two statements: what isPositional, isArgvView, joinOf, shownParams, valueOf, zzArgOut, ZZvalueOf compute.
-/
import Derived.Test.Qxb6609369aRows
import Derived.WalkKit
import Derived.WalkSpells
import Derived.WalkLawsBesides
import Derived.Lib.Strings
namespace Go.Proofs.Qxb6609369a
open Go.RowKit

set_option maxHeartbeats 400000 in
theorem hasPrefix_any (s p : ByteArray) (w : World) :
    Calls Try.prog 23 #[.string s, .string p] w fun e w' => e = .returned (.bool (Lib.hasPrefix s.data.toList p.data.toList)) ∧ w' = w := by
  rw [← Lib.hasPrefix_raw]
  by_cases h : p.size ≤ s.size
  · go_enter Try.func23, Try.ntmps23
    go_wp2
    go_ret
    refine ⟨?_, rfl⟩
    simp [h]
  · go_enter Try.func23, Try.ntmps23
    go_wp2
    go_ret
    refine ⟨?_, rfl⟩
    simp [h]

set_option maxHeartbeats 400000 in
theorem hasSuffix_any (s p : ByteArray) (w : World) (hs : s.size ≤ 1048600) :
    Calls Try.prog 24 #[.string s, .string p] w fun e w' => e = .returned (.bool (Lib.hasSuffix s.data.toList p.data.toList)) ∧ w' = w := by
  rw [← Lib.hasSuffix_raw]
  by_cases h : p.size ≤ s.size
  · go_enter Try.func24, Try.ntmps24
    go_wp2
    go_ret
    refine ⟨?_, rfl⟩
    simp [h]
  · go_enter Try.func24, Try.ntmps24
    go_wp2
    go_ret
    refine ⟨?_, rfl⟩
    simp [h]


def at0 (s : ByteArray) : Bool := Lib.hasPrefix s.data.toList [64]
def star0 (s : ByteArray) : Bool := Lib.hasPrefix s.data.toList [42]
def argv (s : ByteArray) : Bool := Lib.hasSuffix s.data.toList [32, 97, 114, 103, 118]

theorem hasPrefix_at (s : ByteArray) (w : World) :
    Calls Try.prog 23 #[.string s, .string { data := #[64] }] w fun e w' => e = .returned (.bool (at0 s)) ∧ w' = w := hasPrefix_any s _ w
theorem hasSuffix_argv (s : ByteArray) (w : World) (hs : s.size ≤ 1048600) :
    Calls Try.prog 24 #[.string s, .string { data := #[32, 97, 114, 103, 118] }] w fun e w' => e = .returned (.bool (argv s)) ∧ w' = w := hasSuffix_any s _ w hs

set_option maxHeartbeats 400000 in
theorem isPositional_any (s : ByteArray) (w : World) :
    Calls Try.prog 19 #[.string s] w fun e w' => e = .returned (.bool (at0 s)) ∧ w' = w := by
  go_enter Try.func19, Try.ntmps19
  go_wp2_with (go_at_call 23; refine (hasPrefix_at _ _).mono ?_; rintro e w' ⟨rfl, rfl⟩)
  go_ret
  exact ⟨rfl, rfl⟩

set_option maxHeartbeats 400000 in
theorem isArgvView_any (s : ByteArray) (w : World) (hs : s.size ≤ 1048600) :
    Calls Try.prog 20 #[.string s] w fun e w' => e = .returned (.bool (at0 s && argv s)) ∧ w' = w := by
  cases h : at0 s
  · go_enter Try.func20, Try.ntmps20
    go_wp2_with (first | (go_at_call 19; refine (isPositional_any _ _).mono ?_; rintro e w' ⟨rfl, rfl⟩) | (go_at_call 24; refine (hasSuffix_argv _ _ hs).mono ?_; rintro e w' ⟨rfl, rfl⟩))
    go_ret
    exact ⟨rfl, rfl⟩
  · go_enter Try.func20, Try.ntmps20
    go_wp2_with (first | (go_at_call 19; refine (isPositional_any _ _).mono ?_; rintro e w' ⟨rfl, rfl⟩) | (go_at_call 24; refine (hasSuffix_argv _ _ hs).mono ?_; rintro e w' ⟨rfl, rfl⟩))
    go_ret
    exact ⟨rfl, rfl⟩

theorem star0_raw (s : ByteArray) : star0 s = (decide (1 ≤ s.size) && ((s.extract 0 1).toList == [42])) := by
  have h := Lib.hasPrefix_raw s ⟨#[42]⟩
  rw [Lib.toList_data ⟨#[42]⟩] at h
  exact h.symm

/-- the tail behind the first byte. -/
def tail1 (s : ByteArray) : ByteArray := s.extract 1 s.size
set_option maxHeartbeats 400000 in
theorem cutPrefix_star (s : ByteArray) (w : World) (h : star0 s = true) :
    Calls Try.prog 25 #[.string s, .string { data := #[42] }] w fun e w' => e = .returned (.tuple #[.string (tail1 s), .bool true]) ∧ w' = w := by
  rw [star0_raw] at h
  simp only [Bool.and_eq_true, decide_eq_true_eq] at h
  obtain ⟨h1, h2⟩ := h
  go_enter Try.func25, Try.ntmps25
  go_wp2
  go_ret2
  exact ⟨rfl, rfl⟩
set_option maxHeartbeats 400000 in
theorem cutPrefix_not (s : ByteArray) (w : World) (h : star0 s = false) :
    Calls Try.prog 25 #[.string s, .string { data := #[42] }] w fun e w' => e = .returned (.tuple #[.string s, .bool false]) ∧ w' = w := by
  rw [star0_raw] at h
  by_cases h1 : 1 ≤ s.size
  · have h2 : ((s.extract 0 1).toList == [42]) = false := by simpa [h1] using h
    go_enter Try.func25, Try.ntmps25
    go_wp2
    go_ret2
    exact ⟨rfl, rfl⟩
  · go_enter Try.func25, Try.ntmps25
    go_wp2
    go_ret2
    exact ⟨rfl, rfl⟩

set_option maxHeartbeats 400000 in
theorem cutSuffix_any (s p : ByteArray) (w : World) (hs : s.size ≤ 1048600) :
    Calls Try.prog 26 #[.string s, .string p] w fun e w' => ∃ v b, e = .returned (.tuple #[.string v, .bool b]) ∧ v.size ≤ s.size ∧ w' = w := by
  by_cases h : p.size ≤ s.size
  · go_enter Try.func26, Try.ntmps26
    go_wp2
    · go_ret2
      exact ⟨_, _, rfl, by omega, rfl⟩
    · go_ret2
      exact ⟨_, _, rfl, by simp, rfl⟩
  · go_enter Try.func26, Try.ntmps26
    go_wp2
    go_ret2
    exact ⟨_, _, rfl, by omega, rfl⟩

set_option maxHeartbeats 400000 in
theorem joinOf_star (s : ByteArray) (w : World) (hs : s.size ≤ 1048600) (h : star0 s = true) :
    Calls Try.prog 21 #[.string s] w fun e w' => e = .returned (.tuple #[.string (⟨#[64]⟩ ++ tail1 s), .bool true]) ∧ w' = w := by
  have h1 : (tail1 s).size ≤ s.size := by simp [tail1]
  go_enter Try.func21, Try.ntmps21
  go_wp2_with (first | (go_at_call 25; refine (cutPrefix_star _ _ h).mono ?_; rintro e w' ⟨rfl, rfl⟩))
  go_ret2
  exact ⟨rfl, rfl⟩

set_option maxHeartbeats 400000 in
theorem joinOf_not (s : ByteArray) (w : World) (hs : s.size ≤ 1048600) (h : star0 s = false) :
    Calls Try.prog 21 #[.string s] w fun e w' => ∃ v b, e = .returned (.tuple #[.string v, .bool b]) ∧ (b && at0 v) = false ∧ w' = w := by
  go_enter Try.func21, Try.ntmps21
  go_wp2_with (first | (go_at_call 25; refine (cutPrefix_not _ _ h).mono ?_; rintro e w' ⟨rfl, rfl⟩) | (go_at_call 26; refine (cutSuffix_any _ _ _ hs).mono ?_; rintro e w' ⟨v, b, rfl, hv, rfl⟩) | (go_at_call 19; refine (isPositional_any _ _).mono ?_; rintro e w' ⟨rfl, rfl⟩))
  all_goals go_ret2
  all_goals refine ⟨_, _, rfl, ?_, rfl⟩
  · simp
  · simp
  · simp
end Go.Proofs.Qxb6609369a
