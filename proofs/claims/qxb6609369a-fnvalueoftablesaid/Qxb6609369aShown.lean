/-
  WALKS shared by the seat's two statements, on: shownParams, valueOf, zzArgOut, ZZvalueOf.
-/
import Derived.Test.Qxb6609369aStr
namespace Go.Proofs.Qxb6609369a
open Go.RowKit

theorem at0_join (s : ByteArray) : at0 (⟨#[64]⟩ ++ s) = true := by
  simp [at0, Lib.hasPrefix]
def sArgv : ByteArray := { data := #[66, 65, 83, 72, 95, 65, 82, 71, 86] }
def sArgvAll : ByteArray := { data := #[66, 65, 83, 72, 95, 65, 82, 71, 86, 91, 42, 93] }
def sAt : ByteArray := { data := #[64] }
def sStar : ByteArray := { data := #[42] }
/-- the name that a report shows. -/
def shown (s : ByteArray) : ByteArray :=
  if at0 s then (if argv s then sArgv else sAt)
  else if star0 s then (if argv (⟨#[64]⟩ ++ tail1 s) then sArgvAll else sStar)
  else s
def isShown (s : ByteArray) : Bool := at0 s || star0 s
def shownOr (s : ByteArray) : ByteArray := if isShown s then shown s else ByteArray.empty

set_option maxHeartbeats 1000000 in
theorem shownParams_any (s : ByteArray) (w : World) (hs : s.size ≤ 1048590) :
    Calls Try.prog 17 #[.string s] w fun e w' => e = .returned (.tuple #[.string (shownOr s), .bool (isShown s)]) ∧ w' = w := by
  have hs' : s.size ≤ 1048600 := by omega
  have ht : (({ data := #[64] } : ByteArray) ++ tail1 s).size ≤ 1048600 := by
    have : (tail1 s).size ≤ s.size := by simp [tail1]
    have e : (({ data := #[64] } : ByteArray) ++ tail1 s).size = 1 + (tail1 s).size := by rw [ByteArray.size_append]; rfl
    omega
  have hj := at0_join (tail1 s)
  unfold shownOr shown isShown
  cases h0 : at0 s
  · cases h1 : star0 s
    · go_enter Try.func17, Try.ntmps17
      go_wp2_with (first | (go_at_call 19; refine (isPositional_any _ _).mono ?_; rintro e w' ⟨rfl, rfl⟩) | (go_at_call 21; refine (joinOf_not _ _ hs' h1).mono ?_; rintro e w' ⟨v, b, rfl, hvb, rfl⟩))
      · simp_all
      · go_ret2
        exact ⟨rfl, rfl⟩
      · go_ret2
        exact ⟨rfl, rfl⟩
    · cases h2 : argv (⟨#[64]⟩ ++ tail1 s)
      all_goals
        go_enter Try.func17, Try.ntmps17
        go_wp2_with (first | (go_at_call 21; refine (joinOf_star _ _ hs' h1).mono ?_; rintro e w' ⟨rfl, rfl⟩) | (go_at_call 19; refine (isPositional_any _ _).mono ?_; rintro e w' ⟨rfl, rfl⟩) | (go_at_call 20; refine (isArgvView_any _ _ ht).mono ?_; rintro e w' ⟨rfl, rfl⟩))
        go_ret2
        exact ⟨rfl, rfl⟩
  · cases h2 : argv s
    all_goals
      go_enter Try.func17, Try.ntmps17
      go_wp2_with (first | (go_at_call 19; refine (isPositional_any _ _).mono ?_; rintro e w' ⟨rfl, rfl⟩) | (go_at_call 20; refine (isArgvView_any _ _ hs').mono ?_; rintro e w' ⟨rfl, rfl⟩))
      go_ret2
      exact ⟨rfl, rfl⟩
end Go.Proofs.Qxb6609369a
