/-
  WALKS for FnValueOfTable: zzEndsWith, zzShown.
-/
import Derived.Test.Qxb6609369aZZ
import Derived.Deep.QuietTactic
import Derived.BigQuiet
namespace Go.Proofs.Qxb6609369a
open Go.RowKit

theorem suf_iff (s p : List UInt8) (d : Nat) (h : s.length = d + p.length) : Lib.hasSuffix s p = true ↔ ∀ j, j < p.length → s[d + j]? = p[j]? := by
  rw [← Lib.hasSuffix_of_drop]
  have e : s.length - p.length = d := by omega
  have hl : p.length ≤ s.length := by omega
  rw [e]
  simp only [hl, decide_true, Bool.true_and, beq_iff_eq]
  constructor
  · intro h1 j _
    rw [← h1, List.getElem?_drop]
  · intro h1
    apply List.ext_getElem?
    intro j
    rw [List.getElem?_drop]
    by_cases hj : j < p.length
    · exact h1 j hj
    · rw [List.getElem?_eq_none (by omega), List.getElem?_eq_none (by omega)]
theorem byteAt (s : ByteArray) (m : Nat) (h : m < s.size) : s.data.toList[m]? = some s[m] := by
  rw [List.getElem?_eq_getElem (by simpa using h)]
  rfl
theorem suf_no {s p : ByteArray} {d m k : Nat} (h : s.size = d + p.size) (hm : m = d + k) (hk : k < p.size) (i1 : m < s.size) (hne : ((s[m].toNat : Int) != (p[k].toNat : Int)) = true) :
    Lib.hasSuffix s.data.toList p.data.toList = false := by
  rw [Bool.eq_false_iff]
  intro hc
  rw [suf_iff _ _ d (by rw [← Lib.size_eq, ← Lib.size_eq]; exact h)] at hc
  have := hc k (by rw [← Lib.size_eq]; exact hk)
  rw [← hm, byteAt s m i1, byteAt p k hk] at this
  injection this with this
  rw [this] at hne
  simp at hne
theorem suf_yes {s p : ByteArray} {d : Nat} (h : s.size = d + p.size) (hall : ∀ j, j < p.size → s.data.toList[d + j]? = p.data.toList[j]?) :
    Lib.hasSuffix s.data.toList p.data.toList = true := by
  rw [suf_iff _ _ d (by rw [← Lib.size_eq, ← Lib.size_eq]; exact h)]
  intro j hj
  exact hall j (by rw [Lib.size_eq]; exact hj)
theorem suf_step {s p : ByteArray} {d m k : Nat} (hm : m = d + k) (hk : k < p.size) (i1 : m < s.size) (hne : ((s[m].toNat : Int) != (p[k].toNat : Int)) = false)
    (hall : ∀ j, j < k → s.data.toList[d + j]? = p.data.toList[j]?) : ∀ j, j < k + 1 → s.data.toList[d + j]? = p.data.toList[j]? := by
  intro j hj
  by_cases e : j = k
  · subst e
    have h2 : s[m] = p[j] := by
      have h3 : (s[m].toNat : Int) = (p[j].toNat : Int) := by simpa using hne
      exact UInt8.toNat_inj.1 (by omega)
    rw [← hm, byteAt s m i1, byteAt p j hk, h2]
  · exact hall j (by omega)
theorem ret_bool {a b : Bool} (h : a = b) : Ending.returned (.bool a) = .returned (.bool b) := by rw [h]
theorem drewN_add (w : World) (a b : Nat) : (w.drewN a).drewN b = w.drewN (a + b) := by simp

theorem ends_short (s p : ByteArray) (w : World) (h : s.size < p.size) :
    Calls Try.prog 13 #[.string s, .string p] w fun e w' => e = .returned (.bool false) ∧ w' = w := by
  go_enter Try.func13, Try.ntmps13
  go_wp2
  go_ret
  exact ⟨rfl, rfl⟩

set_option maxHeartbeats 1000000 in
theorem ends_long (s p : ByteArray) (w : World) (hs : s.size ≤ 1048600) (h : p.size ≤ s.size) :
    Calls Try.prog 13 #[.string s, .string p] w fun e w' => e = .returned (.bool (Lib.hasSuffix s.data.toList p.data.toList)) ∧ ∃ n, w' = w.drewN n := by
  obtain ⟨d, hd⟩ : ∃ d, s.size = d + p.size := ⟨s.size - p.size, by omega⟩
  have HD : Hid _ := hd
  have hd1 : d + p.size ≤ s.size := by omega
  have hd2 : s.size ≤ d + p.size := by omega
  clear hd
  have eo : (s.size : Int) - (p.size : Int) = (d : Int) := by omega
  go_enter Try.func13, Try.ntmps13
  go_wp2
  go_loopw [6] (fun i wr => ∃ k n : Nat, k ≤ p.size ∧ i = .int .i64 k ∧ wr = w.drewN n ∧ ∀ j, j < k → s.data.toList[d + j]? = p.data.toList[j]?) (fun i _ => p.size - (intOf i).toNat)
  case atStart => exact ⟨0, 0, Nat.zero_le _, rfl, rfl, fun j hj => absurd hj (Nat.not_lt_zero _)⟩
  case round =>
    obtain ⟨k, n, hk, rfl, rfl, hall⟩ := hrel
    have HA : Hid _ := hall
    clear hall
    by_cases hlt : k < p.size
    · obtain ⟨m, hm⟩ : ∃ m : Nat, m = d + k := ⟨_, rfl⟩
      have hw : IntKind.i64.wrap ((d : Int) + (k : Int)) = (m : Int) := by
        rw [Go.IntWalk.i64_in _ (by omega)]
        omega
      have i1 : m < s.size := by omega
      have i2 : (m : Int) < (s.size : Int) := by omega
      have i3 : (k : Int) < (p.size : Int) := by omega
      have HM : Hid _ := hm
      clear hm
      go_wp2
      go_quiet (fail)
      go_wp2
      · go_ret
        exact ⟨ret_bool (suf_no HD.out HM.out hlt i1 ‹_›).symm, _, drewN_add _ _ _⟩
      · go_roundw
        case rel => exact ⟨k + 1, _, by omega, by go_num, rfl, suf_step HM.out hlt i1 ‹_› HA.out⟩
        case measure => simp [intOf]; omega
    · go_wp2
      go_ret
      have ek : k = p.size := by omega
      exact ⟨ret_bool (suf_yes HD.out (fun j hj => HA.out j (by omega))).symm, _, rfl⟩

theorem ends_any (s p : ByteArray) (w : World) (hs : s.size ≤ 1048600) :
    Calls Try.prog 13 #[.string s, .string p] w fun e w' => e = .returned (.bool (Lib.hasSuffix s.data.toList p.data.toList)) ∧ ∃ n, w' = w.drewN n := by
  by_cases h : p.size ≤ s.size
  · exact ends_long s p w hs h
  · refine (ends_short s p w (by omega)).mono ?_
    rintro e w' ⟨rfl, rfl⟩
    refine ⟨?_, 0, rfl⟩
    rw [← Lib.hasSuffix_raw]
    simp [h]
theorem ends_argv (s : ByteArray) (w : World) (hs : s.size ≤ 1048600) :
    Calls Try.prog 13 #[.string s, .string { data := #[32, 97, 114, 103, 118] }] w fun e w' => e = .returned (.bool (argv s)) ∧ ∃ n, w' = w.drewN n := ends_any s _ w hs

theorem cons_of_prefix (l : List UInt8) (c : UInt8) (h : Lib.hasPrefix l [c] = true) : ∃ r, l = c :: r := by
  unfold Lib.hasPrefix at h
  cases l with
  | nil => simp at h
  | cons a r =>
    simp at h
    exact ⟨r, by rw [h]⟩
theorem not_prefix (l : List UInt8) (c : UInt8) (h : Lib.hasPrefix l [c] = false) (h0 : 0 < l.length) : l[0] ≠ c := by
  unfold Lib.hasPrefix at h
  cases l with
  | nil => simp at h0
  | cons a r =>
    intro e
    have e' : a = c := e
    subst e'
    simp at h
theorem first_yes (s : ByteArray) (c : UInt8) (h : Lib.hasPrefix s.data.toList [c] = true) : ∃ h : 0 < s.size, s[0] = c := by
  obtain ⟨r, hr⟩ := cons_of_prefix _ _ h
  have h0 : 0 < s.size := by rw [Lib.size_eq, hr]; simp
  refine ⟨h0, ?_⟩
  have := byteAt s 0 h0
  rw [hr] at this
  simp at this
  exact this.symm
theorem first_no (s : ByteArray) (c : UInt8) (h : Lib.hasPrefix s.data.toList [c] = false) (h0 : 0 < s.size) : ((s[0].toNat : Int) == (c.toNat : Int)) = false := by
  have := not_prefix _ _ h (by rw [← Lib.size_eq]; exact h0)
  rw [beq_eq_false_iff_ne]
  intro e
  apply this
  have e2 : s[0] = c := UInt8.toNat_inj.1 (by omega)
  rw [← e2]
  rfl
theorem suffix_head (a b : UInt8) (r : List UInt8) (ha : a ≠ 32) (hb : b ≠ 32) : Lib.hasSuffix (a :: r) [32, 97, 114, 103, 118] = Lib.hasSuffix (b :: r) [32, 97, 114, 103, 118] := by
  unfold Lib.hasSuffix
  rw [Bool.eq_iff_iff]
  simp only [List.isSuffixOf_iff_suffix, List.suffix_cons_iff]
  constructor
  · rintro (h | h)
    · injection h with h1 h2
      exact absurd h1.symm ha
    · exact .inr h
  · rintro (h | h)
    · injection h with h1 h2
      exact absurd h1.symm hb
    · exact .inr h
theorem argv_star (s : ByteArray) (h : star0 s = true) : argv (⟨#[64]⟩ ++ tail1 s) = argv s := by
  obtain ⟨r, hr⟩ := cons_of_prefix _ _ h
  have e1 : (⟨#[64]⟩ ++ tail1 s : ByteArray).data.toList = 64 :: r := by
    have e2 : (tail1 s).data.toList = r := by
      unfold tail1
      rw [Lib.extract_data, hr, List.drop_one, List.tail_cons]
      exact List.take_of_length_le (by rw [Lib.size_eq, hr]; simp)
    have e3 : (⟨#[64]⟩ ++ tail1 s : ByteArray).data.toList = 64 :: (tail1 s).data.toList := by simp
    rw [e3, e2]
  unfold argv
  rw [e1, hr]
  exact suffix_head 64 42 r (by decide) (by decide)

set_option maxHeartbeats 1000000 in
theorem zzShown_any (s : ByteArray) (w : World) (hs : s.size ≤ 1048590) :
    Calls Try.prog 9 #[.string s] w fun e w' => e = .returned (.string (shown s)) ∧ ∃ n, w' = w.drewN n := by
  have hs' : s.size ≤ 1048600 := by omega
  unfold shown
  cases h0 : at0 s
  · cases h1 : star0 s
    · by_cases hp : 0 < s.size
      · have hx := first_no s _ h0 hp
        have hy := first_no s _ h1 hp
        have hx' : ((s[0].toNat : Int) == 64) = false := hx
        have hy' : ((s[0].toNat : Int) == 42) = false := hy
        clear hx hy
        go_enter Try.func9, Try.ntmps9
        go_wp2_with (go_at_call 13; refine (ends_argv _ _ hs').mono ?_; rintro e w' ⟨rfl, n, rfl⟩)
        go_ret
        exact ⟨rfl, _, rfl⟩
      · go_enter Try.func9, Try.ntmps9
        go_wp2_with (go_at_call 13; refine (ends_argv _ _ hs').mono ?_; rintro e w' ⟨rfl, n, rfl⟩)
        go_ret
        exact ⟨rfl, _, rfl⟩
    · rw [argv_star s h1]
      obtain ⟨hp, hc⟩ := first_yes s _ h1
      cases h2 : argv s
      all_goals
        go_enter Try.func9, Try.ntmps9
        go_wp2_with (go_at_call 13; refine (ends_argv _ _ hs').mono ?_; rintro e w' ⟨rfl, n, rfl⟩)
        go_ret
        exact ⟨rfl, _, rfl⟩
  · obtain ⟨hp, hc⟩ := first_yes s _ h0
    cases h2 : argv s
    all_goals
      go_enter Try.func9, Try.ntmps9
      go_wp2_with (go_at_call 13; refine (ends_argv _ _ hs').mono ?_; rintro e w' ⟨rfl, n, rfl⟩)
      go_ret
      exact ⟨rfl, _, rfl⟩
end Go.Proofs.Qxb6609369a
