/-
  THE PROOF OF 'Rows.FnCompoundCodeDependsOnTypeAloneSaid'. The frame is after the guide's (proof-skeleton.mjs; slices of strings by Derived/SliceStrings.lean); the walk lies in Qxb6609459aCode.
-/
import Derived.Test.Qxb6609459aRows
import Derived.Test.Qxb6609459aCode
import Derived.WalkKit
import Derived.ProofKit
import Derived.OpenShut
import Derived.ShutString
import Derived.SliceStrings
import Derived.ChangeOld
import Derived.Below
namespace Go.Proofs.Qxb6609459a.fnCompoundCodeDependsOnTypeAlone
open Go.ChangeShapes Go.WideShapes Go.ChangeAt Go.RowKit
open Go.ChangeMaps (open_string shut_string)
set_option linter.unusedVariables false

theorem own : ownKnob Try.prog.godebug = none := by kernel_rfl
theorem laidOut : laidOutB Try.prog = true := by kernel_rfl

/-- what is known of a slice of strings that came in. -/
def IsStrs (w : World) (a : Option Addr) (len cap : Nat) (ss : List ByteArray) : Prop :=
  ss.length = len ∧ In w a (strs ss) ∧ (a = none → len = 0 ∧ cap = 0) ∧ len ≤ maxLen

theorem isStrs_nil (w : World) : IsStrs w none 0 0 [] := ⟨rfl, .inl rfl, fun _ => ⟨rfl, rfl⟩, Nat.zero_le _⟩
theorem isStrs_some {w : World} {x : Addr} {len cap : Nat} {ss : List ByteArray} (hl : len ≤ cap) (hm : cap ≤ maxLen) (hz : ss.length = cap) (hc : ∀ i, i < ss.length → w.cell? (x.add i) = some (.string (ss.getD i ByteArray.empty))) :
    IsStrs w (some x) len cap (ss.take len) := by
  refine ⟨by rw [List.length_take, hz]; omega, ?_, (fun h => by cases h), by omega⟩
  by_cases h0 : len = 0
  · subst h0
    exact .inl rfl
  · obtain ⟨b, off, spot⟩ := x
    have hspot : spot = none := by simpa [Addr.add] using World.cell?_spot (hc 0 (by omega))
    subst hspot
    refine .inr ⟨b, off, rfl, fun k v hv => ?_⟩
    have hk : k < (strs (ss.take len)).length := (List.getElem?_eq_some_iff.1 hv).1
    rw [strs_length, List.length_take] at hk
    have h1 := hc k (by omega)
    rw [add_plain] at h1
    rw [h1, ← hv, strs_get (by rw [List.length_take]; exact hk)]
    simp [List.getD, show k < len by omega]

theorem walk (n m : Int) (a0 : Option Addr) (l0 c0 : Nat) (s0 : List ByteArray) (a1 : Option Addr) (l1 c1 : Nat) (s1 : List ByteArray) (w : World) (w0 : IsStrs w a0 l0 c0 s0) (w1 : IsStrs w a1 l1 c1 s1) :
    Calls Try.prog 3 #[.int .i64 n, .int .i64 m, .slice a0 l0 c0, .slice a1 l1 c1] w fun e w' => e = .returned (.bool true) ∧ Below w.heap.size w w' :=
  code_any n m a0 l0 c0 s0 a1 l1 c1 s1 w w0.2.2.2 w1.2.2.2 w0.1 w1.1 w0.2.1 w1.2.1

set_option maxRecDepth 100000 in
theorem lifted (os : Os) (started : os.Started) (H : Type) (enc : TypeId × Value → H) :
    ReturnsInHanded {} Try.checked os 3 .any (Rows.fnCompoundCodeDependsOnTypeAloneSpec.pre6 enc Try.prog Try.f3 Rows.fnCompoundCodeDependsOnTypeAloneRow.domain false) (Rows.fnCompoundCodeDependsOnTypeAloneSpec.post enc Try.prog Try.f3 false true false false) := by
  refine returnsInHanded_of_change (C := Try.checked) own started (by kernel_rfl) Try.func3
    (ChangeSpec.witness6 (enc := enc) (C := Try.checked) false ⟨#[], #[.int .i64 0, .int .i64 0, .slice none 0 0, .slice none 0 0], []⟩ 8 (by kernel_rfl) (by kernel_rfl) (by kernel_rfl) (by kernel_rfl)) ?_
  intro W base args ds gs before hval0 hW hcnd _
  have hval : ∀ (j : Nat) t v, Try.f3.params[j]? = some t → args[j]? = some v → Value.okWide Try.prog W .any base t v := hval0
  have hW' := hW
  obtain ⟨p, q, hA0, hV, rfl, hfz, hnd⟩ := hW
  have hA : DataW.TrodAll enc Try.prog W 0 (fun _ => true) true Try.f3.params.toList args.toList ds p := hA0
  rw [Try.params3] at hA hval
  obtain ⟨v0, vs0, d0, ds0, p0, q0, hargs, rfl, rfl, h0, r0⟩ := trodAll_cons hA
  obtain ⟨v1, vs1, d1, ds1, p1, q1, rfl, rfl, rfl, h1, r1⟩ := trodAll_cons r0
  obtain ⟨v2, vs2, d2, ds2, p2, q2, rfl, rfl, rfl, h2, r2⟩ := trodAll_cons r1
  obtain ⟨v3, vs3, d3, ds3, p3, q3, rfl, rfl, rfl, h3, r3⟩ := trodAll_cons r2
  obtain ⟨rfl, rfl, rfl⟩ := trodAll_nil r3
  obtain rfl : args = #[v0, v1, v2, v3] := by cases args; simp_all
  obtain ⟨rfl, rfl⟩ := trodVars_none hV
  obtain ⟨n, rfl, rfl, rfl, u0⟩ := open_int Try.underlying3 (hval 0 3 v0 rfl rfl) h0
  obtain ⟨m, rfl, rfl, rfl, u1⟩ := open_int Try.underlying3 (hval 1 3 v1 rfl rfl) h1
  obtain ⟨a0, len0, cap0, rfl⟩ := okWide_slice Try.underlying22 (hval 2 22 v2 rfl rfl)
  have k0 := h2
  have lt0 : ∀ x ∈ p2, x.block < W.heap.size := by obtain ⟨m, hm⟩ := k0; exact DataW.trod_lt m _ _ _ hm
  obtain ⟨z0, w0⟩ : ∃ ss, IsStrs W a0 len0 cap0 ss := by
    obtain ⟨fuel, hf⟩ := h2
    rcases open_strings Try.underlying22 Try.underlying9 (by kernel_rfl) hf with ⟨hcs, _⟩ | ⟨x, l, c, ss, hcs, _, hl, hm, hz, _, hcell, hwz⟩
    · simp [Value.cells] at hcs
      obtain ⟨rfl, rfl, rfl⟩ := hcs
      exact ⟨[], isStrs_nil _⟩
    · simp [Value.cells] at hcs
      obtain ⟨rfl, rfl, rfl⟩ := hcs
      exact ⟨_, isStrs_some hl hm (by simpa using hz) hcell⟩
  obtain ⟨a1, len1, cap1, rfl⟩ := okWide_slice Try.underlying22 (hval 3 22 v3 rfl rfl)
  have k1 := h3
  have lt1 : ∀ x ∈ p3, x.block < W.heap.size := by obtain ⟨m, hm⟩ := k1; exact DataW.trod_lt m _ _ _ hm
  obtain ⟨z1, w1⟩ : ∃ ss, IsStrs W a1 len1 cap1 ss := by
    obtain ⟨fuel, hf⟩ := h3
    rcases open_strings Try.underlying22 Try.underlying9 (by kernel_rfl) hf with ⟨hcs, _⟩ | ⟨x, l, c, ss, hcs, _, hl, hm, hz, _, hcell, hwz⟩
    · simp [Value.cells] at hcs
      obtain ⟨rfl, rfl, rfl⟩ := hcs
      exact ⟨[], isStrs_nil _⟩
    · simp [Value.cells] at hcs
      obtain ⟨rfl, rfl, rfl⟩ := hcs
      exact ⟨_, isStrs_some hl hm (by simpa using hz) hcell⟩
  clear hA0 hval0
  refine (walk n m a0 len0 cap0 z0 a1 len1 cap1 z1 W w0 w1).mono fun e W' ⟨he, bel⟩ => ?_
  subst he
  exact ⟨_, rfl, _, _, _, [], _, [], hW', trodAll_mk1 (shut_bool Try.underlying4 _), (trodAll_cons_mk (shut_int Try.underlying3 u0) (trodAll_cons_mk (shut_int Try.underlying3 u1) (trodAll_cons_mk (Below.trod laidOut (by kernel_rfl) (of_decide_eq_true (by kernel_rfl)) k0 bel lt0) (trodAll_cons_mk (Below.trod laidOut (by kernel_rfl) (of_decide_eq_true (by kernel_rfl)) k1 bel lt1) trodAll_mk0)))), rfl, bel.frame _, fun h => by cases h⟩

theorem over : Rows.fnCompoundCodeDependsOnTypeAloneRow.holds Try.pinned (OpenSpec.ofChange Rows.fnCompoundCodeDependsOnTypeAloneSpec) :=
  OpenClaim.holds_of_wide 3 Try.f3 rfl rfl rfl rfl rfl rfl rfl ⟨rfl, rfl, rfl, rfl, rfl⟩ rfl rfl rfl rfl rfl (by kernel_rfl) Try.func3 (by kernel_rfl)
    (of_decide_eq_true (by kernel_rfl)) (by unfold Func.isWrapper; first | (rw [if_pos (by decide +kernel)]; kernel_rfl) | (rw [if_neg (by decide +kernel)]; exact ⟨rfl, rfl⟩))
    (fun os started H enc _ => lifted os started H enc)

/-- THE STATEMENT -/
theorem proved : Rows.FnCompoundCodeDependsOnTypeAloneSaid := over
end Go.Proofs.Qxb6609459a.fnCompoundCodeDependsOnTypeAlone
