/-
  THE PROOF OF 'Rows.FnMapSectionScriptKeepsPresentSectionsInOrderSaid'. The frame is after the guide's (proof-skeleton.mjs; the slice of sections by Derived/Deep/SlicePairs.lean); the walk lies in Qxb6609459aScript.
-/
import Derived.Test.Qxb6609459aRows
import Derived.Test.Qxb6609459aScript
import Derived.Deep.SlicePairs
import Derived.WalkKit
import Derived.ProofKit
import Derived.OpenShut
import Derived.ShutString
import Derived.SliceStrings
import Derived.ChangeOld
import Derived.Below
namespace Go.Proofs.Qxb6609459a.fnMapSectionScriptKeepsPresentSectionsInOrder
open Go.ChangeShapes Go.WideShapes Go.ChangeAt Go.RowKit
open Go.ChangeMaps (open_string shut_string)
set_option linter.unusedVariables false

theorem own : ownKnob Try.prog.godebug = none := by kernel_rfl
theorem laidOut : laidOutB Try.prog = true := by kernel_rfl

section
variable {H : Type} {enc : TypeId × Value → H} {w : World} {base : Nat} {spare : Nat → Bool} {held : Bool}
def strOf : Value → ByteArray
  | .string s => s
  | _ => ByteArray.empty
def numOf : Value → Int
  | .int _ n => n
  | _ => 0
def noSec : Sec := ⟨0, none, 0, 0, fun _ => ByteArray.empty, fun _ => 0⟩
theorem open_ents (code : Int) {fuel : Nat} {cs : List Value} {x : DataW H × List MemPlace} (h : DataW.trod enc Try.prog w base spare held fuel 36 cs = some x) :
    ∃ s : Sec, s.code = code ∧ cs = [.slice s.ad s.len s.cap] ∧ Ents w s := by
  rcases Deep.open_slice_pairs Try.underlying36 Try.underlying49 (by kernel_rfl) rfl rfl (by kernel_rfl) (by kernel_rfl) h with ⟨rfl, _⟩ | ⟨a, len, cap, m, n, V0, V1, D0, D1, P0, P1, rfl, _, hl, hm, hmm, _, hx⟩
  · exact ⟨⟨code, none, 0, 0, fun _ => ByteArray.empty, fun _ => 0⟩, rfl, rfl, ⟨Nat.zero_le _, fun _ => ⟨rfl, rfl⟩, fun hp => absurd hp (Nat.lt_irrefl 0)⟩⟩
  · have hlm : len ≤ m := by rw [hmm]; split <;> omega
    refine ⟨⟨code, some a, len, cap, fun i => strOf (V0 i), fun i => numOf (V1 i)⟩, rfl, rfl, ⟨Nat.le_trans hl hm, (fun h => by cases h), fun hp => ?_⟩⟩
    obtain ⟨b, off, spot⟩ := a
    have hp' : 0 < len := hp
    have h0 := (hx 0 (by omega)).1
    have hspot : spot = none := by simpa [Addr.add] using World.cell?_spot h0
    subst hspot
    refine ⟨b, off, rfl, fun j hj => ?_⟩
    have hj' : j < len := hj
    obtain ⟨e1, e2, e3, e4⟩ := hx j (by omega)
    obtain ⟨s', k1, _⟩ := DataW.trod_string Try.underlying9 e3
    obtain ⟨n', k2, _⟩ := DataW.trod_int Try.underlying2 e4
    have k1' : V0 j = .string s' := by simpa using k1
    have k2' : V1 j = .int .i64 n' := by simpa using k2
    rw [add_plain] at e1 e2
    show _ = some (Value.string (strOf (V0 j))) ∧ _ = some (Value.int .i64 (numOf (V1 j)))
    rw [k1'] at e1 ⊢
    rw [k2'] at e2 ⊢
    exact ⟨e1, by rw [Nat.add_assoc]; exact e2⟩
theorem open_secs {fuel : Nat} {a0 : Option Addr} {n0 c0 : Nat} {x : DataW H × List MemPlace} (h : DataW.trod enc Try.prog w base spare held fuel 30 [.slice a0 n0 c0] = some x) :
    ∃ S : Nat → Sec, n0 ≤ maxLen ∧ Secs w a0 n0 S := by
  rcases Deep.open_slice_pairs Try.underlying30 Try.underlying38 (by kernel_rfl) rfl rfl (by kernel_rfl) (by kernel_rfl) h with ⟨hcs, _⟩ | ⟨a, len, cap, m, n, V0, V1, D0, D1, P0, P1, hcs, _, hl, hm, hmm, _, hx⟩
  · simp at hcs
    obtain ⟨rfl, rfl, rfl⟩ := hcs
    exact ⟨fun _ => noSec, Nat.zero_le _, .inl rfl⟩
  · simp at hcs
    obtain ⟨rfl, rfl, rfl⟩ := hcs
    have hlm : n0 ≤ m := by rw [hmm]; split <;> omega
    have ih : Inhabited Sec := ⟨noSec⟩
    obtain ⟨S, hS⟩ := Deep.choose_lt (α := Sec) (n := m) (p := fun i s => V0 i = .int .u64 s.code ∧ V1 i = .slice s.ad s.len s.cap ∧ Ents w s) (fun i hi => by
      obtain ⟨_, _, e3, e4⟩ := hx i hi
      obtain ⟨n', k1, _⟩ := DataW.trod_int Try.underlying35 e3
      obtain ⟨s, hc, k2, he⟩ := open_ents n' e4
      refine ⟨s, ?_, ?_, he⟩
      · rw [hc]; simpa using k1
      · simpa using k2)
    refine ⟨S, Nat.le_trans hl hm, ?_⟩
    by_cases hz : n0 = 0
    · exact .inl hz
    · obtain ⟨b, off, spot⟩ := a
      have hspot : spot = none := by simpa [Addr.add] using World.cell?_spot (hx 0 (by omega)).1
      subst hspot
      refine .inr ⟨b, off, rfl, fun i hi => ?_⟩
      obtain ⟨e1, e2, _⟩ := hx i (by omega)
      obtain ⟨s1, s2, s3⟩ := hS i (by omega)
      rw [add_plain] at e1 e2
      rw [s1] at e1
      rw [s2] at e2
      exact ⟨e1, by rw [Nat.add_assoc]; exact e2, s3⟩
end

set_option maxRecDepth 100000 in
theorem lifted (os : Os) (started : os.Started) (H : Type) (enc : TypeId × Value → H) :
    ReturnsInHanded {} Try.checked os 4 .any (Rows.fnMapSectionScriptKeepsPresentSectionsInOrderSpec.pre6 enc Try.prog Try.f4 Rows.fnMapSectionScriptKeepsPresentSectionsInOrderRow.domain false) (Rows.fnMapSectionScriptKeepsPresentSectionsInOrderSpec.post enc Try.prog Try.f4 false true false false) := by
  refine returnsInHanded_of_change (C := Try.checked) own started (by kernel_rfl) Try.func4
    (ChangeSpec.witness6 (enc := enc) (C := Try.checked) false ⟨#[], #[.slice none 0 0], []⟩ 8 (by kernel_rfl) (by kernel_rfl) (by kernel_rfl) (by kernel_rfl)) ?_
  intro W base args ds gs before hval0 hW hcnd _
  have hval : ∀ (j : Nat) t v, Try.f4.params[j]? = some t → args[j]? = some v → Value.okWide Try.prog W .any base t v := hval0
  have hW' := hW
  obtain ⟨p, q, hA0, hV, rfl, hfz, hnd⟩ := hW
  have hA : DataW.TrodAll enc Try.prog W 0 (fun _ => true) true Try.f4.params.toList args.toList ds p := hA0
  rw [Try.params4] at hA hval
  obtain ⟨v0, vs0, d0, ds0, p0, q0, hargs, rfl, rfl, h0, r0⟩ := trodAll_cons hA
  obtain ⟨rfl, rfl, rfl⟩ := trodAll_nil r0
  obtain rfl : args = #[v0] := by cases args; simp_all
  obtain ⟨rfl, rfl⟩ := trodVars_none hV
  obtain ⟨a0, len0, cap0, rfl⟩ := okWide_slice Try.underlying30 (hval 0 30 v0 rfl rfl)
  have k0 := h0
  have lt0 : ∀ x ∈ p0, x.block < W.heap.size := by obtain ⟨m, hm⟩ := k0; exact DataW.trod_lt m _ _ _ hm
  obtain ⟨S, hm0, hs0⟩ : ∃ S : Nat → Sec, len0 ≤ maxLen ∧ Secs W a0 len0 S := by
    obtain ⟨fuel, hf⟩ := h0
    exact open_secs hf
  clear hA0 hval0
  refine (script_any a0 len0 cap0 S W hm0 hs0).mono fun e W' ⟨he, bel⟩ => ?_
  subst he
  exact ⟨_, rfl, _, _, _, [], _, [], hW', trodAll_mk1 (shut_bool Try.underlying4 _), (trodAll_cons_mk (Below.trod laidOut (by kernel_rfl) (of_decide_eq_true (by kernel_rfl)) k0 bel lt0) trodAll_mk0), rfl, bel.frame _, fun h => by cases h⟩

theorem over : Rows.fnMapSectionScriptKeepsPresentSectionsInOrderRow.holds Try.pinned (OpenSpec.ofChange Rows.fnMapSectionScriptKeepsPresentSectionsInOrderSpec) :=
  OpenClaim.holds_of_wide 4 Try.f4 rfl rfl rfl rfl rfl rfl rfl ⟨rfl, rfl, rfl, rfl, rfl⟩ rfl rfl rfl rfl rfl (by kernel_rfl) Try.func4 (by kernel_rfl)
    (of_decide_eq_true (by kernel_rfl)) (by unfold Func.isWrapper; first | (rw [if_pos (by decide +kernel)]; kernel_rfl) | (rw [if_neg (by decide +kernel)]; exact ⟨rfl, rfl⟩))
    (fun os started H enc _ => lifted os started H enc)

/-- THE STATEMENT -/
theorem proved : Rows.FnMapSectionScriptKeepsPresentSectionsInOrderSaid := over
end Go.Proofs.Qxb6609459a.fnMapSectionScriptKeepsPresentSectionsInOrder
