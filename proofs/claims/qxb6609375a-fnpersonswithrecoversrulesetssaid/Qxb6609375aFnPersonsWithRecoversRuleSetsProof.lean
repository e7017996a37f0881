/-
  THE PROOF OF 'Rows.FnPersonsWithRecoversRuleSetsSaid'. The frame is the guide's (proof-skeleton.mjs); the walk lies in Qxb6609375aLaw and Qxb6609375aMain.
-/
import Derived.Test.Qxb6609375aRows
import Derived.Test.Qxb6609375aMain
import Derived.WalkKit
import Derived.ProofKit
import Derived.OpenShut
import Derived.ShutString
import Derived.ChangeOld
import Derived.Below
namespace Go.Proofs.Qxb6609375a.fnPersonsWithRecoversRuleSets
open Go.ChangeShapes Go.WideShapes Go.ChangeAt Go.RowKit
open Go.ChangeMaps (open_string shut_string)
set_option linter.unusedVariables false

theorem own : ownKnob Try.prog.godebug = none := by kernel_rfl
theorem laidOut : laidOutB Try.prog = true := by kernel_rfl

theorem wf_i32 {n : Int} (h : (Lit.int .i32 n).wf = true) : -2147483648 ≤ n ∧ n ≤ 2147483647 := by
  simpa [Lit.wf, IntKind.min, IntKind.max, IntKind.signed, IntKind.bits] using h
theorem wf_u16 {n : Int} (h : (Lit.int .u16 n).wf = true) : 0 ≤ n ∧ n ≤ 65535 := by
  simpa [Lit.wf, IntKind.min, IntKind.max, IntKind.signed, IntKind.bits] using h

theorem row_parts {k : IntKind} {w : World} {a : Option Addr} {len cap : Nat} {zs : List Int} (h : IsRow k w a len cap zs) :
    (a = none → len = 0 ∧ cap = 0) ∧ (zs.take len).length = len ∧ len ≤ maxLen ∧ (∀ n ∈ zs.take len, (Lit.int k n).wf = true) ∧
    ∀ x, a = some x → ∀ j, j < len → w.cell? (x.add j) = some (.int k ((zs.take len).getD j 0)) := by
  rcases h with ⟨rfl, rfl, rfl, rfl⟩ | ⟨x, rfl, hl, hm, hz, hc, hw⟩
  · exact ⟨fun _ => ⟨rfl, rfl⟩, rfl, Nat.zero_le _, by simp, fun x hx => by cases hx⟩
  · refine ⟨(fun h => by cases h), (by rw [List.length_take, hz]; omega), (by omega), fun n hn => hw n (List.mem_of_mem_take hn), fun y hy j hj => ?_⟩
    cases hy
    rw [hc j (by omega)]
    simp [List.getD, hj]

theorem getD_wf {k : IntKind} {l : List Int} (h : ∀ n ∈ l, (Lit.int k n).wf = true) (h0 : (Lit.int k 0).wf = true) (j : Nat) : (Lit.int k (l.getD j 0)).wf = true := by
  by_cases hj : j < l.length
  · simp only [List.getD, List.getElem?_eq_getElem hj, Option.getD_some]
    exact h _ (List.getElem_mem hj)
  · simp only [List.getD, List.getElem?_eq_none (by omega : l.length ≤ j), Option.getD_none]
    exact h0

theorem walk (a0 : Option Addr) (len0 cap0 : Nat) (z0 : List Int) (a1 : Option Addr) (len1 cap1 : Nat) (z1 : List Int) (w : World) (w0 : IsRow .i32 w a0 len0 cap0 z0) (w1 : IsRow .u16 w a1 len1 cap1 z1) :
    Calls Try.prog 3 #[.slice a0 len0 cap0, .slice a1 len1 cap1] w fun e w' => e = .returned (.bool true) ∧ Below w.heap.size w w' := by
  obtain ⟨n0, l0, m0, f0, c0⟩ := row_parts w0
  obtain ⟨n1, l1, m1, f1, c1⟩ := row_parts w1
  by_cases hs : len0 ≤ 65536 ∧ len1 ≤ 65536 ∧ 4 * len0 + 2 * len1 ≤ 1048576
  · refine law_small a0 len0 cap0 a1 len1 cap1 (z0.take len0) ((z1.take len1).map Int.toNat) w hs.1 hs.2.1 hs.2.2 n0 n1 l0 (by rw [List.length_map, l1]) ?_ ?_ ?_ ?_
    · intro j
      have h := wf_u16 (getD_wf f1 (by decide) j)
      by_cases hj : j < (z1.take len1).length
      · simp only [List.getD, List.getElem?_map, List.getElem?_eq_getElem hj, Option.map_some, Option.getD_some] at h ⊢
        omega
      · simp only [List.getD, List.getElem?_map, List.getElem?_eq_none (by omega : (z1.take len1).length ≤ j), Option.map_none, Option.getD_none]
        omega
    · intro j
      exact wf_i32 (getD_wf f0 (by decide) j)
    · intro x hx j v hv
      have hj : j < (ints32 (z0.take len0)).length := (List.getElem?_eq_some_iff.1 hv).1
      rw [ints32_length] at hj
      rw [ints32_get hj] at hv
      rw [← hv, c0 x hx j (by omega)]
    · intro x hx j v hv
      have hj : j < (u16s ((z1.take len1).map Int.toNat)).length := (List.getElem?_eq_some_iff.1 hv).1
      rw [u16s_length] at hj
      rw [u16s_get hj] at hv
      rw [List.length_map] at hj
      rw [← hv, c1 x hx j (by omega)]
      have h := wf_u16 (getD_wf f1 (by decide) j)
      simp only [List.getD, List.getElem?_map, List.getElem?_eq_getElem hj, Option.map_some, Option.getD_some] at h ⊢
      congr 2
      omega
  · exact law_big a0 len0 cap0 a1 len1 cap1 w m0 m1 hs

/-! ### THE ROW's STEP: by the guide's frame -/
set_option maxRecDepth 100000 in
theorem lifted (os : Os) (started : os.Started) (H : Type) (enc : TypeId × Value → H) :
    ReturnsInHanded {} Try.checked os 3 .any (Rows.fnPersonsWithRecoversRuleSetsSpec.pre6 enc Try.prog Try.f3 Rows.fnPersonsWithRecoversRuleSetsRow.domain false) (Rows.fnPersonsWithRecoversRuleSetsSpec.post enc Try.prog Try.f3 false true false false) := by
  refine returnsInHanded_of_change (C := Try.checked) own started (by kernel_rfl) Try.func3
    (ChangeSpec.witness6 (enc := enc) (C := Try.checked) false ⟨#[], #[.slice none 0 0, .slice none 0 0], []⟩ 8 (by kernel_rfl) (by kernel_rfl) (by kernel_rfl) (by kernel_rfl)) ?_
  intro W base args ds gs before hval0 hW hcnd _
  have hval : ∀ (j : Nat) t v, Try.f3.params[j]? = some t → args[j]? = some v → Value.okWide Try.prog W .any base t v := hval0
  have hW' := hW
  obtain ⟨p, q, hA0, hV, rfl, hfz, hnd⟩ := hW
  have hA : DataW.TrodAll enc Try.prog W 0 (fun _ => true) true Try.f3.params.toList args.toList ds p := hA0
  rw [Try.params3] at hA hval
  obtain ⟨v0, vs0, d0, ds0, p0, q0, hargs, rfl, rfl, h0, r0⟩ := trodAll_cons hA
  obtain ⟨v1, vs1, d1, ds1, p1, q1, rfl, rfl, rfl, h1, r1⟩ := trodAll_cons r0
  obtain ⟨rfl, rfl, rfl⟩ := trodAll_nil r1
  obtain rfl : args = #[v0, v1] := by cases args; simp_all
  obtain ⟨rfl, rfl⟩ := trodVars_none hV
  obtain ⟨a0, len0, cap0, rfl⟩ := okWide_slice Try.underlying22 (hval 0 22 v0 rfl rfl)
  have k0 := h0
  have lt0 : ∀ x ∈ p0, x.block < W.heap.size := by obtain ⟨m, hm⟩ := k0; exact DataW.trod_lt m _ _ _ hm
  obtain ⟨z0, w0⟩ : ∃ zs, IsRow .i32 W a0 len0 cap0 zs := by
    obtain ⟨fuel, hf⟩ := h0
    rcases open_ints Try.underlying22 Try.underlying21 (by kernel_rfl) hf with ⟨hcs, _⟩ | ⟨x, l, c, zs, hcs, _, hl, hm, hz, _, hcell, hwz⟩
    · simp [Value.cells] at hcs
      obtain ⟨rfl, rfl, rfl⟩ := hcs
      exact ⟨[], .inl ⟨rfl, rfl, rfl, rfl⟩⟩
    · simp [Value.cells] at hcs
      obtain ⟨rfl, rfl, rfl⟩ := hcs
      exact ⟨zs, .inr ⟨_, rfl, hl, hm, by simpa using hz, hcell, hwz⟩⟩
  obtain ⟨a1, len1, cap1, rfl⟩ := okWide_slice Try.underlying23 (hval 1 23 v1 rfl rfl)
  have k1 := h1
  have lt1 : ∀ x ∈ p1, x.block < W.heap.size := by obtain ⟨m, hm⟩ := k1; exact DataW.trod_lt m _ _ _ hm
  obtain ⟨z1, w1⟩ : ∃ zs, IsRow .u16 W a1 len1 cap1 zs := by
    obtain ⟨fuel, hf⟩ := h1
    rcases open_ints Try.underlying23 Try.underlying27 (by kernel_rfl) hf with ⟨hcs, _⟩ | ⟨x, l, c, zs, hcs, _, hl, hm, hz, _, hcell, hwz⟩
    · simp [Value.cells] at hcs
      obtain ⟨rfl, rfl, rfl⟩ := hcs
      exact ⟨[], .inl ⟨rfl, rfl, rfl, rfl⟩⟩
    · simp [Value.cells] at hcs
      obtain ⟨rfl, rfl, rfl⟩ := hcs
      exact ⟨zs, .inr ⟨_, rfl, hl, hm, by simpa using hz, hcell, hwz⟩⟩
  clear hA0 hval0
  refine (walk a0 len0 cap0 z0 a1 len1 cap1 z1 W w0 w1).mono fun e W' ⟨he, bel⟩ => ?_
  subst he
  exact ⟨_, rfl, _, _, _, [], _, [], hW', trodAll_mk1 (shut_bool Try.underlying4 _), (trodAll_cons_mk (Below.trod laidOut (by kernel_rfl) (of_decide_eq_true (by kernel_rfl)) k0 bel lt0) (trodAll_cons_mk (Below.trod laidOut (by kernel_rfl) (of_decide_eq_true (by kernel_rfl)) k1 bel lt1) trodAll_mk0)), rfl, bel.frame _, fun h => by cases h⟩

theorem over : Rows.fnPersonsWithRecoversRuleSetsRow.holds Try.pinned (OpenSpec.ofChange Rows.fnPersonsWithRecoversRuleSetsSpec) :=
  OpenClaim.holds_of_wide 3 Try.f3 rfl rfl rfl rfl rfl rfl rfl ⟨rfl, rfl, rfl, rfl, rfl⟩ rfl rfl rfl rfl rfl (by kernel_rfl) Try.func3 (by kernel_rfl)
    (of_decide_eq_true (by kernel_rfl)) (by unfold Func.isWrapper; first | (rw [if_pos (by decide +kernel)]; kernel_rfl) | (rw [if_neg (by decide +kernel)]; exact ⟨rfl, rfl⟩))
    (fun os started H enc _ => lifted os started H enc)

/-- ████ THE STATEMENT ████ -/
theorem proved : Rows.FnPersonsWithRecoversRuleSetsSaid := over
end Go.Proofs.Qxb6609375a.fnPersonsWithRecoversRuleSets
