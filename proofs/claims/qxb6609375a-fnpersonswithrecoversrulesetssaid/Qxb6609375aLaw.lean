/-
  THE WALK of FnPersonsWithRecoversRuleSets.
-/
import Derived.Test.Qxb6609375aPlain
import Derived.Laws.CopyOwn
import Derived.Deep.DeepCutAuto
import Derived.Deep.WholeRow
import Derived.Deep.QuietTactic
import Derived.BigQuiet
namespace Go.Proofs.Qxb6609375a
open Go.RowKit
set_option linter.unusedVariables false

/-- 'copy(zzc, xs)', zzc just made with xs's length: the new row holds xs's cells. -/
theorem wpList_copy_fresh {P : Program} {w : World} {ops : Array Oper} {rest : List Oper} {o : Oper} {a : Act} {Q : Exit → Act → World → Prop} (hgd : o.guard = none) (d s : Operand) (dT sT : TypeId)
    (ho : o.op = .call { callee := .builtin .copy, args := #[d, s], argTypes := #[dT, sT] }) (elem : TypeId) (hu : P.underlying dT = some (.slice elem)) (hsz : (P.info? elem).map (·.size) = some 1)
    (n cap : Nat) (sp : Option Addr) (z : Value) (t : TypeId) (cs : List Value)
    (hd : a.eval d = .slice (some ⟨w.heap.size, 0, none⟩) n n) (hs : a.eval s = .slice sp n cap) (hn : cs.length = n)
    (hsrc : 0 < n → ∃ ad, sp = some ad ∧ ∀ j v, cs[j]? = some v → (w.alloc (.cells (madeCells #[z] n) t)).cell? (ad.add j) = some v) (h1 : ∀ v ∈ cs, v.oneCell' = true)
    (h : wpList P ops Q rest (a.put o.dst (goInt n)) (w.alloc (.cells cs.toArray t))) : wpList P ops Q (o :: rest) a (w.alloc (.cells (madeCells #[z] n) t)) := by
  by_cases h0 : n = 0
  · subst h0
    obtain rfl : cs = [] := List.eq_nil_of_length_eq_zero hn
    refine wpList_copy_nothing hgd d s dT sT ho elem hu hsz _ _ _ _ _ _ hd hs (by simp) ?_
    have e : madeCells #[z] 0 = #[] := Array.eq_empty_of_size_eq_zero (size_madeCells _ _)
    rw [e]
    exact h
  · obtain ⟨ad, rfl, hc⟩ := hsrc (by omega)
    refine wpList_copy_own hgd d s dT sT ho elem hu hsz w.heap.size 0 n n ad n cap hd hs (madeCells #[z] n) t (heap_alloc_new _ _) cs (by rw [hn]; exact (Nat.min_self n).symm) hc (by rw [size_madeCells]; omega) h1 ?_
    rw [World.setRow_alloc_new, hn]
    have e : ((madeCells #[z] n).toList.take 0 ++ (cs ++ (madeCells #[z] n).toList.drop (0 + n))) = cs := by
      rw [toList_madeCells_one]
      simp
    rw [e]
    exact h

/-- what the walk is told of a slice of integers that came in (the shell's own words). -/
def IsRow (k : IntKind) (w : World) (a : Option Addr) (len cap : Nat) (zs : List Int) : Prop :=
  (a = none ∧ len = 0 ∧ cap = 0 ∧ zs = []) ∨
  ∃ x, a = some x ∧ len ≤ cap ∧ cap ≤ maxLen ∧ zs.length = cap ∧ (∀ i, i < zs.length → w.cell? (x.add i) = some (.int k (zs.getD i 0))) ∧ ∀ n ∈ zs, (Lit.int k n).wf = true

theorem bytes4_any (a0 : Option Addr) (l0 c0 : Nat) (a1 : Option Addr) (l1 c1 : Nat) (w : World) (h0 : l0 ≤ maxLen) (h1 : l1 ≤ maxLen) :
    Calls Try.prog 4 #[.slice a0 l0 c0, .slice a1 l1 c1] w fun e w' => (∃ b, e = .returned (.bool b) ∧ (l0 + l1 ≤ 1048576 → b = true)) ∧ w' = w := by
  unfold maxLen at h0 h1
  by_cases g0 : 1048576 < l0
  · go_enter Try.func4, Try.ntmps4
    go_wp2
    go_ret
    exact ⟨⟨_, rfl, fun h => by omega⟩, rfl⟩
  by_cases g1 : 1048576 < l1
  · go_enter Try.func4, Try.ntmps4
    go_wp2
    go_ret
    exact ⟨⟨_, rfl, fun h => by omega⟩, rfl⟩
  by_cases g2 : 1048576 < l0 + l1
  · go_enter Try.func4, Try.ntmps4
    go_wp2
    go_ret
    exact ⟨⟨_, rfl, fun h => by omega⟩, rfl⟩
  · go_enter Try.func4, Try.ntmps4
    go_wp2
    go_ret
    exact ⟨⟨_, rfl, fun h => rfl⟩, rfl⟩

set_option maxRecDepth 100000 in
set_option maxHeartbeats 1000000 in
theorem law_big (a0 : Option Addr) (l0 c0 : Nat) (a1 : Option Addr) (l1 c1 : Nat) (w : World) (h0 : l0 ≤ maxLen) (h1 : l1 ≤ maxLen) (hb : ¬ (l0 ≤ 65536 ∧ l1 ≤ 65536 ∧ 4 * l0 + 2 * l1 ≤ 1048576)) :
    Calls Try.prog 3 #[.slice a0 l0 c0, .slice a1 l1 c1] w fun e w' => e = .returned (.bool true) ∧ Below w.heap.size w w' := by
  have hc := bytes4_any a0 l0 c0 a1 l1 c1 w h0 h1
  have HC : Hid _ := hc
  clear hc
  unfold maxLen at h0 h1
  by_cases g0 : 65536 < l0
  · go_enter Try.func3, Try.ntmps3
    go_wp2_with (first | (go_at_call 4; refine Calls.mono HC.out ?_; rintro e w' ⟨⟨b, rfl, _⟩, hw⟩; rw [hw]; clear hw))
    all_goals (go_ret; exact ⟨rfl, Below.refl _ _⟩)
  by_cases g1 : 65536 < l1
  · go_enter Try.func3, Try.ntmps3
    go_wp2_with (first | (go_at_call 4; refine Calls.mono HC.out ?_; rintro e w' ⟨⟨b, rfl, _⟩, hw⟩; rw [hw]; clear hw))
    all_goals (go_ret; exact ⟨rfl, Below.refl _ _⟩)
  · have g2 : 1048576 < 4 * l0 + 2 * l1 := by omega
    go_enter Try.func3, Try.ntmps3
    go_wp2_with (first | (go_at_call 4; refine Calls.mono HC.out ?_; rintro e w' ⟨⟨b, rfl, _⟩, hw⟩; rw [hw]; clear hw))
    all_goals (go_ret; exact ⟨rfl, Below.refl _ _⟩)
end Go.Proofs.Qxb6609375a
