/-
  WALKS: sameMap.
-/
import Derived.Test.Qxb6609459aBuild
import Derived.Lib.Strings
namespace Go.Proofs.Qxb6609459a
open Go.RowKit
set_option linter.unusedVariables false
set_option maxRecDepth 100000

theorem own_cells {w : World} {B g m cap : Nat} {e : TypeId} {size : Nat} {xs : List Value} (h : w.ownsRow B e size (.slice (some ⟨g, 0, none⟩) m cap) m xs) : ∀ j v, xs[j]? = some v → w.cell? ⟨g, j, none⟩ = some v := by
  intro j v hv
  have h1 := h.cells (g := g) rfl j v hv
  have e : (⟨g, 0, none⟩ : Addr).add j = ⟨g, j, none⟩ := by unfold Addr.add; split <;> simp_all
  rwa [e] at h1

set_option maxHeartbeats 2000000 in
theorem same_any (g cap : Nat) (x : Addr) (len c : Nat) (key : Nat → ByteArray) (val : Nat → Int) (w : World) (hn : len ≤ 1048576)
    (hg : ∀ j v, (ents key val len)[j]? = some v → w.cell? ⟨g, j, none⟩ = some v)
    (hc : 0 < len → ∃ b o, x = ⟨b, o, none⟩ ∧ ∀ j, j < len → w.cell? ⟨b, o + j * 2, none⟩ = some (.string (key j)) ∧ w.cell? ⟨b, o + j * 2 + 1, none⟩ = some (.int .i64 (val j))) :
    Calls Try.prog 17 #[.slice (some ⟨g, 0, none⟩) len cap, .slice (some x) len c] w fun e w' => e = .returned (.bool true) ∧ Below w.heap.size w w' := by
  have h1 := eql36
  have h2 := eql40
  have HC := hide2 hc
  have HG := hide2 hg
  clear hc hg
  go_enter Try.func17, Try.ntmps17
  go_wp2
  go_loopw [5, 6, 7, 8] (fun i _ _ _ wr => ∃ k : Nat, k ≤ len ∧ i = .int .i64 k ∧ Below w.heap.size w wr) (fun i _ _ _ _ => len - (intOf i).toNat)
  case atStart => exact ⟨0, Nat.zero_le _, rfl, Below.refl _ _⟩
  case round =>
    obtain ⟨k, hk, rfl, hbel⟩ := hrel
    by_cases hlt : k < len
    · obtain ⟨b, o, rfl, hc⟩ := HC.out (by omega)
      obtain ⟨e1, e2⟩ := ents_get key val (j := k) len hlt
      obtain ⟨y, hy⟩ : ∃ y, key k = y := ⟨_, rfl⟩
      obtain ⟨z, hz⟩ : ∃ z, val k = z := ⟨_, rfl⟩
      rw [hy] at e1
      rw [hz] at e2
      have f1 := (hc k hlt).1
      have f2 := (hc k hlt).2
      rw [hy] at f1
      rw [hz] at f2
      have d1 := cell_keeps hbel (HG.out _ _ e1)
      have d2 := cell_keeps hbel (HG.out _ _ e2)
      have HE := hide2 (entryFields_any y z wr)
      have HBE := hide2 hbel
      have F1 := hide2 (cell_keeps hbel f1)
      have F2 := hide2 (cell_keeps hbel f2)
      have hkn : (k : Int) < (len : Int) := by omega
      clear hc hbel hy hz e1 e2 f1 f2
      go_wp2_with fail
      refine Calls.mono HE.out ?_
      rintro e w1 ⟨rfl, hb1⟩
      have f1 := cell_keeps hb1 F1.out
      have f2 := cell_keeps hb1 F2.out
      have R2 := hide2 (HBE.out.trans (hb1.mono HBE.out.size))
      clear hb1 HE
      go_wp2
      go_roundw
      case rel => exact ⟨k + 1, by omega, by go_num, R2.out⟩
      case measure => simp [intOf]; omega
    · have HBE := hide2 hbel
      clear hbel
      go_wp2
      go_ret
      exact ⟨rfl, HBE.out⟩
end Go.Proofs.Qxb6609459a
