/-
  WALKS: time.Sub at two times; expire's closure.
-/
import Derived.Test.Qxb6609385aSub
namespace Go.Proofs.Qxb6609385a
open Go.RowKit
set_option linter.unusedVariables false
set_option maxRecDepth 100000

theorem sub_any (A B : Int) (w : World) (h1 : -4000000000000000000 ≤ A) (h2 : A ≤ 4000000000000000000) (h3 : -4000000000000000000 ≤ B) (h4 : B ≤ 4000000000000000000) :
    Calls Try.prog 39 #[.agg (timeC A), .agg (timeC B)] w fun e w' => e = .returned (.int .i64 (A - B)) ∧ Below w.heap.size w w' := by
  obtain ⟨x, hx⟩ : ∃ x : Nat, A % 1000000000 = (x : Int) := ⟨(A % 1000000000).toNat, by omega⟩
  obtain ⟨s, hs⟩ : ∃ s : Int, A / 1000000000 = s := ⟨_, rfl⟩
  obtain ⟨y, hy⟩ : ∃ y : Nat, B % 1000000000 = (y : Int) := ⟨(B % 1000000000).toNat, by omega⟩
  obtain ⟨u, hu⟩ : ∃ u : Int, B / 1000000000 = u := ⟨_, rfl⟩
  have ha : ∀ w, Calls Try.prog 30 #[.agg (timeC B), .int .i64 (A - B)] w fun e w' => e = .returned (.agg (timeC A)) ∧ Below w.heap.size w w' := fun w => by
    have h := add_any B (A - B) w (by omega) (by omega) (by omega) (by omega)
    have e : B + (A - B) = A := by omega
    rwa [e] at h
  rw [timeC_of hx hs, timeC_of hy hu] at ha ⊢
  exact sub_way x y s u (A - B) w (by omega) (by omega) (by omega) (by omega) (by omega) (by omega) (by omega) (by omega) (by omega) ha

/-- what the closure reads: the moment in its box, a message's moment, the queue in its box, its retention. -/
def Eyes (w : World) (nb mb pb qb : Nat) (A B R : Int) : Prop :=
  w.cell? ⟨nb, 0, none⟩ = some (.int .u64 (A % 1000000000)) ∧ w.cell? ⟨nb, 1, none⟩ = some (.int .i64 (A / 1000000000)) ∧ w.cell? ⟨nb, 2, none⟩ = some (.pointer none) ∧
  w.cell? ⟨mb, 3, none⟩ = some (.int .u64 (B % 1000000000)) ∧ w.cell? ⟨mb, 4, none⟩ = some (.int .i64 (B / 1000000000)) ∧ w.cell? ⟨mb, 5, none⟩ = some (.pointer none) ∧
  w.cell? ⟨pb, 0, none⟩ = some (.pointer (some ⟨qb, 0, none⟩)) ∧ w.cell? ⟨qb, 2, none⟩ = some (.int .i64 R)
theorem Eyes.later {w w' W : World} {nb mb pb qb : Nat} {A B R : Int} (h : Eyes w nb mb pb qb A B R) (hb : Below W.heap.size W w') (e : W.heap = w.heap := by rfl) : Eyes w' nb mb pb qb A B R := by
  obtain ⟨h0, h1, h2, h3, h4, h5, h6, h7⟩ := h
  have k : ∀ (p : Addr) (v : Value), w.cell? p = some v → w'.cell? p = some v := fun p v hp => by
    have hl : p.block < W.heap.size := by rw [e]; exact World.block_lt_of_cell? w _ hp
    rw [hb.cell hl]
    exact (World.cell?_of_block (by rw [e])).trans hp
  exact ⟨k _ _ h0, k _ _ h1, k _ _ h2, k _ _ h3, k _ _ h4, k _ _ h5, k _ _ h6, k _ _ h7⟩

set_option maxHeartbeats 1000000 in
theorem closure_any (nb mb pb qb : Nat) (A B R : Int) (w : World) (h1 : -4000000000000000000 ≤ A) (h2 : A ≤ 4000000000000000000) (h3 : -4000000000000000000 ≤ B) (h4 : B ≤ 4000000000000000000)
    (he : Eyes w nb mb pb qb A B R) :
    Calls Try.prog 38 #[.pointer (some ⟨mb, 0, none⟩), .pointer (some ⟨nb, 0, none⟩), .pointer (some ⟨pb, 0, none⟩)] w fun e w' => e = .returned (.bool (decide (R ≤ A - B))) ∧ Below w.heap.size w w' := by
  have hs : ∀ w, Calls Try.prog 39 #[.agg (timeC A), .agg (timeC B)] w fun e w' => e = .returned (.int .i64 (A - B)) ∧ Below w.heap.size w w' := fun w => sub_any A B w h1 h2 h3 h4
  unfold timeC at hs
  have HE : Hid (Eyes w nb mb pb qb A B R) := he
  have he' := he
  unfold Eyes at he'
  obtain ⟨x0, hx0⟩ : ∃ x, A % 1000000000 = x := ⟨_, rfl⟩
  obtain ⟨x1, hx1⟩ : ∃ x, A / 1000000000 = x := ⟨_, rfl⟩
  obtain ⟨y0, hy0⟩ : ∃ x, B % 1000000000 = x := ⟨_, rfl⟩
  obtain ⟨y1, hy1⟩ : ∃ x, B / 1000000000 = x := ⟨_, rfl⟩
  obtain ⟨D, hD⟩ : ∃ D, A - B = D := ⟨_, rfl⟩
  rw [hx0, hx1, hy0, hy1, hD] at hs
  rw [hD]
  have HS : Hid _ := hs
  have kk : ∀ w', Eyes w' nb mb pb qb A B R → (w'.cell? ⟨nb, 0, none⟩ = some (.int .u64 x0) ∧ w'.cell? ⟨nb, 1, none⟩ = some (.int .i64 x1) ∧ w'.cell? ⟨nb, 2, none⟩ = some (.pointer none) ∧
    w'.cell? ⟨mb, 3, none⟩ = some (.int .u64 y0) ∧ w'.cell? ⟨mb, 4, none⟩ = some (.int .i64 y1) ∧ w'.cell? ⟨mb, 5, none⟩ = some (.pointer none) ∧
    w'.cell? ⟨pb, 0, none⟩ = some (.pointer (some ⟨qb, 0, none⟩)) ∧ w'.cell? ⟨qb, 2, none⟩ = some (.int .i64 R)) := by
    intro w' h
    unfold Eyes at h
    rw [hx0, hx1, hy0, hy1] at h
    exact h
  have KK : Hid _ := kk
  clear hs he he' kk hx0 hx1 hy0 hy1 hD h1 h2 h3 h4
  go_enter Try.func38, Try.ntmps38
  go_wp2
  go_region_held (fun w' => w'.cell? ⟨nb, 0, none⟩ = some (.int .u64 x0) ∧ w'.cell? ⟨nb, 1, none⟩ = some (.int .i64 x1) ∧ w'.cell? ⟨nb, 2, none⟩ = some (.pointer none) ∧
    w'.cell? ⟨mb, 3, none⟩ = some (.int .u64 y0) ∧ w'.cell? ⟨mb, 4, none⟩ = some (.int .i64 y1) ∧ w'.cell? ⟨mb, 5, none⟩ = some (.pointer none) ∧
    w'.cell? ⟨pb, 0, none⟩ = some (.pointer (some ⟨qb, 0, none⟩)) ∧ w'.cell? ⟨qb, 2, none⟩ = some (.int .i64 R))
    (first | exact KK.out _ HE.out | exact KK.out _ (Eyes.later HE.out hb1))
    (first | (go_at_call 39; refine (HS.out _).mono ?_; rintro e w1 ⟨rfl, hb1⟩))
  go_wp2
  go_ret
  exact ⟨rfl, (Below.refl _ _).drew.trans hb1⟩
end Go.Proofs.Qxb6609385a
