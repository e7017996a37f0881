/-
  WALKS: package time's Equal (on one and the same time) and Sub.
-/
import Derived.Test.Qxb6609385aTime
import Derived.Deep.RegionHeld
namespace Go.Proofs.Qxb6609385a
open Go.RowKit
set_option linter.unusedVariables false
set_option maxRecDepth 100000

theorem b_mono2 (x y : Nat) (hx : x < 1000000000) (hy : y < 1000000000) : (bits .and .u64 (bits .and .u64 (x : Int) (y : Int)) 9223372036854775808 != 0) = false := by
  rw [u64_and_nat x y (by omega) (by omega)]
  exact b_mono (x &&& y) (Nat.lt_of_le_of_lt Nat.and_le_left hx)

set_option maxHeartbeats 1000000 in
theorem equal_same (x : Nat) (s : Int) (w : World) (hx : x < 1000000000) :
    Calls Try.prog 44 #[.agg #[.int .u64 (x : Int), .int .i64 s, .pointer none], .agg #[.int .u64 (x : Int), .int .i64 s, .pointer none]] w fun e w' => e = .returned (.bool true) ∧ Below w.heap.size w w' := by
  have hm := b_mono2 x x hx hx
  go_enter Try.func44, Try.ntmps44
  go_wp2_with (first | (go_at_call 41; refine (sec_any _ _ x s _ hx ?_ ?_).mono ?_; (simp); (simp); rintro e w' ⟨rfl, hw⟩; rw [hw]; clear hw) | (go_at_call 34; refine (nsec_any _ _ x _ hx ?_).mono ?_; (simp); rintro e w' ⟨rfl, hw⟩; rw [hw]; clear hw))
  go_ret
  exact ⟨rfl, ((Below.refl _ _).alloc (Nat.le_refl _) _).alloc (by simp) _⟩

/-- the two boxed times. -/
def Six (w : World) (b x : Nat) (s : Int) (y : Nat) (u : Int) : Prop :=
  w.cell? ⟨b, 0, none⟩ = some (.int .u64 (x : Int)) ∧ w.cell? ⟨b, 1, none⟩ = some (.int .i64 s) ∧ w.cell? ⟨b, 2, none⟩ = some (.pointer none) ∧
      w.cell? ⟨b + 1, 0, none⟩ = some (.int .u64 (y : Int)) ∧ w.cell? ⟨b + 1, 1, none⟩ = some (.int .i64 u) ∧ w.cell? ⟨b + 1, 2, none⟩ = some (.pointer none)
theorem Six.later {w w' : World} {b x : Nat} {s : Int} {y : Nat} {u : Int} {W : World} (h : Six w b x s y u) (hb : Below W.heap.size W w') (hl : b + 1 < W.heap.size) (e : W.heap = w.heap := by rfl) : Six w' b x s y u := by
  obtain ⟨h0, h1, h2, h3, h4, h5⟩ := h
  have k : ∀ (p : Addr), p.block < W.heap.size → w'.cell? p = w.cell? p := fun p hp => by rw [hb.cell hp]; exact World.cell?_of_block (by rw [e])
  exact ⟨(k _ (by show b < _; omega)).trans h0, (k _ (by show b < _; omega)).trans h1, (k _ (by show b < _; omega)).trans h2, (k _ hl).trans h3, (k _ hl).trans h4, (k _ hl).trans h5⟩

set_option maxHeartbeats 1000000 in
theorem sub_way (x y : Nat) (s u D : Int) (w : World) (hx : x < 1000000000) (hy : y < 1000000000) (hs1 : -5000000000 ≤ s) (hs2 : s ≤ 5000000000) (hu1 : -5000000000 ≤ u) (hu2 : u ≤ 5000000000) (hE : (s - u) * 1000000000 + ((x : Int) - (y : Int)) = D)
    (hD1 : -8500000000000000000 ≤ D) (hD2 : D ≤ 8500000000000000000)
    (hadd : ∀ w, Calls Try.prog 30 #[.agg #[.int .u64 (y : Int), .int .i64 u, .pointer none], .int .i64 D] w fun e w' => e = .returned (.agg #[.int .u64 (x : Int), .int .i64 s, .pointer none]) ∧ Below w.heap.size w w') :
    Calls Try.prog 39 #[.agg #[.int .u64 (x : Int), .int .i64 s, .pointer none], .agg #[.int .u64 (y : Int), .int .i64 u, .pointer none]] w fun e w' => e = .returned (.int .i64 D) ∧ Below w.heap.size w w' := by
  have hm := b_mono2 x y hx hy
  have HA : Hid _ := hadd
  clear hadd
  go_enter Try.func39, Try.ntmps39
  go_wp2_with fail
  refine (sec_any _ _ x s _ hx (by simp) (by simp)).mono ?_
  rintro e w' ⟨rfl, hw⟩
  rw [hw]
  clear hw
  go_wp2_with fail
  refine (sec_any _ _ y u _ hy (by simp) (by simp)).mono ?_
  rintro e w' ⟨rfl, hw⟩
  rw [hw]
  clear hw
  go_wp2_with fail
  refine (nsec_any _ _ x _ hx (by simp)).mono ?_
  rintro e w' ⟨rfl, hw⟩
  rw [hw]
  clear hw
  go_wp2_with fail
  refine (nsec_any _ _ y _ hy (by simp)).mono ?_
  rintro e w' ⟨rfl, hw⟩
  rw [hw]
  clear hw
  go_wp2_with fail
  have e0 : ((w.alloc (.cells #[.int .u64 (x : Int), .int .i64 s, .pointer none] 64)).alloc (.cells #[.int .u64 (y : Int), .int .i64 u, .pointer none] 64)).heap.size = w.heap.size + 2 := by simp
  have eb : Below w.heap.size w ((w.alloc (.cells #[.int .u64 (x : Int), .int .i64 s, .pointer none] 64)).alloc (.cells #[.int .u64 (y : Int), .int .i64 u, .pointer none] 64)) := ((Below.refl _ _).alloc (Nat.le_refl _) _).alloc (by simp) _
  have ec : Six ((w.alloc (.cells #[.int .u64 (x : Int), .int .i64 s, .pointer none] 64)).alloc (.cells #[.int .u64 (y : Int), .int .i64 u, .pointer none] 64)) w.heap.size x s y u := by
    refine ⟨?_, ?_, ?_, ?_, ?_, ?_⟩ <;> simp
  obtain ⟨W, hW⟩ : ∃ W, ((w.alloc (.cells #[.int .u64 (x : Int), .int .i64 s, .pointer none] 64)).alloc (.cells #[.int .u64 (y : Int), .int .i64 u, .pointer none] 64)) = W := ⟨_, rfl⟩
  rw [hW] at e0 eb ec ⊢
  clear hW
  have E0 : Hid _ := e0
  have EB : Hid _ := eb
  have EC : Hid (Six W w.heap.size x s y u) := ec
  clear e0 eb ec
  go_region_held (fun w' => w'.cell? ⟨w.heap.size, 0, none⟩ = some (.int .u64 (x : Int)) ∧ w'.cell? ⟨w.heap.size, 1, none⟩ = some (.int .i64 s) ∧ w'.cell? ⟨w.heap.size, 2, none⟩ = some (.pointer none) ∧
      w'.cell? ⟨w.heap.size + 1, 0, none⟩ = some (.int .u64 (y : Int)) ∧ w'.cell? ⟨w.heap.size + 1, 1, none⟩ = some (.int .i64 u) ∧ w'.cell? ⟨w.heap.size + 1, 2, none⟩ = some (.pointer none))
    (first | exact EC.out | exact Six.later EC.out hb1 (by show w.heap.size + 1 < W.heap.size; have := E0.out; omega) | exact Six.later (Six.later EC.out hb1 (by show w.heap.size + 1 < W.heap.size; have := E0.out; omega)) hb2 (by have h1 : W.heap.size ≤ w1.heap.size := hb1.size; have := E0.out; omega))
    (first | (go_at_call 30; refine (HA.out _).mono ?_; rintro e w1 ⟨rfl, hb1⟩) | (go_at_call 44; refine (equal_same x s _ hx).mono ?_; rintro e w2 ⟨rfl, hb2⟩))
  go_wp2
  go_ret
  exact ⟨rfl, (EB.out.drew.trans (hb1.mono EB.out.size)).trans (hb2.mono (Nat.le_trans EB.out.size hb1.size))⟩
end Go.Proofs.Qxb6609385a
