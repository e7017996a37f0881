/-
  THE LAW FnExpireKeepsExactlyTheYoung: its walk.
-/
import Derived.Test.Qxb6609385aKept
namespace Go.Proofs.Qxb6609385a
open Go.RowKit
set_option linter.unusedVariables false
set_option maxRecDepth 100000

theorem ints_one (l : List Int) : ∀ v ∈ ints l, v.oneCell' = true := by
  intro u hu
  unfold ints at hu
  obtain ⟨x, _, rfl⟩ := List.mem_map.1 hu
  rfl
theorem own_cells {w : World} {B g m cap : Nat} {xs : List Value} (h : w.ownsRow B 3 1 (.slice (some ⟨g, 0, none⟩) m cap) m xs) : ∀ j v, xs[j]? = some v → w.cell? ⟨g, j, none⟩ = some v := by
  intro j v hv
  have h1 := h.cells (g := g) rfl j v hv
  have e : (⟨g, 0, none⟩ : Addr).add j = ⟨g, j, none⟩ := by unfold Addr.add; split <;> simp_all
  rwa [e] at h1
theorem numbered {w0 wr : World} {qb : Nat} {R : Int} {zs : List Int} {k : Nat} {v : Value} {ms : List Msg} (h : Fill w0 qb R zs k v ms wr) : Numbered zs k ms := ⟨h.1, h.2.1⟩

set_option maxHeartbeats 1000000 in
theorem keeps_big (a0 : Option Addr) (n c : Nat) (R A : Int) (w : World) (hm : n ≤ maxLen) (hb : 65536 < n) :
    Calls Try.prog 4 #[.slice a0 n c, .int .i64 R, .int .i64 A] w fun e w' => e = .returned (.bool true) ∧ Below w.heap.size w w' := by
  have HC := hide2 (bytes19_any a0 n c R A w hm)
  unfold maxLen at hm
  go_enter Try.func4, Try.ntmps4
  go_wp2_with fail
  refine Calls.mono HC.out ?_
  rintro e w' ⟨⟨b, rfl⟩, hw⟩
  rw [hw]
  clear hw
  cases b <;> (go_wp2; go_ret; exact ⟨rfl, Below.refl _ _⟩)
set_option maxHeartbeats 1000000 in
theorem keeps_out (a0 : Option Addr) (n c : Nat) (R A : Int) (w : World) (hm : n ≤ 65536) (hb : ¬ inTime A) :
    Calls Try.prog 4 #[.slice a0 n c, .int .i64 R, .int .i64 A] w fun e w' => e = .returned (.bool true) ∧ Below w.heap.size w w' := by
  have HC := hide2 (bytes19_any a0 n c R A w (by unfold maxLen; omega))
  have hb' : 4000000000000000000 < A ∨ (A ≤ 4000000000000000000 ∧ A < -4000000000000000000) := by unfold inTime at hb; omega
  clear hb
  go_enter Try.func4, Try.ntmps4
  go_wp2_with fail
  refine Calls.mono HC.out ?_
  rintro e w' ⟨⟨b, rfl⟩, hw⟩
  rw [hw]
  clear hw
  rcases hb' with hb' | ⟨hb', hb2⟩ <;> cases b <;> (go_wp2; go_ret; exact ⟨rfl, Below.refl _ _⟩)

set_option maxHeartbeats 4000000 in
theorem keeps_small (a0 : Option Addr) (n c : Nat) (zs : List Int) (R A : Int) (w : World) (hn : n ≤ 65536) (hA : inTime A) (hn0 : a0 = none → n = 0 ∧ c = 0) (hl : zs.length = n) (hi : InA w a0 (ints zs)) :
    Calls Try.prog 4 #[.slice a0 n c, .int .i64 R, .int .i64 A] w fun e w' => e = .returned (.bool true) ∧ Below w.heap.size w w' := by
  have HC := hide2 (bytes19_any a0 n c R A w (by unfold maxLen; omega))
  have HT := hide2 (timesFit_any a0 n c zs w hn hl hi)
  have hneq := fun w a n c => run_neq_slice_nil_any (P := Try.prog) w 36 2 a n c 0 0 Try.underlying36
  have hmk0 := run_make_row' (P := Try.prog) 36 2 (.int .i64 0) 8 Try.underlying36 (by kernel_rfl) rfl .i64 .i64 n (by omega) (by omega)
  have HN0 := hide2 hn0
  have HL := hide2 hl
  have HI := hide2 hi
  have HA := hide2 hA
  have hA1 := hA.1
  have hA2 := hA.2
  clear hn0 hl hi hA
  go_enter Try.func4, Try.ntmps4
  go_wp2_with fail
  refine Calls.mono HC.out ?_
  rintro e w' ⟨⟨b, rfl⟩, hw⟩
  rw [hw]
  clear hw HC
  cases b
  · go_wp2
    go_ret
    exact ⟨rfl, Below.refl _ _⟩
  go_wp2_with fail
  refine Calls.mono HT.out ?_
  rintro e w' ⟨⟨b, rfl, hfit⟩, hw⟩
  rw [hw]
  clear hw HT
  cases b
  · go_wp2
    go_ret
    exact ⟨rfl, Below.refl _ _⟩
  have HF := hide2 (hfit rfl)
  clear hfit
  go_upto_if 29 with fail
  go_cut [0, 7] (fun v0 v7 wc => ∃ pa, v0 = .slice pa n n ∧ Lies wc pa (ints zs) ∧ Below w.heap.size w wc)
  case first =>
    cases ha : a0 with
    | none =>
      go_wp2
      go_meet
      case rel =>
        obtain ⟨e1, e2⟩ := HN0.out ha
        have e3 : ints zs = [] := List.eq_nil_of_length_eq_zero (by rw [ints_length, HL.out, e1])
        exact ⟨none, by rw [e1, e2], .inl e3, Below.refl _ _⟩
    | some x =>
      have hsrc := src_ofA (ha ▸ HI.out) (wpair w n 2 (.int .i64 0))
      rw [ints_length, HL.out] at hsrc
      have HSRC := hide2 hsrc
      clear hsrc
      go_wp2_with (refine wpList_copy_fresh rfl (.tmp 33) (.tmp 34) 36 36 rfl 2 Try.underlying36 (by kernel_rfl) n c (some x) (.int .i64 0) 2 (ints zs) rfl rfl (by rw [ints_length, HL.out]) HSRC.out (ints_one zs) ?_)
      go_meet
      case rel =>
        exact ⟨_, rfl, lies_new _ _ _, (Below.refl _ _).alloc (Nat.le_refl _) _⟩
  case rest =>
    obtain ⟨pa, rfl, hlp, hbw⟩ := hcut
    have HQ := hide2 (newQueue_any pa zs n R wc hn HL.out hlp HF.out)
    have HLP := hide2 hlp
    have HBW := hide2 hbw
    clear hlp hbw hneq hmk0
    go_wp2_with fail
    refine Calls.mono HQ.out ?_
    rintro e w3 ⟨ms, v, rfl, hq, hfill⟩
    have hb3 := hfill.2.2.2.2.2
    have HE := hide2 (zzExpire_any _ w3 _ A R ms HA.out hb3.size hq)
    have HNU := hide2 (numbered hfill)
    have HB3 := hide2 hb3
    clear hq hfill hb3 HQ
    go_wp2_with fail
    refine Calls.mono HE.out ?_
    rintro e w4 ⟨rfl, hq, hb4⟩
    have HS := hide2 (seqs_any _ w4 _ R _ hq)
    have HQ4 := hide2 hq
    have HB4 := hide2 (HB3.out.trans hb4)
    clear hq hb4 HE
    go_wp2_with fail
    refine Calls.mono HS.out ?_
    rintro e w5 ⟨g, cap, rfl, hown, hb5⟩
    rw [seqs_kept HNU.out] at hown
    have hlen := kept_len (A := A) (R := R) HNU.out
    have hB5 : Below wc.heap.size wc w5 := HB4.out.trans (hb5.mono HB4.out.size)
    have HK := hide2 (keptAre_any g (kept A R ms).length cap pa n zs R A w5 hn HL.out (HLP.out.later hB5) HF.out HA.out hlen.symm (own_cells hown))
    have HG := hide2 (goneLen_any _ w5 _ R _ (HQ4.out.later hb5))
    have HR := hide2 (retention_any _ w5 _ R _ (HQ4.out.later hb5))
    have HB5 := hide2 (HBW.out.trans (hB5.mono HBW.out.size))
    clear hown hb5 hlen hB5 HS
    go_wp2_with fail
    refine Calls.mono HK.out ?_
    rintro e w6 ⟨rfl, hw⟩
    rw [hw]
    clear hw HK
    go_wp2_with fail
    refine Calls.mono HG.out ?_
    rintro e w6 ⟨rfl, hw⟩
    rw [hw]
    clear hw HG
    go_wp2_with fail
    refine Calls.mono HR.out ?_
    rintro e w6 ⟨rfl, hw⟩
    rw [hw]
    clear hw HR
    go_wp2
    go_ret
    exact ⟨rfl, HB5.out⟩

theorem keeps_any (a0 : Option Addr) (n c : Nat) (zs : List Int) (R A : Int) (w : World) (hm : n ≤ maxLen) (hn0 : a0 = none → n = 0 ∧ c = 0) (hl : zs.length = n) (hi : InA w a0 (ints zs)) :
    Calls Try.prog 4 #[.slice a0 n c, .int .i64 R, .int .i64 A] w fun e w' => e = .returned (.bool true) ∧ Below w.heap.size w w' := by
  by_cases h1 : 65536 < n
  · exact keeps_big a0 n c R A w hm h1
  · by_cases h2 : inTime A
    · exact keeps_small a0 n c zs R A w (by omega) h2 hn0 hl hi
    · exact keeps_out a0 n c R A w (by omega) h2
end Go.Proofs.Qxb6609385a
