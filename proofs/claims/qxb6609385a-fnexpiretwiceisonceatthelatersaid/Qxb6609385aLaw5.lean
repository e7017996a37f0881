/-
  THE LAW FnExpireTwiceIsOnceAtTheLater: its walk.
-/
import Derived.Test.Qxb6609385aLaw4
namespace Go.Proofs.Qxb6609385a
open Go.RowKit
set_option linter.unusedVariables false
set_option maxRecDepth 100000

set_option maxHeartbeats 1000000 in
theorem twice_big (a0 : Option Addr) (n c : Nat) (R a b : Int) (w : World) (hm : n ≤ maxLen) (hb : 65536 < n) :
    Calls Try.prog 5 #[.slice a0 n c, .int .i64 R, .int .i64 a, .int .i64 b] w fun e w' => e = .returned (.bool true) ∧ Below w.heap.size w w' := by
  have HC := hide2 (bytes27_any a0 n c R a b w hm)
  unfold maxLen at hm
  go_enter Try.func5, Try.ntmps5
  go_wp2_with fail
  refine Calls.mono HC.out ?_
  rintro e w' ⟨⟨b, rfl⟩, hw⟩
  rw [hw]
  clear hw
  cases b <;> (go_wp2; go_ret; exact ⟨rfl, Below.refl _ _⟩)
set_option maxHeartbeats 1000000 in
theorem twice_out (a0 : Option Addr) (n c : Nat) (R a b : Int) (w : World) (hm : n ≤ 65536) (hb : ¬ (inTime a ∧ inTime b)) :
    Calls Try.prog 5 #[.slice a0 n c, .int .i64 R, .int .i64 a, .int .i64 b] w fun e w' => e = .returned (.bool true) ∧ Below w.heap.size w w' := by
  have HC := hide2 (bytes27_any a0 n c R a b w (by unfold maxLen; omega))
  have hb' : 4000000000000000000 < a ∨ (a ≤ 4000000000000000000 ∧ a < -4000000000000000000) ∨ (a ≤ 4000000000000000000 ∧ -4000000000000000000 ≤ a ∧ 4000000000000000000 < b) ∨ (a ≤ 4000000000000000000 ∧ -4000000000000000000 ≤ a ∧ b ≤ 4000000000000000000 ∧ b < -4000000000000000000) := by
    unfold inTime at hb; omega
  clear hb
  go_enter Try.func5, Try.ntmps5
  go_wp2_with fail
  refine Calls.mono HC.out ?_
  rintro e w' ⟨⟨b, rfl⟩, hw⟩
  rw [hw]
  clear hw
  rcases hb' with h1 | ⟨h1, h2⟩ | ⟨h1, h2, h3⟩ | ⟨h1, h2, h3, h4⟩ <;> cases b <;> (go_wp2; go_ret; exact ⟨rfl, Below.refl _ _⟩)

set_option maxHeartbeats 8000000 in
theorem twice_small (a0 : Option Addr) (n c : Nat) (zs : List Int) (R a b L : Int) (w : World) (hn : n ≤ 65536) (hA : inTime a) (hB : inTime b) (hLm : L = max a b) (hn0 : a0 = none → n = 0 ∧ c = 0) (hl : zs.length = n) (hi : InA w a0 (ints zs)) :
    Calls Try.prog 5 #[.slice a0 n c, .int .i64 R, .int .i64 a, .int .i64 b] w fun e w' => e = .returned (.bool true) ∧ Below w.heap.size w w' := by
  have HC := hide2 (bytes27_any a0 n c R a b w (by unfold maxLen; omega))
  have HT := hide2 (timesFit_any a0 n c zs w hn hl hi)
  have hneq := fun w a n c => run_neq_slice_nil_any (P := Try.prog) w 36 2 a n c 0 0 Try.underlying36
  have hmk0 := run_make_row' (P := Try.prog) 36 2 (.int .i64 0) 8 Try.underlying36 (by kernel_rfl) rfl .i64 .i64 n (by omega) (by omega)
  have HN0 := hide2 hn0
  have HL := hide2 hl
  have HI := hide2 hi
  have HA := hide2 hA
  have HB := hide2 hB
  have HLM := hide2 hLm
  have HAL : Hid (inTime L) := by
    have h1 := hA.1
    have h2 := hA.2
    have h3 := hB.1
    have h4 := hB.2
    exact ⟨by omega, by omega⟩
  have hA1 := hA.1
  have hA2 := hA.2
  have hB1 := hB.1
  have hB2 := hB.2
  clear hn0 hl hi hA hB hLm
  go_enter Try.func5, Try.ntmps5
  go_wp2_with fail
  refine Calls.mono HC.out ?_
  rintro e w' ⟨⟨bb, rfl⟩, hw⟩
  rw [hw]
  clear hw HC
  cases bb
  · go_wp2
    go_ret
    exact ⟨rfl, Below.refl _ _⟩
  go_wp2_with fail
  refine Calls.mono HT.out ?_
  rintro e w' ⟨⟨bb, rfl, hfit⟩, hw⟩
  rw [hw]
  clear hw HT
  cases bb
  · go_wp2
    go_ret
    exact ⟨rfl, Below.refl _ _⟩
  have HF := hide2 (hfit rfl)
  clear hfit
  go_upto_if 45 with fail
  go_cut [0, 9] (fun v0 v9 wc => ∃ pa, v0 = .slice pa n n ∧ Lies wc pa (ints zs) ∧ Below w.heap.size w wc)
  case first =>
    cases ha : a0 with
    | none =>
      go_wp2
      go_meet
      case rel =>
        obtain ⟨e1, e2⟩ := HN0.out ha
        have e3 : ints zs = [] := List.eq_nil_of_length_eq_zero (by rw [ints_length, HL.out, e1])
        exact ⟨none, by rw [e1, e2], .inl e3, Below.refl _ _⟩
    | some x =>
      have hsrc := src_ofA (ha ▸ HI.out) (wpair w n 2 (.int .i64 0))
      rw [ints_length, HL.out] at hsrc
      have HSRC := hide2 hsrc
      clear hsrc
      go_wp2_with (refine wpList_copy_fresh rfl (.tmp 49) (.tmp 50) 36 36 rfl 2 Try.underlying36 (by kernel_rfl) n c (some x) (.int .i64 0) 2 (ints zs) rfl rfl (by rw [ints_length, HL.out]) HSRC.out (ints_one zs) ?_)
      go_meet
      case rel =>
        exact ⟨_, rfl, lies_new _ _ _, (Below.refl _ _).alloc (Nat.le_refl _) _⟩
  case rest =>
    obtain ⟨pa, rfl, hlp, hbw⟩ := hcut
    obtain ⟨w2, hw2⟩ : ∃ x, x = wc := ⟨_, rfl⟩
    subst hw2
    have HQ := hide2 (newQueue_any pa zs n R w2 hn HL.out hlp HF.out)
    have HLP := hide2 hlp
    have HBW := hide2 hbw
    clear hlp hbw hneq hmk0
    go_wp2_with fail
    refine Calls.mono HQ.out ?_
    rintro e w3 ⟨ms, v, rfl, hq, hfill⟩
    have hb3 := hfill.2.2.2.2.2
    have HE := hide2 (zzExpire_any _ w3 _ a R ms HA.out hb3.size hq)
    have HNU := hide2 (numbered hfill)
    have HB3 := hide2 hb3
    clear hq hfill hb3 HQ
    go_wp2_with fail
    refine Calls.mono HE.out ?_
    rintro e w4 ⟨rfl, hq, hb4⟩
    have hb4' := HB3.out.trans hb4
    have HE2 := hide2 (zzExpire_any _ w4 _ b R _ HB.out hb4'.size hq)
    have HB4 := hide2 hb4'
    clear hq hb4 hb4' HE
    go_wp2_with fail
    refine Calls.mono HE2.out ?_
    rintro e w5 ⟨rfl, hq, hb5⟩
    rw [kept_twice a b L R ms HLM.out] at hq
    have HQ1 := hide2 hq
    have HB5 := hide2 (HB4.out.trans hb5)
    clear hq hb5 HE2
    go_upto_if 65 with fail
    go_cut [11] (fun v11 wd => v11 = .int .i64 L ∧ wd = w5)
    case first =>
      by_cases g : a < b
      · go_wp2
        go_meet
        case rel => exact ⟨by rw [HLM.out]; congr 1; omega, rfl⟩
      · go_wp2
        go_meet
        case rel => exact ⟨by rw [HLM.out]; congr 1; omega, rfl⟩
    case rest =>
      obtain ⟨rfl, hwd⟩ := hcut
      rw [hwd]
      clear hwd
      have HQ2 := hide2 (newQueue_any pa zs n R w5 hn HL.out (HLP.out.later HB5.out) HF.out)
      go_wp2_with fail
      refine Calls.mono HQ2.out ?_
      rintro e w6 ⟨ms2, v2, rfl, hq, hfill⟩
      have hb6 := hfill.2.2.2.2.2
      have HE := hide2 (zzExpire_any _ w6 _ L R ms2 HAL.out hb6.size hq)
      have HNU2 := hide2 (numbered hfill)
      have HB6 := hide2 hb6
      clear hq hfill hb6 HQ2
      go_wp2_with fail
      refine Calls.mono HE.out ?_
      rintro e w7 ⟨rfl, hq, hb7⟩
      have hb57 := HB6.out.trans hb7
      have HS := hide2 (seqs_any _ w7 _ R _ (HQ1.out.later hb57))
      have HQ27 := hide2 hq
      have HB7 := hide2 hb57
      clear hq hb7 hb57 HE
      go_wp2_with fail
      refine Calls.mono HS.out ?_
      rintro e w8 ⟨g1, cap1, rfl, hown1, hb8⟩
      have HS2 := hide2 (seqs_any _ w8 _ R _ (HQ27.out.later hb8))
      rw [seqs_kept HNU.out] at hown1
      have HO1 := hide2 hown1
      have HB8 := hide2 hb8
      clear hown1 hb8 HS
      go_wp2_with fail
      refine Calls.mono HS2.out ?_
      rintro e w9 ⟨g2, cap2, rfl, hown2, hb9⟩
      rw [seqs_kept HNU2.out] at hown2
      have C1 := hide2 (own_cells (ownsRow_below HO1.out hb9))
      have C2 := hide2 (own_cells hown2)
      have l1 := kept_len (A := L) (R := R) HNU.out
      have l2 := kept_len (A := L) (R := R) HNU2.out
      obtain ⟨m, hm⟩ : ∃ m, (keptIdx L R zs n).length = m := ⟨_, rfl⟩
      have hmn : m ≤ n := hm ▸ keptIdx_le L R zs n
      rw [hm] at l1 l2
      rw [l1, l2]
      have B59 : Below w5.heap.size w5 w9 := (HB7.out.trans (HB8.out.mono HB7.out.size)).trans (hb9.mono (Nat.le_trans HB7.out.size HB8.out.size))
      have HB29 := hide2 (HB5.out.trans (B59.mono HB5.out.size))
      have HM := hide2 hm
      clear hown2 hb9 l1 l2 B59 hm HS2 HO1
      go_wp2
      go_loopw [15] (fun i wr => ∃ k : Nat, k ≤ m ∧ i = .int .i64 (k : Int) ∧ Below w9.heap.size w9 wr) (fun i _ => m - (intOf i).toNat)
      case atStart => exact ⟨0, Nat.zero_le _, rfl, Below.refl _ _⟩
      case round =>
        obtain ⟨k, hk, rfl, hbel⟩ := hrel
        have HBE := hide2 hbel
        clear hbel
        by_cases hlt : k < m
        · obtain ⟨i, hi⟩ : ∃ i, (keptIdx L R zs n)[k]? = some i := ⟨_, List.getElem?_eq_getElem (by rw [HM.out]; exact hlt)⟩
          have d1 : wr.cell? ⟨g1, k, none⟩ = some (.int .i64 (i : Int)) := cell_keeps HBE.out (C1.out k _ (nums_get hi))
          have d2 : wr.cell? ⟨g2, k, none⟩ = some (.int .i64 (i : Int)) := cell_keeps HBE.out (C2.out k _ (nums_get hi))
          have hkm : (k : Int) < (m : Int) := by omega
          clear hi
          go_wp2_with fail
          go_region
          all_goals go_wp2
          all_goals go_roundw
          all_goals first | exact ⟨k + 1, by omega, by go_num, HBE.out.drew⟩ | (simp [intOf]; omega)
        · have ek : k = m := by omega
          subst ek
          have hb2r : Below w2.heap.size w2 wr := HB29.out.trans (HBE.out.mono HB29.out.size)
          have HK := hide2 (keptAre_any g1 k cap1 pa n zs R L wr hn HL.out (HLP.out.later hb2r) HF.out HAL.out HM.out (fun j v hv => cell_keeps HBE.out (C1.out j v hv)))
          have HBR := hide2 (HBW.out.trans (hb2r.mono HBW.out.size))
          clear hb2r
          go_wp2_with fail
          refine Calls.mono HK.out ?_
          rintro e wz ⟨rfl, hw⟩
          rw [hw]
          clear hw HK
          go_wp2
          go_ret
          exact ⟨rfl, HBR.out⟩

theorem twice_any (a0 : Option Addr) (n c : Nat) (zs : List Int) (R a b : Int) (w : World) (hm : n ≤ maxLen) (hn0 : a0 = none → n = 0 ∧ c = 0) (hl : zs.length = n) (hi : InA w a0 (ints zs)) :
    Calls Try.prog 5 #[.slice a0 n c, .int .i64 R, .int .i64 a, .int .i64 b] w fun e w' => e = .returned (.bool true) ∧ Below w.heap.size w w' := by
  by_cases h1 : 65536 < n
  · exact twice_big a0 n c R a b w hm h1
  · by_cases h2 : inTime a ∧ inTime b
    · exact twice_small a0 n c zs R a b (max a b) w (by omega) h2.1 h2.2 rfl hn0 hl hi
    · exact twice_out a0 n c R a b w (by omega) h2
end Go.Proofs.Qxb6609385a
