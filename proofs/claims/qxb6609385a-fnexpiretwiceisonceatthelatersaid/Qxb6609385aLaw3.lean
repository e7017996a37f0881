/-
  THE LAW FnNewExpressionsGivesEachCallItsOwnMarks: its walk.
-/
import Derived.Test.Qxb6609385aMarks
import Derived.LaidEqlPtr
namespace Go.Proofs.Qxb6609385a
open Go.RowKit
set_option linter.unusedVariables false
set_option maxRecDepth 100000

/-- 'copy(zzc, xs)', zzc just made with xs's length: the new row holds xs's cells. -/
theorem wpList_copy_fresh {P : Program} {w : World} {ops : Array Oper} {rest : List Oper} {o : Oper} {a : Act} {Q : Exit → Act → World → Prop} (hgd : o.guard = none) (d s : Operand) (dT sT : TypeId)
    (ho : o.op = .call { callee := .builtin .copy, args := #[d, s], argTypes := #[dT, sT] }) (elem : TypeId) (hu : P.underlying dT = some (.slice elem)) (hsz : (P.info? elem).map (·.size) = some 1)
    (n cap : Nat) (sp : Option Addr) (z : Value) (t : TypeId) (cs : List Value)
    (hd : a.eval d = .slice (some ⟨w.heap.size, 0, none⟩) n n) (hs : a.eval s = .slice sp n cap) (hn : cs.length = n)
    (hsrc : 0 < n → ∃ ad, sp = some ad ∧ ∀ j v, cs[j]? = some v → (w.alloc (.cells (madeCells #[z] n) t)).cell? (ad.add j) = some v) (h1 : ∀ v ∈ cs, v.oneCell' = true)
    (h : wpList P ops Q rest (a.put o.dst (goInt n)) (w.alloc (.cells cs.toArray t))) : wpList P ops Q (o :: rest) a (w.alloc (.cells (madeCells #[z] n) t)) := by
  by_cases h0 : n = 0
  · subst h0
    obtain rfl : cs = [] := List.eq_nil_of_length_eq_zero hn
    refine wpList_copy_nothing hgd d s dT sT ho elem hu hsz _ _ _ _ _ _ hd hs (by simp) ?_
    have e : madeCells #[z] 0 = #[] := Array.eq_empty_of_size_eq_zero (size_madeCells _ _)
    rw [e]
    exact h
  · obtain ⟨ad, rfl, hc⟩ := hsrc (by omega)
    refine wpList_copy_own hgd d s dT sT ho elem hu hsz w.heap.size 0 n n ad n cap hd hs (madeCells #[z] n) t (heap_alloc_new _ _) cs (by rw [hn]; exact (Nat.min_self n).symm) hc (by rw [size_madeCells]; omega) h1 ?_
    rw [World.setRow_alloc_new, hn]
    have e : ((madeCells #[z] n).toList.take 0 ++ (cs ++ (madeCells #[z] n).toList.drop (0 + n))) = cs := by
      rw [toList_madeCells_one]
      simp
    rw [e]
    exact h

theorem strs_one (l : List ByteArray) : ∀ v ∈ strs l, v.oneCell' = true := by
  intro u hu
  unfold strs at hu
  obtain ⟨x, _, rfl⟩ := List.mem_map.1 hu
  rfl
theorem wpair (w : World) (n : Nat) (t : TypeId) (z : Value) : Below w.heap.size w (w.alloc (.cells (madeCells #[z] n) t)) := (Below.refl _ _).alloc (Nat.le_refl _) _
theorem lies_new (w : World) (cs : List Value) (t : TypeId) : Lies (w.alloc (.cells cs.toArray t)) (some ⟨w.heap.size, 0, none⟩) cs := by
  refine .inr ⟨w.heap.size, rfl, fun k v hv => ?_⟩
  rw [cell_of_row _ _ k cs.toArray t (0, 0) (heap_alloc_new _ _)]
  simpa using hv
/-- the source's cells, as the copy's law asks them, in a later world. -/
theorem src_of {w w' : World} {a : Option Addr} {cs : List Value} (h : In w a cs) (hb : Below w.heap.size w w') : 0 < cs.length → ∃ ad, a = some ad ∧ ∀ j v, cs[j]? = some v → w'.cell? (ad.add j) = some v := by
  intro hp
  obtain ⟨b, o, ha, hc⟩ := in_pos h hp
  refine ⟨_, ha, fun j v hv => ?_⟩
  have h1 := hc j v hv
  have e : (⟨b, o, none⟩ : Addr).add j = ⟨b, o + j, none⟩ := by unfold Addr.add; split <;> simp_all
  rw [e, hb.cell (World.block_lt_of_cell? w _ h1)]
  exact h1
theorem lastIdx_lt {ks : List ByteArray} {key : ByteArray} : ∀ {k j : Nat}, lastIdx ks key k = some j → j < k
  | 0, j, h => by cases h
  | k + 1, j, h => by
    rw [lastIdx] at h
    split at h
    · cases h; omega
    · have := lastIdx_lt h; omega
theorem named_some {ks vs : List ByteArray} {k j : Nat} {key : ByteArray} (h : lastIdx ks key k = some j) : named ks vs k key = some (.iface 9 (.string (vs.getD j ByteArray.empty))) := by
  unfold named; rw [h]; rfl
theorem named_none {ks vs : List ByteArray} {k : Nat} {key : ByteArray} (h : lastIdx ks key k = none) : named ks vs k key = none := by
  unfold named; rw [h]; rfl

theorem size53 : (Try.prog.info? 53).map (·.size) = some 4 := by kernel_rfl
theorem ptr_ne {w : World} {s nb m a b : Nat} {gN gU gD : ByteArray → Option Value} (h : Recs w s nb m gN a gU b gD) :
    (binOp .eql 25 (.pointer (some ⟨s + 2, 0, none⟩)) (.pointer (some ⟨s + 5, 0, none⟩))).run Try.prog w = .ok (.bool false) w := by
  obtain ⟨j, hj, hs⟩ := Option.map_eq_some_iff.1 size53
  exact run_eql_ptr_other w Try.underlying25 hj (by rw [hs]; decide) (by intro e; injection e with e1; omega) h.c1 h.c2

set_option maxHeartbeats 1000000 in
theorem marks_big (a0 : Option Addr) (l0 c0 : Nat) (ks : List ByteArray) (a1 : Option Addr) (l1 c1 : Nat) (vs : List ByteArray) (mark : ByteArray) (w : World) (h0 : l0 ≤ maxLen) (h1 : l1 ≤ maxLen)
    (hl0 : ks.length = l0) (hl1 : vs.length = l1) (hi0 : In w a0 (strs ks)) (hi1 : In w a1 (strs vs)) (hb : ¬ (l0 ≤ 4096 ∧ l1 ≤ 4096)) :
    Calls Try.prog 3 #[.slice a0 l0 c0, .slice a1 l1 c1, .string mark] w fun e w' => e = .returned (.bool true) ∧ Below w.heap.size w w' := by
  have HC := hide2 (bytes_any a0 l0 c0 ks a1 l1 c1 vs mark w h0 h1 hl0 hl1 hi0 hi1)
  clear hl0 hl1 hi0 hi1
  unfold maxLen at h0 h1
  by_cases g0 : 4096 < l0
  · go_enter Try.func3, Try.ntmps3
    go_wp2_with fail
    refine Calls.mono HC.out ?_
    rintro e w' ⟨⟨b, rfl⟩, hw⟩
    rw [hw]
    clear hw
    cases b <;> (go_wp2; go_ret; exact ⟨rfl, Below.refl _ _⟩)
  · have g1 : 4096 < l1 := by omega
    go_enter Try.func3, Try.ntmps3
    go_wp2_with fail
    refine Calls.mono HC.out ?_
    rintro e w' ⟨⟨b, rfl⟩, hw⟩
    rw [hw]
    clear hw
    cases b <;> (go_wp2; go_ret; exact ⟨rfl, Below.refl _ _⟩)

set_option maxHeartbeats 4000000 in
theorem marks_small (a0 : Option Addr) (l0 c0 : Nat) (ks : List ByteArray) (a1 : Option Addr) (l1 c1 : Nat) (vs : List ByteArray) (mark : ByteArray) (w : World) (h0 : l0 ≤ 4096) (h1 : l1 ≤ 4096)
    (hn0 : a0 = none → l0 = 0 ∧ c0 = 0) (hn1 : a1 = none → l1 = 0 ∧ c1 = 0) (hl0 : ks.length = l0) (hl1 : vs.length = l1) (hi0 : In w a0 (strs ks)) (hi1 : In w a1 (strs vs)) :
    Calls Try.prog 3 #[.slice a0 l0 c0, .slice a1 l1 c1, .string mark] w fun e w' => e = .returned (.bool true) ∧ Below w.heap.size w w' := by
  have HC := hide2 (bytes_any a0 l0 c0 ks a1 l1 c1 vs mark w (by unfold maxLen; omega) (by unfold maxLen; omega) hl0 hl1 hi0 hi1)
  have HS0 := hide2 (strBytes_any a0 l0 c0 ks w h0 hl0 hi0)
  have HS1 := hide2 (strBytes_any a1 l1 c1 vs w h1 hl1 hi1)
  have hneq := fun w a n c => run_neq_slice_nil_any (P := Try.prog) w 22 9 a n c 0 0 Try.underlying22
  have hmk := fun l (hl : l ≤ 4096) => run_make_row' (P := Try.prog) 22 9 (.string ByteArray.empty) 16 Try.underlying22 (by kernel_rfl) rfl .i64 .i64 l (by omega) (by omega)
  have hmk0 := hmk l0 h0
  have hmk1 := hmk l1 h1
  clear hmk
  have HN0 := hide2 hn0
  have HN1 := hide2 hn1
  have HL0 := hide2 hl0
  have HL1 := hide2 hl1
  have HI0 := hide2 hi0
  have HI1 := hide2 hi1
  clear hn0 hn1 hl0 hl1 hi0 hi1
  go_enter Try.func3, Try.ntmps3
  go_wp2_with fail
  refine Calls.mono HC.out ?_
  rintro e w' ⟨⟨b, rfl⟩, hw⟩
  rw [hw]
  clear hw HC
  cases b
  · go_wp2
    go_ret
    exact ⟨rfl, Below.refl _ _⟩
  go_wp2_with fail
  refine Calls.mono HS0.out ?_
  rintro e w' ⟨⟨z0, rfl⟩, hw⟩
  rw [hw]
  clear hw HS0
  go_wp2_with fail
  refine Calls.mono HS1.out ?_
  rintro e w' ⟨⟨z1, rfl⟩, hw⟩
  rw [hw]
  clear hw HS1
  go_upto_if 40 with fail
  · go_ret
    exact ⟨rfl, Below.refl _ _⟩
  go_cut [0, 7] (fun v0 v7 wc => ∃ pa, v0 = .slice pa l0 l0 ∧ Lies wc pa (strs ks) ∧ Below w.heap.size w wc)
  case first =>
    cases ha : a0 with
    | none =>
      go_wp2
      go_meet
      case rel =>
        obtain ⟨e1, e2⟩ := HN0.out ha
        have e3 : strs ks = [] := List.eq_nil_of_length_eq_zero (by rw [strs_length, HL0.out, e1])
        exact ⟨none, by rw [e1, e2], .inl e3, Below.refl _ _⟩
    | some x =>
      have hsrc := src_of (ha ▸ HI0.out) (wpair w l0 9 (.string ByteArray.empty))
      rw [strs_length, HL0.out] at hsrc
      have HSRC := hide2 hsrc
      clear hsrc
      go_wp2_with (refine wpList_copy_fresh rfl (.tmp 44) (.tmp 45) 22 22 rfl 9 Try.underlying22 (by kernel_rfl) l0 c0 (some x) (.string ByteArray.empty) 9 (strs ks) rfl rfl (by rw [strs_length, HL0.out]) HSRC.out (strs_one ks) ?_)
      go_meet
      case rel =>
        exact ⟨_, rfl, lies_new _ _ _, (Below.refl _ _).alloc (Nat.le_refl _) _⟩
  case rest =>
    obtain ⟨pa, rfl, hlp, hbw⟩ := hcut
    have HLP := hide2 hlp
    have HBW := hide2 hbw
    clear hlp hbw
    go_upto_if 49 with fail
    go_cut [1, 8] (fun v1 v8 w2 => ∃ fa, v1 = .slice fa l1 l1 ∧ Lies w2 pa (strs ks) ∧ Lies w2 fa (strs vs) ∧ Below w.heap.size w w2)
    case first =>
      cases ha : a1 with
      | none =>
        go_wp2
        go_meet
        case rel =>
          obtain ⟨e1, e2⟩ := HN1.out ha
          have e3 : strs vs = [] := List.eq_nil_of_length_eq_zero (by rw [strs_length, HL1.out, e1])
          exact ⟨none, by rw [e1, e2], HLP.out, .inl e3, HBW.out⟩
      | some x =>
        have hsrc := src_of (ha ▸ HI1.out) (HBW.out.trans ((wpair wc l1 9 (.string ByteArray.empty)).mono HBW.out.size))
        rw [strs_length, HL1.out] at hsrc
        have HSRC := hide2 hsrc
        clear hsrc
        go_wp2_with (refine wpList_copy_fresh rfl (.tmp 53) (.tmp 54) 22 22 rfl 9 Try.underlying22 (by kernel_rfl) l1 c1 (some x) (.string ByteArray.empty) 9 (strs vs) rfl rfl (by rw [strs_length, HL1.out]) HSRC.out (strs_one vs) ?_)
        go_meet
        case rel =>
          have hb1 : Below wc.heap.size wc (wc.alloc (.cells (strs vs).toArray 9)) := (Below.refl _ _).alloc (Nat.le_refl _) _
          exact ⟨_, rfl, Lies.later HLP.out hb1, lies_new _ _ _, HBW.out.trans (hb1.mono HBW.out.size)⟩
    case rest =>
      clear hneq hmk0 hmk1
      obtain ⟨fa, rfl, hlp, hlf, hbw⟩ := hcut
      have HP := hide2 (pair_any pa fa ks vs l0 l1 wc h0 h1 HL0.out HL1.out hlp hlf)
      have HLP2 := hide2 hlp
      have HLF := hide2 hlf
      have HBW2 := hide2 hbw
      clear hlp hlf hbw HLP HBW
      go_wp2_with fail
      refine Calls.mono HP.out ?_
      rintro e w3 ⟨s, nb, m, rfl, hrecs, hnb, hb3⟩
      clear HP
      have hbA := HBW2.out.trans (hb3.mono HBW2.out.size)
      have HR := hide2 hrecs
      have HBA := hide2 hbA
      have HB3 := hide2 hb3
      have hpne := ptr_ne hrecs
      clear hrecs hb3 hbA
      go_wp2_with fail
      refine Calls.mono (markUsed_any (s + 2) s mark w3 (cell1 HR.out 2) HR.out.u1) ?_
      rintro e w4 ⟨rfl, hm4, hp4⟩
      have HR4 := hide2 (recs_used HR.out hp4 hm4)
      have HBA4 : Hid (Below w.heap.size w w4) := HBA.out.trans (hp4.below (by have := HR.out.lt; have := HBW2.out.size; omega))
      have HBC4 : Hid (Below wc.heap.size wc w4) := HB3.out.trans (hp4.below (by have := HR.out.lt; omega))
      clear hm4 hp4 HBA HB3
      go_wp2_with fail
      refine Calls.mono (markNamed_any (s + 5) (s + 4) mark w4 (cell2 HR4.out 3) HR4.out.d2) ?_
      rintro e w5 ⟨rfl, hm5, hp5⟩
      have HR5 := hide2 (recs_named HR4.out hp5 hm5)
      have HBA5 : Hid (Below w.heap.size w w5) := HBA4.out.trans (hp5.below (by have := HR.out.lt; have := HBW2.out.size; omega))
      have HBC5 : Hid (Below wc.heap.size wc w5) := HBC4.out.trans (hp5.below (by have := HR.out.lt; omega))
      clear hm5 hp5 HBA4 HBC4 HR4 HR
      go_wp2_with fail
      refine Calls.mono (usedLen_any (s + 2) s 1 (oneG mark) w5 (cell1 HR5.out 2) HR5.out.u1) ?_
      rintro e w' ⟨rfl, hw⟩
      rw [hw]
      clear hw
      go_wp2_with fail
      refine Calls.mono (usedHas_any (s + 2) s 1 (oneG mark) mark w5 (cell1 HR5.out 2) HR5.out.u1 (oneG_self mark)) ?_
      rintro e w' ⟨rfl, hw⟩
      rw [hw]
      clear hw
      go_wp2_with fail
      refine Calls.mono (namedLen_any (s + 2) (s + 1) 0 _ w5 (cell1 HR5.out 3) HR5.out.d1) ?_
      rintro e w' ⟨rfl, hw⟩
      rw [hw]
      clear hw
      go_wp2_with fail
      refine Calls.mono (namedLen_any (s + 5) (s + 4) 1 (oneG mark) w5 (cell2 HR5.out 3) HR5.out.d2) ?_
      rintro e w' ⟨rfl, hw⟩
      rw [hw]
      clear hw
      go_wp2_with fail
      refine Calls.mono (namedHas_any (s + 5) (s + 4) 1 (oneG mark) mark w5 (cell2 HR5.out 3) HR5.out.d2 (oneG_self mark)) ?_
      rintro e w' ⟨rfl, hw⟩
      rw [hw]
      clear hw
      go_wp2_with fail
      refine Calls.mono (usedLen_any (s + 5) (s + 3) 0 _ w5 (cell2 HR5.out 2) HR5.out.u2) ?_
      rintro e w' ⟨rfl, hw⟩
      rw [hw]
      clear hw
      go_wp2_with fail
      refine Calls.mono (valuesNil_any (s + 2) w5 (cell1 HR5.out 1)) ?_
      rintro e w' ⟨rfl, hw⟩
      rw [hw]
      clear hw
      go_wp2_with fail
      refine Calls.mono (valuesNil_any (s + 5) w5 (cell2 HR5.out 1)) ?_
      rintro e w' ⟨rfl, hw⟩
      rw [hw]
      clear hw
      go_wp2_with fail
      refine Calls.mono (min_any l0 l1 w5) ?_
      rintro e w' ⟨rfl, hw⟩
      rw [hw]
      clear hw
      go_wp2_with fail
      refine Calls.mono (lastOf_any pa ks l0 (min l0 l1) mark w5 h0 HL0.out (Nat.min_le_left _ _) (Lies.later HLP2.out HBC5.out)) ?_
      rintro e w' ⟨rfl, hw⟩
      rw [hw]
      clear hw
      cases hL : lastIdx ks mark (min l0 l1) with
      | none =>
        have hno := named_none (vs := vs) hL
        rw [lastNum_none]
        have NO1 := hide2 (nameAt_no (s + 2) nb m _ mark w5 (cell1 HR5.out 0) HR5.out.names hno)
        have NO2 := hide2 (nameAt_no (s + 5) nb m _ mark w5 (cell2 HR5.out 0) HR5.out.names hno)
        clear hno hL
        go_wp2_with fail
        refine Calls.mono NO1.out ?_
        rintro e w' ⟨rfl, hw⟩
        rw [hw]
        clear hw
        go_wp2_with fail
        refine Calls.mono NO2.out ?_
        rintro e w' ⟨rfl, hw⟩
        rw [hw]
        clear hw
        go_wp2
        go_ret
        exact ⟨rfl, HBA5.out⟩
      | some j =>
        have hyes := named_some (vs := vs) hL
        have hj := lastIdx_lt hL
        have hj1 : j < l1 := Nat.lt_of_lt_of_le hj (Nat.min_le_right _ _)
        rw [lastNum_some]
        obtain ⟨x, hx⟩ : ∃ s, vs.getD j ByteArray.empty = s := ⟨_, rfl⟩
        rw [hx] at hyes
        have YES1 := hide2 (nameAt_yes (s + 2) nb m _ mark x w5 (cell1 HR5.out 0) HR5.out.names hyes)
        have YES2 := hide2 (nameAt_yes (s + 5) nb m _ mark x w5 (cell2 HR5.out 0) HR5.out.names hyes)
        obtain ⟨vb, hva, hvc⟩ := lies_pos (Lies.later HLF.out HBC5.out) (by rw [strs_length, HL1.out]; omega)
        subst hva
        have cv : w5.cell? ⟨vb, j, none⟩ = some (.string x) := by rw [hvc j _ (strs_get (by rw [HL1.out]; exact hj1)), hx]
        have j0 : ¬ ((j : Int) < 0) := by omega
        have j1 : (j : Int) < (l1 : Int) := by omega
        clear hyes hL hj hx hvc
        go_wp2_with fail
        refine Calls.mono YES1.out ?_
        rintro e w' ⟨rfl, hw⟩
        rw [hw]
        clear hw
        go_wp2_with fail
        refine Calls.mono YES2.out ?_
        rintro e w' ⟨rfl, hw⟩
        rw [hw]
        clear hw
        go_wp2
        go_ret
        exact ⟨rfl, HBA5.out⟩
end Go.Proofs.Qxb6609385a
