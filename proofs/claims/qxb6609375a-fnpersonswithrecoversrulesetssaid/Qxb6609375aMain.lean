/-
  THE WALK of FnPersonsWithRecoversRuleSets, the long way.
-/
import Derived.Test.Qxb6609375aLaw
namespace Go.Proofs.Qxb6609375a
open Go.RowKit
set_option linter.unusedVariables false

def ints32 (l : List Int) : List Value := l.map (Value.int .i32)

theorem ints32_length (l : List Int) : (ints32 l).length = l.length := by simp [ints32]
theorem ints32_one (l : List Int) : ∀ v ∈ ints32 l, v.oneCell' = true := by
  intro u hu
  unfold ints32 at hu
  obtain ⟨x, _, rfl⟩ := List.mem_map.1 hu
  rfl
theorem u16s_one (l : List Nat) : ∀ v ∈ u16s l, v.oneCell' = true := by
  intro u hu
  unfold u16s at hu
  obtain ⟨x, _, rfl⟩ := List.mem_map.1 hu
  rfl
/-- a world and the same with a new row behind it. -/
theorem wpair (w : World) (n : Nat) (t : TypeId) (z : Value) : Below w.heap.size w (w.alloc (.cells (madeCells #[z] n) t)) := (Below.refl _ _).alloc (Nat.le_refl _) _
theorem src_later {w w' : World} {x : Addr} {cs : List Value} (hb : Below w.heap.size w w') (h : ∀ j v, cs[j]? = some v → w.cell? (x.add j) = some v) :
    ∀ j v, cs[j]? = some v → w'.cell? (x.add j) = some v := fun j v hv => by
  have h1 := h j v hv
  rw [hb.cell (World.block_lt_of_cell? w _ h1)]
  exact h1
theorem src_later2 {w w1 w' : World} {x : Addr} {cs : List Value} (hb1 : Below w.heap.size w w1) (hb : Below w1.heap.size w1 w') (h : ∀ j v, cs[j]? = some v → w.cell? (x.add j) = some v) :
    ∀ j v, cs[j]? = some v → w'.cell? (x.add j) = some v := src_later (hb1.trans (hb.mono hb1.size)) h
theorem lies_new (w : World) (cs : List Value) (t : TypeId) : Lies (w.alloc (.cells cs.toArray t)) (some ⟨w.heap.size, 0, none⟩) cs := by
  refine .inr ⟨w.heap.size, rfl, fun k v hv => ?_⟩
  rw [cell_of_row _ _ k cs.toArray t (0, 0) (heap_alloc_new _ _)]
  simpa using hv

theorem lies_pos {w : World} {a : Option Addr} {cs : List Value} (h : Lies w a cs) (hp : 0 < cs.length) : ∃ b, a = some ⟨b, 0, none⟩ ∧ ∀ k v, cs[k]? = some v → w.cell? ⟨b, k, none⟩ = some v := by
  rcases h with rfl | h
  · simp at hp
  · exact h
theorem ints32_get {l : List Int} {k : Nat} (hk : k < l.length) : (ints32 l)[k]? = some (.int .i32 (l.getD k 0)) := by
  simp [ints32, hk, List.getD]
theorem all_step {zs : List Int} {k : Nat} {m z : Int} (h : ∀ j, j < k → 0 ≤ zs.getD j 0 ∧ zs.getD j 0 < m) (hz : zs.getD k 0 = z) (h0 : 0 ≤ z) (h1 : z < m) : ∀ j, j < k + 1 → 0 ≤ zs.getD j 0 ∧ zs.getD j 0 < m := by
  intro j hj
  by_cases e : j = k
  · subst e; rw [hz]; exact ⟨h0, h1⟩
  · exact h j (by omega)
theorem i32s_of (zs : List Int) (h : ∀ j, j < zs.length → 0 ≤ zs.getD j 0) : i32s (zs.map Int.toNat) = ints32 zs := by
  unfold i32s ints32
  rw [List.map_map]
  apply List.map_congr_left
  intro z hz
  obtain ⟨j, hj, rfl⟩ := List.mem_iff_getElem.1 hz
  have := h j hj
  have e : zs.getD j 0 = zs[j] := by simp [List.getD, hj]
  rw [e] at this
  show Value.int .i32 ((zs[j].toNat : Nat) : Int) = Value.int .i32 zs[j]
  congr 1
  omega
theorem ids_of (zs : List Int) (m : Nat) (h : ∀ j, j < zs.length → 0 ≤ zs.getD j 0 ∧ zs.getD j 0 < (m : Int)) : ∀ k, k < (zs.map Int.toNat).length → (zs.map Int.toNat).getD k 0 < m := by
  intro k hk
  rw [List.length_map] at hk
  have := h k hk
  have e : zs.getD k 0 = zs[k] := by simp [List.getD, hk]
  have e2 : (zs.map Int.toNat).getD k 0 = zs[k].toNat := by simp [List.getD, hk]
  rw [e] at this
  rw [e2]
  omega

theorem mem_step {l : List Nat} {k id : Nat} (hk : k < l.length) (hid : l.getD k 0 = id) (j : Nat) : (if j = id then Value.bool true else .bool (decide (j ∈ l.take k))) = .bool (decide (j ∈ l.take (k + 1))) := by
  have et : l.take (k + 1) = l.take k ++ [id] := by
    rw [List.take_succ_eq_append_getElem hk, ← hid]
    simp [List.getD, hk]
  rw [et]
  by_cases e : j = id
  · subst e; simp
  · simp [e]
theorem id_lt {f ps : List Nat} {r k id m : Nat} (hk : k < (listOf f r ps).length) (hid : (listOf f r ps).getD k 0 = id) (h : ∀ k, k < ps.length → ps.getD k 0 < m) : id < m := by
  have hm : id ∈ listOf f r ps := by
    rw [← hid]
    simp only [List.getD, List.getElem?_eq_getElem hk, Option.getD_some]
    exact List.getElem_mem hk
  obtain ⟨j, hj, e⟩ := List.mem_iff_getElem.1 (listOf_mem hm)
  have := h j hj
  simp only [List.getD, List.getElem?_eq_getElem hj, Option.getD_some, e] at this
  exact this
theorem id_mem {f ps : List Nat} {r k id : Nat} (hk : k < (listOf f r ps).length) (hid : (listOf f r ps).getD k 0 = id) : id ∈ ps := by
  have hm : id ∈ listOf f r ps := by
    rw [← hid]
    simp only [List.getD, List.getElem?_eq_getElem hk, Option.getD_some]
    exact List.getElem_mem hk
  exact listOf_mem hm
theorem liesFrom_mono {B B' : Nat} {w : World} {a : Option Addr} {cs : List Value} (h : LiesFrom B w a cs) (hb : B' ≤ B) : LiesFrom B' w a cs := by
  rcases h with h | ⟨g, hg, ha, hc⟩
  · exact .inl h
  · exact .inr ⟨g, by omega, ha, hc⟩
theorem bit_or (x r : Nat) (hx : x < 65536) (hr : r ≤ 15) : bits .or .u16 (x : Int) (IntKind.u16.wrap (2 ^ r)) = ((x ||| 2 ^ r : Nat) : Int) := by
  rw [wrap_pow r hr, u16_or_nat x (2 ^ r) hx (pow_lt16 r hr)]
theorem reb_cell {f ps : List Nat} {r : Nat} {L : List Nat} {k id x : Nat} (hk : k < L.length) (hid : L.getD k 0 = id) (hp : id ∈ ps) (hx : reb f ps r (L.take k) id = x) (hxb : x < 65536) (hr : r ≤ 15) (j : Nat) :
    (if j = id then Value.int .u16 (bits .or .u16 (x : Int) (IntKind.u16.wrap (2 ^ r))) else .int .u16 ((reb f ps r (L.take k) j : Nat) : Int)) = .int .u16 ((reb f ps r (L.take (k + 1)) j : Nat) : Int) := by
  rw [← reb_step hk hid hp j, bit_or x r hxb hr, ← hx]
  split <;> rfl
theorem any_bool (f ps : List Nat) (id : Nat) (hp : id ∈ ps) : (Value.bool (decide (id ∈ listOf f 0 ps))) = .bool (((f.getD id 0 : Nat) : Int) != 0) := by
  congr 1
  rw [Bool.eq_iff_iff]
  simp only [decide_eq_true_eq, any_iff, hp, true_and, bne_iff_ne]
  omega
theorem liesFrom_set {B b i : Nat} {w : World} {a : Option Addr} {cs : List Value} {v : Value} (h : LiesFrom B w a cs) (hb : b < B) : LiesFrom B (w.setCell ⟨b, i, none⟩ v) a cs := by
  rcases h with h | ⟨g, hg, ha, hc⟩
  · exact .inl h
  · refine .inr ⟨g, hg, ha, fun k u hu => ?_⟩
    rw [World.cell?_setCell_other _ _ _ _ (by intro e; injection e with e1; omega)]
    exact hc k u hu
theorem liesFrom_pos {B : Nat} {w : World} {a : Option Addr} {cs : List Value} (h : LiesFrom B w a cs) (hp : 0 < cs.length) : ∃ b, B ≤ b ∧ a = some ⟨b, 0, none⟩ ∧ ∀ k v, cs[k]? = some v → w.cell? ⟨b, k, none⟩ = some v := by
  rcases h with rfl | h
  · simp at hp
  · exact h

set_option maxRecDepth 100000 in
set_option maxHeartbeats 4000000 in
theorem law_small (a0 : Option Addr) (l0 c0 : Nat) (a1 : Option Addr) (l1 c1 : Nat) (zs : List Int) (f : List Nat) (w : World) (h0 : l0 ≤ 65536) (h1 : l1 ≤ 65536) (hb : 4 * l0 + 2 * l1 ≤ 1048576)
    (hn0 : a0 = none → l0 = 0 ∧ c0 = 0) (hn1 : a1 = none → l1 = 0 ∧ c1 = 0) (hzl : zs.length = l0) (hfl : f.length = l1) (hf : ∀ j, f.getD j 0 < 65536) (hzw : ∀ j, -2147483648 ≤ zs.getD j 0 ∧ zs.getD j 0 ≤ 2147483647)
    (hz : ∀ x, a0 = some x → ∀ j v, (ints32 zs)[j]? = some v → w.cell? (x.add j) = some v)
    (hg : ∀ x, a1 = some x → ∀ j v, (u16s f)[j]? = some v → w.cell? (x.add j) = some v) :
    Calls Try.prog 3 #[.slice a0 l0 c0, .slice a1 l1 c1] w fun e w' => e = .returned (.bool true) ∧ Below w.heap.size w w' := by
  have HC := hide2 (bytes4_any a0 l0 c0 a1 l1 c1 w (by unfold maxLen; omega) (by unfold maxLen; omega))
  have hneq0 := fun w a n c => run_neq_slice_nil_any (P := Try.prog) w 22 21 a n c 0 0 Try.underlying22
  have hneq1 := fun w a n c => run_neq_slice_nil_any (P := Try.prog) w 23 27 a n c 0 0 Try.underlying23
  have hmk0 := run_make_row' (P := Try.prog) 22 21 (.int .i32 0) 4 Try.underlying22 (by kernel_rfl) rfl .i64 .i64 l0 (by omega) (by omega)
  have hmk1 := run_make_row' (P := Try.prog) 23 27 (.int .u16 0) 2 Try.underlying23 (by kernel_rfl) rfl .i64 .i64 l1 (by omega) (by omega)
  have HN0 := hide2 hn0
  have HN1 := hide2 hn1
  have HZ := hide2 hz
  have HG := hide2 hg
  have HZL := hide2 hzl
  have HFL := hide2 hfl
  have HF := hide2 hf
  have HZW := hide2 hzw
  clear hn0 hn1 hz hg hzl hfl hf hzw
  go_enter Try.func3, Try.ntmps3
  go_upto_if 41 with (first | (go_at_call 4; refine Calls.mono HC.out ?_; rintro e w' ⟨⟨b, rfl, hbb⟩, hw⟩; have ebt := hbb (by omega); rw [hw, ebt]; clear hw hbb ebt))
  go_cut [0, 5] (fun v0 v5 wc => ∃ pa, v0 = .slice pa l0 l0 ∧ Lies wc pa (ints32 zs) ∧ Below w.heap.size w wc)
  case first =>
    cases ha : a0 with
    | none =>
      go_wp2
      go_meet
      case rel =>
        obtain ⟨e1, e2⟩ := HN0.out ha
        have e3 : ints32 zs = [] := List.eq_nil_of_length_eq_zero (by rw [ints32_length, HZL.out, e1])
        exact ⟨none, by rw [e1, e2], .inl e3, Below.refl _ _⟩
    | some x =>
      have hsrc := src_later (wpair w l0 21 (.int .i32 0)) (HZ.out x ha)
      go_wp2_with (refine wpList_copy_fresh rfl (.tmp 45) (.tmp 46) 22 22 rfl 21 Try.underlying22 (by kernel_rfl) l0 c0 (some x) (.int .i32 0) 21 (ints32 zs) rfl rfl (by rw [ints32_length, HZL.out]) (fun _ => ⟨x, rfl, hsrc⟩) (ints32_one zs) ?_)
      go_meet
      case rel =>
        exact ⟨_, rfl, lies_new _ _ _, (Below.refl _ _).alloc (Nat.le_refl _) _⟩
  case rest =>
    clear hneq0 hmk0
    obtain ⟨pa, rfl, hlp, hbw⟩ := hcut
    have HLP := hide2 hlp
    have HBW := hide2 hbw
    clear hlp hbw
    go_upto_if 50 with fail
    go_cut [1, 6] (fun v1 v6 w2 => ∃ fa, v1 = .slice fa l1 l1 ∧ Lies w2 pa (ints32 zs) ∧ Lies w2 fa (u16s f) ∧ Below w.heap.size w w2)
    case first =>
      cases ha : a1 with
      | none =>
        go_wp2
        go_meet
        case rel =>
          obtain ⟨e1, e2⟩ := HN1.out ha
          have e3 : u16s f = [] := List.eq_nil_of_length_eq_zero (by rw [u16s_length, HFL.out, e1])
          exact ⟨none, by rw [e1, e2], HLP.out, .inl e3, HBW.out⟩
      | some x =>
        have hsrc := src_later2 HBW.out (wpair wc l1 27 (.int .u16 0)) (HG.out x ha)
        go_wp2_with (refine wpList_copy_fresh rfl (.tmp 54) (.tmp 55) 23 23 rfl 27 Try.underlying23 (by kernel_rfl) l1 c1 (some x) (.int .u16 0) 27 (u16s f) rfl rfl (by rw [u16s_length, HFL.out]) (fun _ => ⟨x, rfl, hsrc⟩) (u16s_one f) ?_)
        go_meet
        case rel =>
          have hb1 : Below wc.heap.size wc (wc.alloc (.cells (u16s f).toArray 27)) := (Below.refl _ _).alloc (Nat.le_refl _) _
          exact ⟨_, rfl, Lies.later HLP.out hb1, lies_new _ _ _, HBW.out.trans (hb1.mono HBW.out.size)⟩
    case rest =>
      clear hneq1 hmk1
      obtain ⟨fa, rfl, hlp, hlf, hbw⟩ := hcut
      have HLP2 := hide2 hlp
      have HLF := hide2 hlf
      have HBW2 := hide2 hbw
      clear hlp hlf hbw HLP HBW HC HZ HG HN0 HN1
      go_wp2
      go_loop [7] (fun i => ∃ k : Nat, k ≤ l0 ∧ i = .int .i64 k ∧ ∀ j, j < k → 0 ≤ zs.getD j 0 ∧ zs.getD j 0 < (l1 : Int)) (fun i => l0 - (intOf i).toNat)
      case atStart => exact ⟨0, Nat.zero_le _, rfl, fun j hj => absurd hj (Nat.not_lt_zero _)⟩
      case round =>
        obtain ⟨k, hk, rfl, hall⟩ := hrel
        have HA := hide2 hall
        clear hall
        by_cases hlt : k < l0
        · obtain ⟨pb, hpa, hpc⟩ := lies_pos HLP2.out (by rw [ints32_length, HZL.out]; omega)
          subst hpa
          obtain ⟨z, hz⟩ : ∃ z, zs.getD k 0 = z := ⟨_, rfl⟩
          have cz : wc.cell? ⟨pb, k, none⟩ = some (.int .i32 z) := by
            rw [hpc k _ (ints32_get (by rw [HZL.out]; exact hlt)), hz]
          have HZK := hide2 hz
          obtain ⟨zl, zu⟩ := HZW.out k
          rw [hz] at zl zu
          clear hz hpc
          by_cases q1 : z < 0
          · go_wp2
            go_ret
            exact ⟨rfl, HBW2.out⟩
          · by_cases q2 : z < (l1 : Int)
            · go_wp2
              go_round
              case rel => exact ⟨k + 1, by omega, by go_num, all_step HA.out HZK.out (by omega) q2⟩
              case measure => simp [intOf]; omega
            · have q3 : (l1 : Int) ≤ z := by omega
              clear q2
              go_wp2
              go_ret
              exact ⟨rfl, HBW2.out⟩
        · have ek : k = l0 := by omega
          obtain ⟨ps, hps⟩ : ∃ ps : List Nat, ps = zs.map Int.toNat := ⟨_, rfl⟩
          have hpl : ps.length = l0 := by rw [hps, List.length_map, HZL.out]
          have hpi : i32s ps = ints32 zs := by rw [hps]; exact i32s_of zs (fun j hj => (HA.out j (by rw [HZL.out] at hj; omega)).1)
          have hid : ∀ k, k < ps.length → ps.getD k 0 < l1 := by
            rw [hps]; exact ids_of zs l1 (fun j hj => HA.out j (by rw [HZL.out] at hj; omega))
          have HLP3 : Hid (Lies wc pa (i32s ps)) := by rw [hpi]; exact HLP2.out
          have HID := hide2 hid
          have HPL := hide2 hpl
          clear hps hpl hpi hid HA HLP2 HZL ek
          have hmkb := run_make_row' (P := Try.prog) 25 4 (.bool false) 1 Try.underlying25 (by kernel_rfl) rfl .i64 .i64 l1 (by omega) (by omega)
          have HZZ : Hid (∀ (w' : World) (r : Nat), r ≤ 15 → Below wc.heap.size wc w' → Calls Try.prog 5 #[.slice pa l0 l0, .slice fa l1 l1, .int .u8 (r : Int)] w' fun e w'' => ∃ la lc, e = .returned (.slice la (listOf f r ps).length lc) ∧
              LiesFrom w'.heap.size w'' la (i32s (listOf f r ps)) ∧ Below w'.heap.size w' w'') := by
            intro w' r hr hb'
            have hpl := HPL.out
            subst hpl
            exact zzWith_lies pa fa l1 r ps f w' h0 h1 HFL.out hr HID.out HF.out (Lies.later HLP3.out hb') (Lies.later HLF.out hb')
          go_wp2
          go_loopw [9] (fun i wr => ∃ k : Nat, k ≤ l0 ∧ i = .int .i64 k ∧ wr.rowIs wc.heap.size 4 l1 (fun id => .bool (decide (id ∈ ps.take k))) ∧ Below wc.heap.size wc wr) (fun i _ => l0 - (intOf i).toNat)
          case atStart => exact ⟨0, Nat.zero_le _, rfl, (World.rowIs_made wc (.bool false) l1 4).congr (fun i _ => by simp), (Below.refl _ _).alloc (Nat.le_refl _) _⟩
          case round =>
            obtain ⟨k2, hk2, rfl, hrow, hbel⟩ := hrel
            by_cases hlt2 : k2 < l0
            · obtain ⟨pb, hpa, hpc⟩ := lies_pos (Lies.later HLP3.out hbel) (by rw [i32s_length, HPL.out]; omega)
              subst hpa
              have hkp : k2 < ps.length := by rw [HPL.out]; exact hlt2
              obtain ⟨id, hid⟩ : ∃ id, ps.getD k2 0 = id := ⟨_, rfl⟩
              have hidl : id < l1 := hid ▸ HID.out k2 hkp
              have cz : wr.cell? ⟨pb, k2, none⟩ = some (.int .i32 (id : Int)) := by rw [hpc k2 _ (i32s_get hkp), hid]
              have cb := hrow.cell hidl
              have cfz := hrow.frozen id
              have HR := hide2 hrow
              have HB := hide2 hbel
              have HI := hide2 hid
              clear hrow hbel hid hpc
              go_wp2
              go_roundw
              case rel => exact ⟨k2 + 1, by omega, by go_num, (World.rowIs.set HR.out id _).congr (fun j _ => mem_step hkp HI.out j), HB.out.setCell (by simp) _⟩
              case measure => simp [intOf]; omega
            · have ek2 : ps.take k2 = ps := List.take_of_length_le (by rw [HPL.out]; omega)
              rw [ek2] at hrow
              have HR1 := hide2 hrow
              have HB1 := hide2 hbel
              have hb1s : wc.heap.size < wr.heap.size := hrow.lt
              clear hrow hbel ek2
              obtain ⟨w2, hw2⟩ : ∃ x, x = wr := ⟨_, rfl⟩
              subst hw2
              have hbA : Below wc.heap.size wc (w2.alloc (.cells (madeCells #[.bool false] l1) 4)) := HB1.out.alloc HB1.out.size _
              have hz0 : Calls Try.prog 5 #[.slice pa l0 l0, .slice fa l1 l1, .int .u8 0] (w2.alloc (.cells (madeCells #[.bool false] l1) 4)) fun e w'' => ∃ la lc, e = .returned (.slice la (listOf f 0 ps).length lc) ∧
                  LiesFrom (w2.heap.size + 1) w'' la (i32s (listOf f 0 ps)) ∧ Below (w2.heap.size + 1) (w2.alloc (.cells (madeCells #[.bool false] l1) 4)) w'' := by
                have h := HZZ.out _ 0 (by omega) hbA
                simp only [World.size_alloc] at h
                exact h
              have HZ0 := hide2 hz0
              clear hz0 hbA
              go_wp2_with fail
              refine Calls.mono HZ0.out ?_
              rintro e w3 ⟨la, lc, rfl, hlf3, hb3⟩
              clear HZ0
              have hrow3 : w3.rowIs w2.heap.size 4 l1 (fun id => .bool (decide (id ∈ (listOf f 0 ps).take 0))) :=
                ((World.rowIs_made w2 (.bool false) l1 4).congr (fun i _ => by simp)).of_block (hb3.block _ (by omega))
              have hbB : Below w2.heap.size w2 w3 := ((Below.refl _ _).alloc (Nat.le_refl _) _).trans (hb3.mono (by omega))
              have HLF3 := hide2 hlf3
              have HB3 := hide2 hbB
              have HR3 := hide2 hrow3
              obtain ⟨n3, hn3⟩ : ∃ n, (listOf f 0 ps).length = n := ⟨_, rfl⟩
              have hn3b : n3 ≤ 65536 := by
                have h1 := listOf_le f 0 ps
                have h2 := HPL.out
                omega
              rw [hn3]
              have HN3 := hide2 hn3
              clear hlf3 hb3 hrow3 hbB hn3
              go_wp2
              go_loopw [12] (fun i wr => ∃ k : Nat, k ≤ n3 ∧ i = .int .i64 k ∧ wr.rowIs w2.heap.size 4 l1 (fun id => .bool (decide (id ∈ (listOf f 0 ps).take k))) ∧
                  LiesFrom (w2.heap.size + 1) wr la (i32s (listOf f 0 ps)) ∧ Below w2.heap.size w2 wr) (fun i _ => n3 - (intOf i).toNat)
              case atStart => exact ⟨0, Nat.zero_le _, rfl, HR3.out, HLF3.out, HB3.out⟩
              case round =>
                obtain ⟨k3, hk3, rfl, hrow, hlf, hbel⟩ := hrel
                by_cases hlt3 : k3 < n3
                · have hkp : k3 < (listOf f 0 ps).length := by rw [HN3.out]; exact hlt3
                  obtain ⟨lb, hlb, hla, hlc⟩ := liesFrom_pos hlf (by rw [i32s_length]; omega)
                  subst hla
                  obtain ⟨id, hid⟩ : ∃ id, (listOf f 0 ps).getD k3 0 = id := ⟨_, rfl⟩
                  have hidl : id < l1 := id_lt hkp hid HID.out
                  have cz : wr.cell? ⟨lb, k3, none⟩ = some (.int .i32 (id : Int)) := by rw [hlc k3 _ (i32s_get hkp), hid]
                  have cb := hrow.cell hidl
                  have cfz := hrow.frozen id
                  have HR := hide2 hrow
                  have HB := hide2 hbel
                  have HI := hide2 hid
                  have HL := hide2 hlf
                  have id0 : (0 : Int) ≤ (id : Int) := by omega
                  have id1 : (id : Int) < (l1 : Int) := by omega
                  have id2 : ¬ ((l1 : Int) ≤ (id : Int)) := by omega
                  clear hrow hbel hid hlc hlf
                  go_wp2
                  go_roundw
                  case rel => exact ⟨k3 + 1, by omega, by go_num, (World.rowIs.set HR.out id _).congr (fun j _ => mem_step hkp HI.out j), liesFrom_set HL.out (by omega), HB.out.setCell (by simp) _⟩
                  case measure => simp [intOf]; omega
                · have ek3 : (listOf f 0 ps).take k3 = listOf f 0 ps := List.take_of_length_le (by rw [HN3.out]; omega)
                  rw [ek3] at hrow
                  obtain ⟨w4, hw4⟩ : ∃ x, x = wr := ⟨_, rfl⟩
                  subst hw4
                  have HR2 := hide2 hrow
                  have hb2s : w2.heap.size < w4.heap.size := hrow.lt
                  have HB2 := hide2 hbel
                  have HBC : Hid (Below wc.heap.size wc w4) := HB1.out.trans (hbel.mono HB1.out.size)
                  clear hrow hbel hlf ek3 HLF3 HB3 HR3 HN3
                  have hmku := run_make_row' (P := Try.prog) 23 27 (.int .u16 0) 2 Try.underlying23 (by kernel_rfl) rfl .i64 .i64 l1 (by omega) (by omega)
                  go_wp2
                  go_loopw [15] (fun i wr => ∃ r : Nat, 1 ≤ r ∧ r ≤ 16 ∧ i = .int .i64 r ∧ wr.rowIs w4.heap.size 27 l1 (fun id => .int .u16 (reb f ps r [] id : Nat)) ∧ Below w4.heap.size w4 wr) (fun i _ => 16 - (intOf i).toNat)
                  case atStart => exact ⟨1, by omega, by omega, rfl, (World.rowIs_made w4 (.int .u16 0) l1 27).congr (fun i _ => by rw [reb_first]; rfl), (Below.refl _ _).alloc (Nat.le_refl _) _⟩
                  case round =>
                    obtain ⟨r, hr1, hr16, rfl, hrow, hbel⟩ := hrel
                    by_cases hltr : r < 16
                    · obtain ⟨w5, hw5⟩ : ∃ x, x = wr := ⟨_, rfl⟩
                      subst hw5
                      have HZr : Hid _ := HZZ.out w5 r (by omega) (HBC.out.trans (hbel.mono HBC.out.size))
                      have hb3s : w4.heap.size < w5.heap.size := hrow.lt
                      have HR := hide2 hrow
                      have HB := hide2 hbel
                      clear hrow hbel
                      go_wp2_with fail
                      refine Calls.mono HZr.out ?_
                      rintro e w6 ⟨la, lc, rfl, hlf6, hb6⟩
                      clear HZr
                      obtain ⟨L, hL⟩ : ∃ L, listOf f r ps = L := ⟨_, rfl⟩
                      rw [hL] at hlf6 ⊢
                      have hLm : ∀ k id, k < L.length → L.getD k 0 = id → id < l1 ∧ id ∈ ps := by
                        intro k id hk hid
                        rw [← hL] at hk hid
                        exact ⟨id_lt hk hid HID.out, id_mem hk hid⟩
                      have HRX : Hid (w6.rowIs w4.heap.size 27 l1 (fun id => .int .u16 (reb f ps r (L.take 0) id : Nat))) :=
                        (World.rowIs.of_block HR.out (hb6.block _ (by omega))).congr (fun i _ => by rw [List.take_zero])
                      have HLX : Hid (LiesFrom (w4.heap.size + 1) w6 la (i32s L)) := liesFrom_mono hlf6 (by omega)
                      have HBX : Hid (Below w4.heap.size w4 w6) := HB.out.trans (hb6.mono (by omega))
                      obtain ⟨n6, hn6⟩ : ∃ n, L.length = n := ⟨_, rfl⟩
                      have hn6b : n6 ≤ 65536 := by
                        have h1 := listOf_le f r ps
                        have h2 := HPL.out
                        rw [hL] at h1
                        omega
                      rw [hn6]
                      have HN6 := hide2 hn6
                      have HLM := hide2 hLm
                      have HL := hide2 hL
                      clear hlf6 hb6 hn6 hLm hL HR HB
                      go_wp2
                      go_loopw [17] (fun i wr => ∃ k : Nat, k ≤ n6 ∧ i = .int .i64 k ∧ wr.rowIs w4.heap.size 27 l1 (fun id => .int .u16 (reb f ps r (L.take k) id : Nat)) ∧
                          LiesFrom (w4.heap.size + 1) wr la (i32s L) ∧ Below w4.heap.size w4 wr) (fun i _ => n6 - (intOf i).toNat)
                      case atStart => exact ⟨0, Nat.zero_le _, rfl, HRX.out, HLX.out, HBX.out⟩
                      case round =>
                        obtain ⟨k6, hk6, rfl, hrow, hlf, hbel⟩ := hrel
                        by_cases hlt6 : k6 < n6
                        · have hkp : k6 < L.length := by rw [HN6.out]; exact hlt6
                          obtain ⟨lb, hlb, hla, hlc⟩ := liesFrom_pos hlf (by rw [i32s_length]; omega)
                          subst hla
                          obtain ⟨id, hid⟩ : ∃ id, L.getD k6 0 = id := ⟨_, rfl⟩
                          obtain ⟨hidl, hidp⟩ := HLM.out k6 id hkp hid
                          have cz : wr.cell? ⟨lb, k6, none⟩ = some (.int .i32 (id : Int)) := by rw [hlc k6 _ (i32s_get hkp), hid]
                          obtain ⟨x, hx⟩ : ∃ x, reb f ps r (L.take k6) id = x := ⟨_, rfl⟩
                          have hxb : x < 65536 := hx ▸ reb_lt f ps r (L.take k6) id (by omega)
                          have cb : wr.cell? ⟨w4.heap.size, id, none⟩ = some (.int .u16 (x : Int)) := by rw [hrow.cell hidl, hx]
                          have cfz := hrow.frozen id
                          have HR := hide2 hrow
                          have HB := hide2 hbel
                          have HI := hide2 hid
                          have HX := hide2 hx
                          have HLL := hide2 hlf
                          have HIP := hide2 hidp
                          have id0 : (0 : Int) ≤ (id : Int) := by omega
                          have id1 : (id : Int) < (l1 : Int) := by omega
                          have id2 : ¬ ((l1 : Int) ≤ (id : Int)) := by omega
                          clear hrow hbel hid hlc hlf hx hidp
                          go_wp2
                          go_roundw
                          case rel => exact ⟨k6 + 1, by omega, by go_num, (World.rowIs.set HR.out id _).congr (fun j _ => reb_cell hkp HI.out HIP.out HX.out hxb (by omega) j), liesFrom_set HLL.out (by omega), HB.out.setCell (by simp) _⟩
                          case measure => simp [intOf]; omega
                        · have ek6 : L.take k6 = listOf f r ps := by rw [HL.out]; exact List.take_of_length_le (by rw [HN6.out]; omega)
                          rw [ek6] at hrow
                          have HR := hide2 hrow
                          have HB := hide2 hbel
                          clear hrow hbel hlf ek6
                          go_wp2
                          go_roundw
                          case rel => exact ⟨r + 1, by omega, by omega, by go_num, World.rowIs.congr HR.out (fun j _ => by rw [reb_next hr1]), HB.out⟩
                          case measure => simp [intOf]; omega
                    · have er : r = 16 := by omega
                      subst er
                      obtain ⟨w7, hw7⟩ : ∃ x, x = wr := ⟨_, rfl⟩
                      subst hw7
                      have hbC : Below wc.heap.size wc w7 := HBC.out.trans (hbel.mono HBC.out.size)
                      have r1 : w7.rowIs wc.heap.size 4 l1 (fun id => .bool (decide (id ∈ ps))) := (World.rowIs.of_block HR1.out (HB2.out.block _ hb1s)).of_block (hbel.block _ (by omega))
                      have r2 : w7.rowIs w2.heap.size 4 l1 (fun id => .bool (decide (id ∈ listOf f 0 ps))) := World.rowIs.of_block HR2.out (hbel.block _ hb2s)
                      have HR1' := hide2 r1
                      have HR2' := hide2 r2
                      have HR3' := hide2 hrow
                      have HLF' : Hid (Lies w7 fa (u16s f)) := Lies.later HLF.out hbC
                      have HBW' : Hid (Below w.heap.size w w7) := HBW2.out.trans (hbC.mono HBW2.out.size)
                      clear hbC r1 r2 hrow hbel HR1 HR2 HB1 HB2 HBC HZZ HLP3 hmku hmkb
                      go_wp2
                      go_loopw [19] (fun i wr => ∃ id nq : Nat, id ≤ l1 ∧ i = .int .i64 id ∧ wr = w7.drewN nq) (fun i _ => l1 - (intOf i).toNat)
                      case atStart => exact ⟨0, 0, Nat.zero_le _, rfl, rfl⟩
                      case round =>
                        obtain ⟨id, nq0, hid, rfl, rfl⟩ := hrel
                        by_cases hltd : id < l1
                        · obtain ⟨fb, hfa, hfc⟩ := lies_pos HLF'.out (by rw [u16s_length, HFL.out]; omega)
                          subst hfa
                          obtain ⟨x, hx⟩ : ∃ x, f.getD id 0 = x := ⟨_, rfl⟩
                          have hxb : x < 65536 := hx ▸ HF.out id
                          have c1 : w7.cell? ⟨fb, id, none⟩ = some (.int .u16 (x : Int)) := by
                            rw [← hx]; exact hfc id _ (u16s_get (by rw [HFL.out]; exact hltd))
                          have d1 : (id : Int) < (l1 : Int) := by omega
                          have d0 : (0 : Int) ≤ (id : Int) := by omega
                          by_cases hp : id ∈ ps
                          · have c2 : w7.cell? ⟨wc.heap.size, id, none⟩ = some (.bool true) := by
                              have := World.rowIs.cell HR1'.out hltd
                              rw [decide_eq_true hp] at this
                              exact this
                            have c3 : w7.cell? ⟨w4.heap.size, id, none⟩ = some (.int .u16 ((x &&& 65534 : Nat) : Int)) := by
                              have := World.rowIs.cell HR3'.out hltd
                              rw [reb_last f ps id hp, hx] at this
                              exact this
                            have c4 : w7.cell? ⟨w2.heap.size, id, none⟩ = some (.bool ((x : Int) != 0)) := by
                              have := World.rowIs.cell HR2'.out hltd
                              rw [any_bool f ps id hp, hx] at this
                              exact this
                            have hAN : bits .andNot .u16 (x : Int) 1 = ((x &&& 65534 : Nat) : Int) := u16_andNot_nat x 1 hxb (by omega)
                            obtain ⟨y, hy⟩ : ∃ y, (x &&& 65534 : Nat) = y := ⟨_, rfl⟩
                            rw [hy] at hAN c3
                            clear hx hfc hy
                            go_wp2
                            go_quiet (fail)
                            go_wp2
                            go_roundw
                            case rel => exact ⟨id + 1, _, by omega, by go_num, rfl⟩
                            case measure => simp [intOf]; omega
                          · have c2 : w7.cell? ⟨wc.heap.size, id, none⟩ = some (.bool false) := by
                              have := World.rowIs.cell HR1'.out hltd
                              rw [decide_eq_false hp] at this
                              exact this
                            have c3 : w7.cell? ⟨w4.heap.size, id, none⟩ = some (.int .u16 0) := by
                              have := World.rowIs.cell HR3'.out hltd
                              rw [reb_out f ps 16 [] id hp] at this
                              exact this
                            have c4 : w7.cell? ⟨w2.heap.size, id, none⟩ = some (.bool false) := by
                              have := World.rowIs.cell HR2'.out hltd
                              rw [decide_eq_false (fun h => hp (listOf_mem h))] at this
                              exact this
                            clear hx hfc
                            go_wp2
                            go_roundw
                            case rel => exact ⟨id + 1, _, by omega, by go_num, rfl⟩
                            case measure => simp [intOf]; omega
                        · go_wp2
                          go_ret
                          exact ⟨rfl, below_drewN HBW'.out _⟩
end Go.Proofs.Qxb6609375a
