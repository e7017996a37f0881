/-
  WALKS: zzTimesFit, zzBytes of both expire laws, zzKeptAre, ZZgoneLen, ZZretention; and the plain law.
-/
import Derived.Test.Qxb6609385aNewQ2
namespace Go.Proofs.Qxb6609385a
open Go.RowKit
set_option linter.unusedVariables false
set_option maxRecDepth 100000

/-- the numbers below k of the messages that stay. -/
def keptIdx (A R : Int) (zs : List Int) (k : Nat) : List Nat := (List.range k).filter fun i => decide (A - zs.getD i 0 < R)
def nums (l : List Nat) : List Value := l.map fun (i : Nat) => Value.int .i64 (i : Int)
theorem nums_length (l : List Nat) : (nums l).length = l.length := by simp [nums]
theorem nums_get {l : List Nat} {j i : Nat} (h : l[j]? = some i) : (nums l)[j]? = some (.int .i64 (i : Int)) := by simp [nums, h]
theorem keptIdx_hit {A R : Int} {zs : List Int} {k : Nat} (h : A - zs.getD k 0 < R) : keptIdx A R zs (k + 1) = keptIdx A R zs k ++ [k] := by
  unfold keptIdx
  rw [List.range_succ, List.filter_append]
  simp only [List.filter_cons, List.filter_nil, h, decide_true, if_true]
theorem keptIdx_miss {A R : Int} {zs : List Int} {k : Nat} (h : ¬ A - zs.getD k 0 < R) : keptIdx A R zs (k + 1) = keptIdx A R zs k := by
  unfold keptIdx
  rw [List.range_succ, List.filter_append]
  simp only [List.filter_cons, List.filter_nil, h, decide_false]
  simp
theorem keptIdx_get {A R : Int} {zs : List Int} {k : Nat} (h : A - zs.getD k 0 < R) : ∀ n, k < n → (keptIdx A R zs n)[(keptIdx A R zs k).length]? = some k
  | 0, hk => by omega
  | n + 1, hk => by
    by_cases e : k = n
    · subst e
      rw [keptIdx_hit h]
      simp
    · have ih := keptIdx_get h n (by omega)
      by_cases g : A - zs.getD n 0 < R
      · rw [keptIdx_hit g, List.getElem?_append_left (List.getElem?_eq_some_iff.1 ih).1]
        exact ih
      · rw [keptIdx_miss g]
        exact ih
theorem keptIdx_le (A R : Int) (zs : List Int) (k : Nat) : (keptIdx A R zs k).length ≤ k := by
  unfold keptIdx
  exact Nat.le_trans (List.length_filter_le _ _) (by simp)
theorem keptIdx_mono {A R : Int} {zs : List Int} {k : Nat} : ∀ n, k ≤ n → (keptIdx A R zs k).length ≤ (keptIdx A R zs n).length
  | 0, hk => by
    obtain rfl : k = 0 := by omega
    exact Nat.le_refl _
  | n + 1, hk => by
    by_cases e : k = n + 1
    · subst e
      exact Nat.le_refl _
    · have ih := keptIdx_mono (A := A) (R := R) (zs := zs) n (show k ≤ n by omega)
      by_cases g : A - zs.getD n 0 < R
      · rw [keptIdx_hit g, List.length_append]; omega
      · rw [keptIdx_miss g]; exact ih

/-- the messages' numbers and times, as the queue was filled. -/
def Numbered (zs : List Int) (n : Nat) (ms : List Msg) : Prop := ms.length = n ∧ ∀ j, j < n → (ms.getD j Msg.zero).seq = j ∧ (ms.getD j Msg.zero).sent = zs.getD j 0
theorem seqs_kept_take {A R : Int} {zs : List Int} {n : Nat} {ms : List Msg} (h : Numbered zs n ms) : ∀ k, k ≤ n → seqs (kept A R (ms.take k)) = nums (keptIdx A R zs k)
  | 0, _ => by simp [kept, seqs, keptIdx, nums]
  | k + 1, hk => by
    have hl := h.1
    obtain ⟨e1, e2⟩ := h.2 k (by omega)
    rw [kept_succ A R ms k (by omega)]
    have ih := seqs_kept_take (A := A) (R := R) h k (by omega)
    unfold seqs at ih ⊢
    rw [List.map_append, ih]
    by_cases g : A - zs.getD k 0 < R
    · have gd : del A R (ms.getD k Msg.zero) = false := by unfold del; rw [e2]; exact decide_eq_false (by omega)
      rw [keptIdx_hit g, gd]
      unfold nums
      rw [List.map_append]
      simp only [Bool.false_eq_true, if_false, List.map_cons, List.map_nil, e1]
    · have gd : del A R (ms.getD k Msg.zero) = true := by unfold del; rw [e2]; exact decide_eq_true (by omega)
      rw [keptIdx_miss g, gd]
      simp
theorem seqs_kept {A R : Int} {zs : List Int} {n : Nat} {ms : List Msg} (h : Numbered zs n ms) : seqs (kept A R ms) = nums (keptIdx A R zs n) := by
  have := seqs_kept_take (A := A) (R := R) h n (Nat.le_refl _)
  rwa [List.take_of_length_le (by rw [h.1]; exact Nat.le_refl _)] at this
theorem kept_len {A R : Int} {zs : List Int} {n : Nat} {ms : List Msg} (h : Numbered zs n ms) : (kept A R ms).length = (keptIdx A R zs n).length := by
  rw [← nums_length, ← seqs_kept h, seqs_length]
/-- expire at a, then at b: as once at the later. -/
theorem kept_twice (a b L R : Int) (ms : List Msg) (h : L = max a b) : kept b R (kept a R ms) = kept L R ms := by
  unfold kept
  rw [List.filter_filter]
  congr 1
  funext m
  unfold del
  by_cases g1 : R ≤ a - m.sent <;> by_cases g2 : R ≤ b - m.sent <;> by_cases g3 : R ≤ L - m.sent <;> simp [g1, g2, g3] <;> omega

/-- it hands back a bool; true alone where all times fit. -/
def FitBool (zs : List Int) (e : Ending) : Prop := ∃ b, e = .returned (.bool b) ∧ (b = true → allFit zs)

/-- a slice that came in: its cells, wherever it lies. -/
def InA (w : World) (a : Option Addr) (cs : List Value) : Prop := cs = [] ∨ ∃ x, a = some x ∧ ∀ k v, cs[k]? = some v → w.cell? (x.add k) = some v
theorem inA_pos {w : World} {a : Option Addr} {cs : List Value} (h : InA w a cs) (hp : 0 < cs.length) : ∃ x, a = some x ∧ ∀ k v, cs[k]? = some v → w.cell? (x.add k) = some v := by
  rcases h with rfl | h
  · simp at hp
  · exact h
theorem src_ofA {w w' : World} {a : Option Addr} {cs : List Value} (h : InA w a cs) (hb : Below w.heap.size w w') : 0 < cs.length → ∃ ad, a = some ad ∧ ∀ j v, cs[j]? = some v → w'.cell? (ad.add j) = some v := by
  intro hp
  obtain ⟨x, ha, hc⟩ := inA_pos h hp
  refine ⟨_, ha, fun j v hv => ?_⟩
  have h1 := hc j v hv
  rw [hb.cell (World.block_lt_of_cell? w _ h1)]
  exact h1

set_option maxHeartbeats 1000000 in
theorem timesFit_any (a0 : Option Addr) (n c : Nat) (zs : List Int) (w : World) (hn : n ≤ 65536) (hl : zs.length = n) (hi : InA w a0 (ints zs)) :
    Calls Try.prog 20 #[.slice a0 n c] w fun e w' => FitBool zs e ∧ w' = w := by
  have HL := hide2 hl
  have HI := hide2 hi
  clear hl hi
  go_enter Try.func20, Try.ntmps20
  go_wp2
  go_loop [3] (fun i => ∃ k : Nat, k ≤ n ∧ i = .int .i64 (k : Int) ∧ ∀ j, j < k → inTime (zs.getD j 0)) (fun i => n - (intOf i).toNat)
  case atStart => exact ⟨0, Nat.zero_le _, rfl, fun j hj => absurd hj (by omega)⟩
  case round =>
    obtain ⟨k, hk, rfl, hall⟩ := hrel
    have HA := hide2 hall
    clear hall
    by_cases hlt : k < n
    · obtain ⟨x, ha, hc⟩ := inA_pos HI.out (by rw [ints_length, HL.out]; omega)
      subst ha
      obtain ⟨z, hz⟩ : ∃ s, zs.getD k 0 = s := ⟨_, rfl⟩
      have c1 : w.cell? (x.add k) = some (.int .i64 z) := by rw [hc k _ (ints_get (by rw [HL.out]; omega)), hz]
      have HZ := hide2 hz
      have hkn : (k : Int) < (n : Int) := by omega
      clear hz hc
      by_cases g1 : 4000000000000000000 < z
      · go_wp2
        go_ret
        exact ⟨⟨false, rfl, by simp⟩, rfl⟩
      · by_cases g2 : z < -4000000000000000000
        · go_wp2
          go_ret
          exact ⟨⟨false, rfl, by simp⟩, rfl⟩
        · go_wp2
          go_round
          case rel =>
            refine ⟨k + 1, by omega, by go_num, fun j hj => ?_⟩
            by_cases e : j = k
            · subst e
              rw [HZ.out]
              exact ⟨by omega, by omega⟩
            · exact HA.out j (by omega)
          case measure => simp [intOf]; omega
    · go_wp2
      go_ret
      refine ⟨⟨true, rfl, fun _ j hj => HA.out j ?_⟩, rfl⟩
      rw [HL.out] at hj
      omega

theorem bytes19_any (a0 : Option Addr) (n c : Nat) (R A : Int) (w : World) (hn : n ≤ maxLen) : Calls Try.prog 19 #[.slice a0 n c, .int .i64 R, .int .i64 A] w fun e w' => SomeBool e ∧ w' = w := by
  unfold maxLen at hn
  go_enter Try.func19, Try.ntmps19
  go_wp2
  all_goals (go_ret; exact ⟨someBool _, rfl⟩)
theorem bytes27_any (a0 : Option Addr) (n c : Nat) (R A B : Int) (w : World) (hn : n ≤ maxLen) : Calls Try.prog 27 #[.slice a0 n c, .int .i64 R, .int .i64 A, .int .i64 B] w fun e w' => SomeBool e ∧ w' = w := by
  unfold maxLen at hn
  go_enter Try.func27, Try.ntmps27
  go_wp2
  all_goals (go_ret; exact ⟨someBool _, rfl⟩)

theorem goneLen_any (B : Nat) (w : World) (qb : Nat) (R : Int) (ms : List Msg) (h : Queue B w qb R ms) :
    Calls Try.prog 25 #[.pointer (some ⟨qb, 0, none⟩)] w fun e w' => e = .returned (.int .i64 0) ∧ w' = w := by
  obtain ⟨a, c, h1, _⟩ := h
  have c1 : w.cell? ⟨qb, 1, none⟩ = some (.slice none 0 0) := by rw [cell_of_row w qb 1 _ 59 (0, 0) h1]; rfl
  clear h1
  go_enter Try.func25, Try.ntmps25
  go_wp2
  go_ret
  exact ⟨rfl, rfl⟩
theorem retention_any (B : Nat) (w : World) (qb : Nat) (R : Int) (ms : List Msg) (h : Queue B w qb R ms) :
    Calls Try.prog 26 #[.pointer (some ⟨qb, 0, none⟩)] w fun e w' => e = .returned (.int .i64 R) ∧ w' = w := by
  obtain ⟨a, c, h1, _⟩ := h
  have c1 : w.cell? ⟨qb, 2, none⟩ = some (.int .i64 R) := by rw [cell_of_row w qb 2 _ 59 (0, 0) h1]; rfl
  clear h1
  go_enter Try.func26, Try.ntmps26
  go_wp2
  go_ret
  exact ⟨rfl, rfl⟩

set_option maxHeartbeats 1000000 in
theorem keptAre_any (g m sc : Nat) (pa : Option Addr) (n : Nat) (zs : List Int) (R A : Int) (w : World) (hn : n ≤ 65536) (hl : zs.length = n) (hp : Lies w pa (ints zs)) (hf : allFit zs) (hA : inTime A)
    (hm : (keptIdx A R zs n).length = m) (hs : ∀ j v, (nums (keptIdx A R zs n))[j]? = some v → w.cell? ⟨g, j, none⟩ = some v) :
    Calls Try.prog 23 #[.slice (some ⟨g, 0, none⟩) m sc, .slice pa n n, .int .i64 R, .int .i64 A] w fun e w' => e = .returned (.bool true) ∧ w' = w := by
  have hmn : m ≤ n := hm ▸ keptIdx_le A R zs n
  have HL := hide2 hl
  have HP := hide2 hp
  have HF := hide2 hf
  have HA := hide2 hA
  have HM := hide2 hm
  have HS := hide2 hs
  clear hl hp hf hA hm hs
  go_enter Try.func23, Try.ntmps23
  go_wp2
  go_loop [9, 10] (fun v i => ∃ k : Nat, k ≤ n ∧ i = .int .i64 (k : Int) ∧ v = .int .i64 ((keptIdx A R zs k).length : Int)) (fun _ i => n - (intOf i).toNat)
  case atStart => exact ⟨0, Nat.zero_le _, rfl, rfl⟩
  case round =>
    obtain ⟨k, hk, rfl, rfl⟩ := hrel
    obtain ⟨q, hq⟩ : ∃ q, (keptIdx A R zs k).length = q := ⟨_, rfl⟩
    have hqk : q ≤ k := hq ▸ keptIdx_le A R zs k
    by_cases hlt : k < n
    · obtain ⟨b, ha, hc⟩ := lies_pos HP.out (by rw [ints_length, HL.out]; omega)
      subst ha
      obtain ⟨z, hz⟩ : ∃ s, zs.getD k 0 = s := ⟨_, rfl⟩
      have c1 : w.cell? ⟨b, k, none⟩ = some (.int .i64 z) := by rw [hc k _ (ints_get (by rw [HL.out]; omega)), hz]
      have hfit := HF.out k (by rw [HL.out]; omega)
      rw [hz] at hfit
      have hw : IntKind.i64.wrap (A - z) = A - z := by
        have h1 := HA.out.1
        have h2 := HA.out.2
        have h3 := hfit.1
        have h4 := hfit.2
        rw [IntKind.wrap_i64]; omega
      have hkn : (k : Int) < (n : Int) := by omega
      clear hc hfit
      by_cases hyes : A - z < R
      · have hg : A - zs.getD k 0 < R := by rw [hz]; exact hyes
        have hget := keptIdx_get hg n hlt
        rw [hq] at hget
        have hqm : q < m := by
          have := (List.getElem?_eq_some_iff.1 hget).1
          have := HM.out
          omega
        have cs : w.cell? ⟨g, q, none⟩ = some (.int .i64 (k : Int)) := HS.out q _ (nums_get hget)
        have hx : (keptIdx A R zs (k + 1)).length = q + 1 := by rw [keptIdx_hit hg, List.length_append, hq]; rfl
        have HX := hide2 hx
        have hqm' : (q : Int) < (m : Int) := by omega
        rw [hq]
        clear hget hx hg hz hq
        go_wp2
        go_round
        case rel => exact ⟨k + 1, by omega, by go_num, by rw [HX.out]; go_num⟩
        case measure => simp [intOf]; omega
      · have hg : ¬ A - zs.getD k 0 < R := by rw [hz]; exact hyes
        have hx : (keptIdx A R zs (k + 1)).length = q := by rw [keptIdx_miss hg, hq]
        have HX := hide2 hx
        rw [hq]
        clear hx hg hz hq
        go_wp2
        go_round
        case rel => exact ⟨k + 1, by omega, by go_num, by rw [HX.out]⟩
        case measure => simp [intOf]; omega
    · have ek : k = n := by omega
      subst ek
      have hqm : q = m := hq.symm.trans HM.out
      subst hqm
      rw [hq]
      clear hq
      go_wp2
      go_ret
      exact ⟨rfl, rfl⟩
end Go.Proofs.Qxb6609385a
