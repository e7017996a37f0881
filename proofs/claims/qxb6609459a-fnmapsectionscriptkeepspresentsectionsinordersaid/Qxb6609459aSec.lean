/-
  THE SECTIONS AS DATA; WALKS: entriesBytes, sectionsBytes, zzBytes of the second law.
-/
import Derived.Test.Qxb6609459aCode
namespace Go.Proofs.Qxb6609459a
open Go.RowKit
set_option linter.unusedVariables false
set_option maxRecDepth 100000

/-- a section that came in. -/
structure Sec where
  code : Int
  ad : Option Addr
  len : Nat
  cap : Nat
  key : Nat → ByteArray
  val : Nat → Int
/-- a slice of entries in memory. -/
structure Ents (w : World) (s : Sec) : Prop where
  small : s.len ≤ maxLen
  nil : s.ad = none → s.len = 0 ∧ s.cap = 0
  cells : 0 < s.len → ∃ b o, s.ad = some ⟨b, o, none⟩ ∧ ∀ j, j < s.len → w.cell? ⟨b, o + j * 2, none⟩ = some (.string (s.key j)) ∧ w.cell? ⟨b, o + j * 2 + 1, none⟩ = some (.int .i64 (s.val j))
/-- the slice of sections in memory. -/
def Secs (w : World) (a : Option Addr) (n : Nat) (S : Nat → Sec) : Prop :=
  n = 0 ∨ ∃ b o, a = some ⟨b, o, none⟩ ∧ ∀ i, i < n → w.cell? ⟨b, o + i * 2, none⟩ = some (.int .u64 (S i).code) ∧ w.cell? ⟨b, o + i * 2 + 1, none⟩ = some (.slice (S i).ad (S i).len (S i).cap) ∧ Ents w (S i)
theorem Secs.pos {w : World} {a : Option Addr} {n : Nat} {S : Nat → Sec} (h : Secs w a n S) {i : Nat} (hi : i < n) :
    ∃ b o, a = some ⟨b, o, none⟩ ∧ w.cell? ⟨b, o + i * 2, none⟩ = some (.int .u64 (S i).code) ∧ w.cell? ⟨b, o + i * 2 + 1, none⟩ = some (.slice (S i).ad (S i).len (S i).cap) ∧ Ents w (S i) := by
  rcases h with rfl | ⟨b, o, ha, h⟩
  · omega
  · exact ⟨b, o, ha, h i hi⟩
theorem cell_keeps {w w' : World} (hb : Below w.heap.size w w') {p : Addr} {v : Value} (h : w.cell? p = some v) : w'.cell? p = some v := by
  rw [hb.cell (World.block_lt_of_cell? w _ h)]
  exact h
theorem Ents.later {w w' : World} {s : Sec} (h : Ents w s) (hb : Below w.heap.size w w') : Ents w' s := by
  refine ⟨h.small, h.nil, fun hp => ?_⟩
  obtain ⟨b, o, ha, hc⟩ := h.cells hp
  exact ⟨b, o, ha, fun j hj => ⟨cell_keeps hb (hc j hj).1, cell_keeps hb (hc j hj).2⟩⟩
theorem Secs.later {w w' : World} {a : Option Addr} {n : Nat} {S : Nat → Sec} (h : Secs w a n S) (hb : Below w.heap.size w w') : Secs w' a n S := by
  rcases h with rfl | ⟨b, o, ha, h⟩
  · exact .inl rfl
  · exact .inr ⟨b, o, ha, fun i hi => ⟨cell_keeps hb (h i hi).1, cell_keeps hb (h i hi).2.1, (h i hi).2.2.later hb⟩⟩

/-- it hands back a number; where that is at most 2^20, so is the length. -/
def Bounds (p : Prop) (e : Ending) : Prop := ∃ z : Int, e = .returned (.int .i64 z) ∧ (z ≤ 1048576 → p)

set_option maxHeartbeats 1000000 in
theorem entriesBytes_any (s : Sec) (w : World) (h : Ents w s) :
    Calls Try.prog 19 #[.slice s.ad s.len s.cap] w fun e w' => Bounds (s.len ≤ 1048576) e ∧ w' = w := by
  obtain ⟨code, ad, len, cap, key, val⟩ := s
  obtain ⟨h1, h2, h3⟩ := h
  simp only at h1 h2 h3 ⊢
  unfold maxLen at h1
  have HC := hide2 h3
  clear h2 h3
  by_cases hbig : 1048576 < len
  · go_enter Try.func19, Try.ntmps19
    go_wp2
    go_ret
    exact ⟨⟨_, rfl, fun h => by omega⟩, rfl⟩
  · have hle : len ≤ 1048576 := by omega
    go_enter Try.func19, Try.ntmps19
    go_wp2
    go_loop [3, 4] (fun v i => ∃ (k : Nat) (z : Int), k ≤ len ∧ i = .int .i64 (k : Int) ∧ v = .int .i64 z) (fun _ i => len - (intOf i).toNat)
    case atStart => exact ⟨0, _, Nat.zero_le _, rfl, rfl⟩
    case round =>
      obtain ⟨k, z, hk, rfl, rfl⟩ := hrel
      by_cases hlt : k < len
      · obtain ⟨b, o, ha, hc⟩ := HC.out (by omega)
        subst ha
        have c1 := (hc k hlt).1
        clear hc
        have hkn : (k : Int) < (len : Int) := by omega
        go_wp2
        · go_ret
          exact ⟨⟨_, rfl, fun _ => by first | exact hle | trivial⟩, rfl⟩
        · go_ret
          exact ⟨⟨_, rfl, fun _ => by first | exact hle | trivial⟩, rfl⟩
        · go_round
          case rel => exact ⟨k + 1, _, by omega, by go_num, rfl⟩
          case measure => simp [intOf]; omega
      · go_wp2
        go_ret
        exact ⟨⟨_, rfl, fun _ => by first | exact hle | trivial⟩, rfl⟩

set_option maxHeartbeats 1000000 in
theorem sectionsBytes_any (a0 : Option Addr) (n c : Nat) (S : Nat → Sec) (w : World) (hn : n ≤ 65536) (h : Secs w a0 n S) :
    Calls Try.prog 13 #[.slice a0 n c] w fun e w' => Bounds (∀ i, i < n → (S i).len ≤ 1048576) e ∧ w' = w := by
  have HS := hide2 h
  clear h
  go_enter Try.func13, Try.ntmps13
  go_wp2
  go_loop [3, 4, 5] (fun v i _ => ∃ (k : Nat) (z : Int), k ≤ n ∧ i = .int .i64 (k : Int) ∧ v = .int .i64 z ∧ ∀ j, j < k → (S j).len ≤ 1048576) (fun _ i _ => n - (intOf i).toNat)
  case atStart => exact ⟨0, _, Nat.zero_le _, rfl, rfl, fun j hj => absurd hj (by omega)⟩
  case round =>
    obtain ⟨k, z, hk, rfl, rfl, hall⟩ := hrel
    have HA := hide2 hall
    clear hall
    by_cases hlt : k < n
    · obtain ⟨b, o, ha, _, c1, he⟩ := HS.out.pos hlt
      subst ha
      have HE := hide2 (entriesBytes_any (S k) w he)
      have hkn : (k : Int) < (n : Int) := by omega
      clear he
      go_wp2_with fail
      refine Calls.mono HE.out ?_
      rintro e w' ⟨⟨q, rfl, hq⟩, hw⟩
      rw [hw]
      have HQ := hide2 hq
      clear hw HE hq
      by_cases hqb : 1048576 < q
      · go_wp2
        go_ret
        exact ⟨⟨_, rfl, fun h => by omega⟩, rfl⟩
      · have HL := hide2 (HQ.out (by omega))
        go_wp2
        · go_ret
          exact ⟨⟨_, rfl, fun h => by omega⟩, rfl⟩
        · go_round
          case rel =>
            refine ⟨k + 1, _, by omega, by go_num, rfl, fun j hj => ?_⟩
            by_cases e : j = k
            · subst e; exact HL.out
            · exact HA.out j (by omega)
          case measure => simp [intOf]; omega
    · go_wp2
      go_ret
      exact ⟨⟨_, rfl, fun _ j hj => HA.out j (by omega)⟩, rfl⟩

set_option maxHeartbeats 2000000 in
theorem bytes2_any (a0 : Option Addr) (n c : Nat) (S : Nat → Sec) (w : World) (hn : n ≤ maxLen) (h : Secs w a0 n S) :
    Calls Try.prog 12 #[.slice a0 n c] w fun e w' => SomeBool e ∧ w' = w := by
  unfold maxLen at hn
  have HS := hide2 h
  clear h
  go_enter Try.func12, Try.ntmps12
  go_wp2
  · go_ret
    exact ⟨someBool _, rfl⟩
  go_loop [3, 4, 5] (fun v i _ => ∃ (k : Nat) (z : Int), k ≤ n ∧ i = .int .i64 (k : Int) ∧ v = .int .i64 z) (fun _ i _ => n - (intOf i).toNat)
  case atStart => exact ⟨0, _, Nat.zero_le _, rfl, rfl⟩
  case round =>
    obtain ⟨k, z, hk, rfl, rfl⟩ := hrel
    by_cases hlt : k < n
    · obtain ⟨b, o, ha, c0, c1, he⟩ := HS.out.pos hlt
      subst ha
      obtain ⟨code, ad, len, cap, key, val, hs⟩ : ∃ code ad len cap key val, S k = ⟨code, ad, len, cap, key, val⟩ := ⟨_, _, _, _, _, _, rfl⟩
      rw [hs] at c1 he
      obtain ⟨h1, h2, h3⟩ := he
      simp only at h1 h2 h3 c1
      unfold maxLen at h1
      have HC := hide2 h3
      have hkn : (k : Int) < (n : Int) := by omega
      clear h2 h3 c0 hs
      go_wp2
      · go_ret
        exact ⟨someBool _, rfl⟩
      · go_ret
        exact ⟨someBool _, rfl⟩
      go_loop [3, 5] (fun v i => ∃ (j : Nat) (y : Int), j ≤ len ∧ i = .int .i64 (j : Int) ∧ v = .int .i64 y) (fun _ i => len - (intOf i).toNat)
      case atStart => exact ⟨0, _, Nat.zero_le _, rfl, rfl⟩
      case round =>
        obtain ⟨j, y, hj, rfl, rfl⟩ := hrel
        by_cases hlt2 : j < len
        · obtain ⟨b2, o2, ha2, hc⟩ := HC.out (by omega)
          subst ha2
          have d1 := (hc j hlt2).1
          have hjn : (j : Int) < (len : Int) := by omega
          clear hc
          go_wp2
          · go_ret
            exact ⟨someBool _, rfl⟩
          · go_ret
            exact ⟨someBool _, rfl⟩
          · go_round
            case rel => exact ⟨j + 1, _, by omega, by go_num, rfl⟩
            case measure => simp [intOf]; omega
        · go_wp2
          go_round
          case rel => exact ⟨k + 1, _, by omega, by go_num, rfl⟩
          case measure => simp [intOf]; omega
    · go_wp2
      go_ret
      exact ⟨someBool _, rfl⟩
end Go.Proofs.Qxb6609459a
