/-
  WALKS: zzAnyMap.
-/
import Derived.Test.Qxb6609385aMaps
import Derived.Deep.RegionHeld
import Derived.Deep.OwnRows
namespace Go.Proofs.Qxb6609385a
open Go.RowKit
set_option linter.unusedVariables false

theorem hide2 {p : Prop} (h : p) : Hid p := h
def strs (l : List ByteArray) : List Value := l.map Value.string
theorem strs_length (l : List ByteArray) : (strs l).length = l.length := by simp [strs]
theorem strs_get {l : List ByteArray} {k : Nat} (hk : k < l.length) : (strs l)[k]? = some (.string (l.getD k ByteArray.empty)) := by
  simp [strs, hk, List.getD]

/-- a slice of the call's own or nil: its cells, from the head of its block on. -/
def Lies (w : World) (a : Option Addr) (cs : List Value) : Prop :=
  cs = [] ∨ ∃ b, a = some ⟨b, 0, none⟩ ∧ ∀ k v, cs[k]? = some v → w.cell? ⟨b, k, none⟩ = some v
theorem Lies.later {w w' : World} {a : Option Addr} {cs : List Value} (h : Lies w a cs) (hb : Below w.heap.size w w') : Lies w' a cs := by
  rcases h with h | ⟨b, ha, hc⟩
  · exact .inl h
  · refine .inr ⟨b, ha, fun k v hv => ?_⟩
    have h1 := hc k v hv
    rw [hb.cell (World.block_lt_of_cell? w _ h1)]
    exact h1
theorem lies_pos {w : World} {a : Option Addr} {cs : List Value} (h : Lies w a cs) (hp : 0 < cs.length) : ∃ b, a = some ⟨b, 0, none⟩ ∧ ∀ k v, cs[k]? = some v → w.cell? ⟨b, k, none⟩ = some v := by
  rcases h with rfl | h
  · simp at hp
  · exact h

/-- the last place below k at which 'key' stands. -/
def lastIdx (ks : List ByteArray) (key : ByteArray) : Nat → Option Nat
  | 0 => none
  | k + 1 => if ks.getD k ByteArray.empty = key then some k else lastIdx ks key k
/-- what the map of names reads as, the first k pairs put in. -/
def named (ks vs : List ByteArray) (k : Nat) (key : ByteArray) : Option Value := (lastIdx ks key k).map fun j => .iface 9 (.string (vs.getD j ByteArray.empty))

theorem named_step (ks vs : List ByteArray) (k : Nat) (key x : ByteArray) (hk : ks.getD k ByteArray.empty = key) :
    (if x = key then some (.iface 9 (.string (vs.getD k ByteArray.empty))) else named ks vs k x) = named ks vs (k + 1) x := by
  unfold named
  rw [lastIdx, hk]
  by_cases e : x = key
  · subst e; simp
  · have e' : ¬ key = x := fun h => e h.symm
    simp [e, e']

set_option maxRecDepth 100000 in
set_option maxHeartbeats 1000000 in
theorem anyMap_any (ka va : Option Addr) (ks vs : List ByteArray) (n1 n2 : Nat) (w : World) (h1 : n1 ≤ 4096) (h2 : n2 ≤ 4096) (hl1 : ks.length = n1) (hl2 : vs.length = n2) (hk : Lies w ka (strs ks)) (hv : Lies w va (strs vs)) :
    Calls Try.prog 40 #[.slice ka n1 n1, .slice va n2 n2] w fun e w' => e = .returned (.map (some w.heap.size)) ∧ (∃ n, MapIs w' w.heap.size n (named ks vs (min n1 n2))) ∧ Below w.heap.size w w' := by
  have hmm := @run_makeMap Try.prog
  have HL1 := hide2 hl1
  have HL2 := hide2 hl2
  have HK := hide2 hk
  have HV := hide2 hv
  clear hl1 hl2 hk hv
  go_enter Try.func40, Try.ntmps40
  go_wp2
  go_loopw [6] (fun i wr => ∃ k n : Nat, k ≤ n1 ∧ k ≤ n2 ∧ i = .int .i64 k ∧ MapIs wr w.heap.size n (named ks vs k) ∧ Below w.heap.size w wr) (fun i _ => n1 - (intOf i).toNat)
  case atStart => exact ⟨0, 0, Nat.zero_le _, Nat.zero_le _, rfl, mapIs_new w, (Below.refl _ _).alloc (Nat.le_refl _) _⟩
  case round =>
    obtain ⟨k, n, hk1, hk2, rfl, hmap, hbel⟩ := hrel
    by_cases hlt1 : k < n1
    · by_cases hlt2 : k < n2
      · obtain ⟨kb, hka, hkc⟩ := lies_pos HK.out (by rw [strs_length, HL1.out]; omega)
        obtain ⟨vb, hva, hvc⟩ := lies_pos HV.out (by rw [strs_length, HL2.out]; omega)
        subst hka
        subst hva
        obtain ⟨key, hkey⟩ : ∃ s, ks.getD k ByteArray.empty = s := ⟨_, rfl⟩
        obtain ⟨val, hval⟩ : ∃ s, vs.getD k ByteArray.empty = s := ⟨_, rfl⟩
        have q1 := hkc k _ (strs_get (by rw [HL1.out]; exact hlt1))
        have q2 := hvc k _ (strs_get (by rw [HL2.out]; exact hlt2))
        have kbl : kb < w.heap.size := World.block_lt_of_cell? w _ q1
        have vbl : vb < w.heap.size := World.block_lt_of_cell? w _ q2
        have c1 : wr.cell? ⟨kb, k, none⟩ = some (.string key) := by rw [hbel.cell kbl, q1, hkey]
        have c2 : wr.cell? ⟨vb, k, none⟩ = some (.string val) := by rw [hbel.cell vbl, q2, hval]
        have hmd : MapIs wr.drew w.heap.size n (named ks vs k) := hmap
        obtain ⟨w1, hrun, hmap1, hput⟩ := run_put (P := Try.prog) Try.underlying48 Try.underlying9 hmd key (.iface 9 (.string val))
        have hb1 : Below w.heap.size w w1 := (hbel.drew).trans (hput.below (Nat.le_refl _))
        have d1 : w1.cell? ⟨kb, k, none⟩ = some (.string key) := by rw [hb1.cell kbl, q1, hkey]
        have d2 : w1.cell? ⟨vb, k, none⟩ = some (.string val) := by rw [hb1.cell vbl, q2, hval]
        have i1 : (k : Int) < (n1 : Int) := by omega
        have i2 : (k : Int) < (n2 : Int) := by omega
        have HM : Hid (MapIs w1 w.heap.size _ (named ks vs (k + 1))) := hmap1.congr (fun x => by rw [← hval]; exact named_step ks vs k key x hkey)
        have HB := hide2 hb1
        clear hmap1 hput hb1 hmd hmap hbel q1 q2 hkc hvc hkey hval
        go_wp2
        go_region_held (fun w' => w'.cell? ⟨kb, k, none⟩ = some (.string key) ∧ w'.cell? ⟨vb, k, none⟩ = some (.string val)) (first | exact ⟨c1, c2⟩ | exact ⟨d1, d2⟩) (fail)
        go_wp2
        go_roundw
        case rel => exact ⟨k + 1, _, by omega, by omega, by go_num, HM.out, HB.out⟩
        case measure => simp [intOf]; omega
      · have e : min n1 n2 = k := by omega
        have HE := hide2 e
        have HM := hide2 hmap
        have HB := hide2 hbel
        clear hmap hbel e
        go_wp2
        go_ret
        exact ⟨rfl, ⟨n, by rw [HE.out]; exact HM.out⟩, HB.out⟩
    · have e : min n1 n2 = k := by omega
      have HE := hide2 e
      have HM := hide2 hmap
      have HB := hide2 hbel
      clear hmap hbel e
      go_wp2
      go_ret
      exact ⟨rfl, ⟨n, by rw [HE.out]; exact HM.out⟩, HB.out⟩
end Go.Proofs.Qxb6609385a
