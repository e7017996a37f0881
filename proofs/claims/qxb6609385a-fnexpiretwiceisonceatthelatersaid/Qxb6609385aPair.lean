/-
  WALKS: zzPut, zzBody, newExpressions, ZZnewExpressionsPairFrom.
-/
import Derived.Test.Qxb6609385aSmall
namespace Go.Proofs.Qxb6609385a
open Go.RowKit
set_option linter.unusedVariables false
set_option maxRecDepth 100000

def kNames : ByteArray := { data := #[69, 120, 112, 114, 101, 115, 115, 105, 111, 110, 65, 116, 116, 114, 105, 98, 117, 116, 101, 78, 97, 109, 101, 115] }
def kValues : ByteArray := { data := #[69, 120, 112, 114, 101, 115, 115, 105, 111, 110, 65, 116, 116, 114, 105, 98, 117, 116, 101, 86, 97, 108, 117, 101, 115] }
def kTable : ByteArray := { data := #[84, 97, 98, 108, 101, 78, 97, 109, 101] }

set_option maxHeartbeats 400000 in
theorem put_zero (b : Nat) (key : ByteArray) (w : World) :
    Calls Try.prog 32 #[.map (some b), .string key, .slice none 0 0, .slice none 0 0, .int .u8 0] w fun e w' => e = .returned (.tuple #[]) ∧ w' = w := by
  go_enter Try.func32, Try.ntmps32
  go_wp2
  go_end0
  exact ⟨rfl, rfl⟩

set_option maxHeartbeats 400000 in
theorem put_one (b n : Nat) (g : ByteArray → Option Value) (key : ByteArray) (ka va : Option Addr) (ks vs : List ByteArray) (n1 n2 : Nat) (w : World) (hm : MapIs w b n g) (h1 : n1 ≤ 4096) (h2 : n2 ≤ 4096) (hl1 : ks.length = n1) (hl2 : vs.length = n2) (hk : Lies w ka (strs ks)) (hv : Lies w va (strs vs)) :
    Calls Try.prog 32 #[.map (some b), .string key, .slice ka n1 n1, .slice va n2 n2, .int .u8 1] w fun e w' => e = .returned (.tuple #[]) ∧
      (∃ n', MapIs w' b n' (fun x => if x = key then some (.iface 48 (.map (some w.heap.size))) else g x)) ∧ (∃ m, MapIs w' w.heap.size m (named ks vs (min n1 n2))) ∧ w.heap.size < w'.heap.size ∧ Below b w w' := by
  have HA := hide2 (anyMap_any ka va ks vs n1 n2 w h1 h2 hl1 hl2 hk hv)
  have HM := hide2 hm
  clear hm hl1 hl2 hk hv
  go_enter Try.func32, Try.ntmps32
  go_wp2_with fail
  refine Calls.mono HA.out ?_
  rintro e w1 ⟨rfl, ⟨m, hm1⟩, hb1⟩
  have hbl : b < w.heap.size := HM.out.lt
  have hm2 : MapIs w1 b n g := MapIs.of_block HM.out (hb1.block b hbl)
  obtain ⟨w2, hrun, hm3, hput⟩ := run_put (P := Try.prog) Try.underlying48 Try.underlying9 hm2 key (.iface 48 (.map (some w.heap.size)))
  have H1 := hide2 hm3
  have H2 : Hid (MapIs w2 w.heap.size m (named ks vs (min n1 n2))) := hm1.of_block (hput.block _ (by omega))
  have H3 : Hid (Below b w w2) := (hb1.mono (Nat.le_of_lt hbl)).trans (hput.below (Nat.le_refl _))
  have H4 : Hid (w.heap.size < w2.heap.size) := by
    show _ < _
    rw [hput.size]
    exact hm1.lt
  clear hm1 hm2 hm3 hput hb1
  go_wp2
  go_end0
  exact ⟨rfl, ⟨_, H1.out⟩, ⟨_, H2.out⟩, H4.out, H3.out⟩

/-- what the body reads as. -/
def bodyG (nb : Nat) : ByteArray → Option Value := fun x => if x = kNames then some (.iface 48 (.map (some nb))) else if x = kTable then some (.iface 9 (.string { data := #[122, 122] })) else none
theorem bodyG_names (nb : Nat) : bodyG nb kNames = some (.iface 48 (.map (some nb))) := if_pos rfl
theorem bodyG_values (nb : Nat) : bodyG nb kValues = none := by
  unfold bodyG
  rw [if_neg (by decide), if_neg (by decide)]

set_option maxHeartbeats 400000 in
theorem body_any (ka va : Option Addr) (ks vs : List ByteArray) (n1 n2 : Nat) (w : World) (h1 : n1 ≤ 4096) (h2 : n2 ≤ 4096) (hl1 : ks.length = n1) (hl2 : vs.length = n2) (hk : Lies w ka (strs ks)) (hv : Lies w va (strs vs)) :
    Calls Try.prog 28 #[.slice ka n1 n1, .slice va n2 n2, .int .u8 1, .slice none 0 0, .slice none 0 0, .int .u8 0] w fun e w' => e = .returned (.map (some w.heap.size)) ∧
      (∃ n', MapIs w' w.heap.size n' (bodyG (w.heap.size + 1))) ∧ (∃ m, MapIs w' (w.heap.size + 1) m (named ks vs (min n1 n2))) ∧ Below w.heap.size w w' := by
  have hmm := @run_makeMap Try.prog
  obtain ⟨w1, hrun, hm1, hput⟩ := run_put (P := Try.prog) Try.underlying48 Try.underlying9 (mapIs_new w) kTable (.iface 9 (.string { data := #[122, 122] }))
  have hb1 : Below w.heap.size w w1 := ((Below.refl _ _).alloc (Nat.le_refl _) _).trans (hput.below (Nat.le_refl _))
  have hs1 : w1.heap.size = w.heap.size + 1 := by rw [hput.size]; simp
  have HP := hide2 (put_one w.heap.size _ _ kNames ka va ks vs n1 n2 w1 hm1 h1 h2 hl1 hl2 (Lies.later hk hb1) (Lies.later hv hb1))
  have HB1 := hide2 hb1
  have HS1 := hide2 hs1
  unfold kTable at hrun
  clear hm1 hput hb1 hs1 hl1 hl2 hk hv
  go_enter Try.func28, Try.ntmps28
  go_wp2_with fail
  refine Calls.mono HP.out ?_
  rintro e w2 ⟨rfl, ⟨n', hm2⟩, ⟨m, hm3⟩, hlt, hb2⟩
  rw [HS1.out] at hm2 hm3
  have H1 : Hid (MapIs w2 w.heap.size n' (bodyG (w.heap.size + 1))) := hm2
  have H2 := hide2 hm3
  have H3 : Hid (Below w.heap.size w w2) := HB1.out.trans hb2
  clear hm2 hm3 hlt hb2
  go_wp2_with (go_at_call 32; refine (put_zero _ _ _).mono ?_; rintro e w' ⟨rfl, hw⟩; rw [hw]; clear hw)
  go_ret
  exact ⟨rfl, ⟨_, H1.out⟩, ⟨_, H2.out⟩, H3.out⟩

theorem assert_map (x : Value) (w : World) : (Instr.typeAssert (.iface 48 x) 20 48 true).run Try.prog w = .ok (.tuple #[x, .bool true]) w := by kernel_rfl
theorem assert_nil48 (w : World) : (Instr.typeAssert .nilIface 20 48 true).run Try.prog w = .ok (.tuple #[.map none, .bool false]) w := by kernel_rfl

/-- the world with one record more: two new sets and the record. -/
def recWorld (w : World) (nb : Nat) : World :=
  ((w.alloc (.map #[] 0)).alloc (.map #[] 0)).alloc (.cells #[.map (some nb), .map none, .map (some w.heap.size), .map (some (w.heap.size + 1))] 53)

set_option maxHeartbeats 400000 in
theorem newExpr_any (b n nb : Nat) (w : World) (hm : MapIs w b n (bodyG nb)) :
    Calls Try.prog 29 #[.map (some b)] w fun e w' => e = .returned (.pointer (some ⟨w.heap.size + 2, 0, none⟩)) ∧ w' = recWorld w nb := by
  have hmm := @run_makeMap Try.prog
  have hr1 := run_get (P := Try.prog) Try.underlying48 Try.underlying9 (zero20 w) hm kNames false
  have hr2 := run_get (P := Try.prog) Try.underlying48 Try.underlying9 (zero20 w) hm kValues false
  rw [bodyG_names] at hr1
  rw [bodyG_values] at hr2
  simp only [Option.getD_some, Option.getD_none, Bool.false_eq_true, if_false] at hr1 hr2
  unfold kNames at hr1
  unfold kValues at hr2
  have ha := assert_map
  have hn := assert_nil48
  clear hm
  go_enter Try.func29, Try.ntmps29
  go_wp2
  go_ret
  exact ⟨rfl, rfl⟩
end Go.Proofs.Qxb6609385a
