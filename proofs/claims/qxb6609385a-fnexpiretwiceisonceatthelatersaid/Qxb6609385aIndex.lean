/-
  WALKS: slices.IndexFunc with expire's closure.
-/
import Derived.Test.Qxb6609385aClosure
namespace Go.Proofs.Qxb6609385a
open Go.RowKit
set_option linter.unusedVariables false
set_option maxRecDepth 100000

theorem hideX {p : Prop} (h : p) : Hid p := h
/-- a message: its block, its number, its moment. -/
structure Msg where
  blk : Nat
  seq : Nat
  sent : Int
def Msg.zero : Msg := ⟨0, 0, 0⟩
def Msg.ptr (m : Msg) : Value := .pointer (some ⟨m.blk, 0, none⟩)
/-- the message lies in memory. -/
def Msg.ok (w : World) (m : Msg) : Prop :=
  w.cell? ⟨m.blk, 2, none⟩ = some (.int .i64 (m.seq : Int)) ∧ w.cell? ⟨m.blk, 3, none⟩ = some (.int .u64 (m.sent % 1000000000)) ∧ w.cell? ⟨m.blk, 4, none⟩ = some (.int .i64 (m.sent / 1000000000)) ∧ w.cell? ⟨m.blk, 5, none⟩ = some (.pointer none)
/-- the closure's two boxes and the queue's retention lie in memory. -/
def Boxes (w : World) (nb pb qb : Nat) (A R : Int) : Prop :=
  w.cell? ⟨nb, 0, none⟩ = some (.int .u64 (A % 1000000000)) ∧ w.cell? ⟨nb, 1, none⟩ = some (.int .i64 (A / 1000000000)) ∧ w.cell? ⟨nb, 2, none⟩ = some (.pointer none) ∧
  w.cell? ⟨pb, 0, none⟩ = some (.pointer (some ⟨qb, 0, none⟩)) ∧ w.cell? ⟨qb, 2, none⟩ = some (.int .i64 R)
theorem eyes_of {w : World} {nb pb qb : Nat} {A R : Int} {m : Msg} (hb : Boxes w nb pb qb A R) (hm : m.ok w) : Eyes w nb m.blk pb qb A m.sent R :=
  ⟨hb.1, hb.2.1, hb.2.2.1, hm.2.1, hm.2.2.1, hm.2.2.2, hb.2.2.2.1, hb.2.2.2.2⟩
/-- is the message gone at moment A under retention R? -/
def del (A R : Int) (m : Msg) : Bool := decide (R ≤ A - m.sent)
def inTime (t : Int) : Prop := -4000000000000000000 ≤ t ∧ t ≤ 4000000000000000000
/-- the closure as a value. -/
def clo (nb pb : Nat) : Value := .func (Fn.func 38) #[] #[.pointer (some ⟨nb, 0, none⟩), .pointer (some ⟨pb, 0, none⟩)]
theorem closure_msg {nb pb qb : Nat} {A R : Int} {m : Msg} {w : World} (hA : inTime A) (hm : inTime m.sent) (hb : Boxes w nb pb qb A R) (ho : m.ok w) :
    Calls Try.prog 38 #[m.ptr, .pointer (some ⟨nb, 0, none⟩), .pointer (some ⟨pb, 0, none⟩)] w fun e w' => e = .returned (.bool (del A R m)) ∧ Below w.heap.size w w' :=
  closure_any nb m.blk pb qb A m.sent R w hA.1 hA.2 hm.1 hm.2 (eyes_of hb ho)
theorem cell_keeps {w w' : World} (hb : Below w.heap.size w w') {p : Addr} {v : Value} (h : w.cell? p = some v) : w'.cell? p = some v := by
  rw [hb.cell (World.block_lt_of_cell? w _ h)]; exact h
theorem Boxes.later {w w' : World} {nb pb qb : Nat} {A R : Int} (h : Boxes w nb pb qb A R) (hb : Below w.heap.size w w') : Boxes w' nb pb qb A R :=
  ⟨cell_keeps hb h.1, cell_keeps hb h.2.1, cell_keeps hb h.2.2.1, cell_keeps hb h.2.2.2.1, cell_keeps hb h.2.2.2.2⟩
theorem Msg.ok.later {w w' : World} {m : Msg} (h : m.ok w) (hb : Below w.heap.size w w') : m.ok w' :=
  ⟨cell_keeps hb h.1, cell_keeps hb h.2.1, cell_keeps hb h.2.2.1, cell_keeps hb h.2.2.2⟩

/-- where the first message that goes stands. -/
def firstDel (A R : Int) (ms : List Msg) (n : Nat) (r : Int) : Prop :=
  (r = -1 ∧ ∀ j, j < n → del A R (ms.getD j Msg.zero) = false) ∨ ∃ i : Nat, i < n ∧ r = (i : Int) ∧ del A R (ms.getD i Msg.zero) = true ∧ ∀ j, j < i → del A R (ms.getD j Msg.zero) = false

set_option maxHeartbeats 1000000 in
theorem index_some (Mb n c nb pb qb : Nat) (A R : Int) (ms : List Msg) (w : World) (hn : n ≤ 65536) (hA : inTime A) (hl : ms.length = n) (hb : Boxes w nb pb qb A R)
    (hm : ∀ j, j < n → (ms.getD j Msg.zero).ok w ∧ inTime (ms.getD j Msg.zero).sent) (hp : ∀ j, j < n → w.cell? ⟨Mb, j, none⟩ = some (ms.getD j Msg.zero).ptr) :
    Calls Try.prog 42 #[.slice (some ⟨Mb, 0, none⟩) n c, clo nb pb] w fun e w' => (∃ r, e = .returned (.int .i64 r) ∧ firstDel A R ms n r) ∧ Below w.heap.size w w' := by
  have HB := hideX hb
  have HM := hideX hm
  have HP := hideX hp
  have HL := hideX hl
  have HA := hideX hA
  clear hb hm hp hl hA
  unfold clo
  go_enter Try.func42, Try.ntmps42
  go_wp2
  go_loopw [8] (fun i wr => ∃ k : Nat, k ≤ n ∧ i = .int .i64 k ∧ (∀ j, j < k → del A R (ms.getD j Msg.zero) = false) ∧ Below w.heap.size w wr) (fun i _ => n - (intOf i).toNat)
  case atStart => exact ⟨0, Nat.zero_le _, rfl, fun j hj => absurd hj (Nat.not_lt_zero _), Below.refl _ _⟩
  case round =>
    obtain ⟨k, hk, rfl, hall, hbel⟩ := hrel
    by_cases hlt : k < n
    · obtain ⟨m, hmm⟩ : ∃ m, ms.getD k Msg.zero = m := ⟨_, rfl⟩
      have h1 := HM.out k hlt
      rw [hmm] at h1
      have cp : wr.cell? ⟨Mb, k, none⟩ = some (.pointer (some ⟨m.blk, 0, none⟩)) := by rw [cell_keeps hbel (HP.out k hlt), hmm]; rfl
      have HC := hideX (closure_msg (w := wr) HA.out h1.2 (HB.out.later hbel) (h1.1.later hbel))
      have HALL := hideX hall
      have HBEL := hideX hbel
      have HMM := hideX hmm
      clear hall hbel hmm h1
      cases hd : del A R m
      · go_wp2_with fail
        refine Calls.mono HC.out ?_
        rintro e w1 ⟨rfl, hb1⟩
        rw [hd]
        have HB1 := hideX hb1
        clear hb1
        go_wp2
        go_roundw
        case rel =>
          refine ⟨k + 1, by omega, by go_num, ?_, HBEL.out.trans (HB1.out.mono HBEL.out.size)⟩
          intro j hj
          by_cases e : j = k
          · rw [e, HMM.out]; exact hd
          · exact HALL.out j (by omega)
        case measure => simp [intOf]; omega
      · go_wp2_with fail
        refine Calls.mono HC.out ?_
        rintro e w1 ⟨rfl, hb1⟩
        rw [hd]
        have HB1 := hideX hb1
        clear hb1
        go_wp2
        go_ret
        exact ⟨⟨_, rfl, .inr ⟨k, hlt, rfl, by rw [HMM.out]; exact hd, HALL.out⟩⟩, HBEL.out.trans (HB1.out.mono HBEL.out.size)⟩
    · have HALL := hideX hall
      have HBEL := hideX hbel
      clear hall hbel
      go_wp2
      go_ret
      exact ⟨⟨_, rfl, .inl ⟨rfl, fun j hj => HALL.out j (by omega)⟩⟩, HBEL.out⟩

theorem index_none (a : Option Addr) (c : Nat) (f : Value) (A R : Int) (w : World) :
    Calls Try.prog 42 #[.slice a 0 c, f] w fun e w' => e = .returned (.int .i64 (-1)) ∧ w' = w := by
  go_enter Try.func42, Try.ntmps42
  go_wp2
  refine wp_loop_rounds 1 ?_
  rw [rounds_succ]
  go_wp2
  go_ret
  exact ⟨rfl, rfl⟩
end Go.Proofs.Qxb6609385a
