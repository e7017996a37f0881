/-
  WALKS: ZZexpire, ZZseqs, ZZgoneLen, ZZretention.
-/
import Derived.Test.Qxb6609385aExpireM
namespace Go.Proofs.Qxb6609385a
open Go.RowKit
set_option linter.unusedVariables false
set_option maxRecDepth 100000

theorem expire_any (B : Nat) (w : World) (qb : Nat) (A R : Int) (ms : List Msg) (hA : inTime A) (h : Queue B w qb R ms) :
    Calls Try.prog 31 #[.pointer (some ⟨qb, 0, none⟩), .agg (timeC A)] w fun e w' => e = .returned (.tuple #[]) ∧ Queue B w' qb R (kept A R ms) ∧ Below B w w' := by
  by_cases he : ms = []
  · subst he
    exact expire_none B w qb A R h
  · obtain ⟨a, c, h1, h2, h3, h4, h5⟩ := h
    rcases h5 with h5 | ⟨Mb, rfl, e2, e3, e4, e5⟩
    · exact absurd h5 he
    · exact expire_some B w qb A R ms hA none c Mb h1 h2 h3 h4 e2 e3 e4 e5

theorem zzExpire_any (B : Nat) (w : World) (qb : Nat) (A R : Int) (ms : List Msg) (hA : inTime A) (hB : B ≤ w.heap.size) (h : Queue B w qb R ms) :
    Calls Try.prog 22 #[.pointer (some ⟨qb, 0, none⟩), .int .i64 A] w fun e w' => e = .returned (.tuple #[]) ∧ Queue B w' qb R (kept A R ms) ∧ Below B w w' := by
  have ha := add_any 0 A w (by decide) (by decide) (by have := hA.1; omega) (by have := hA.2; omega)
  rw [Int.zero_add] at ha
  have e0 : timeC 0 = #[.int .u64 0, .int .i64 0, .pointer none] := rfl
  rw [e0] at ha
  have HA := hideX ha
  have HQ := hideX h
  have HI := hideX hA
  clear ha h hA e0
  go_enter Try.func22, Try.ntmps22
  go_wp2_with fail
  refine Calls.mono HA.out ?_
  rintro e w1 ⟨rfl, hb1⟩
  have HE := hideX (expire_any B w1 qb A R ms HI.out (HQ.out.later hb1))
  have HB1 := hideX hb1
  clear hb1
  go_wp2_with fail
  refine Calls.mono HE.out ?_
  rintro e w2 ⟨rfl, hq, hb2⟩
  have H1 := hideX hq
  have H2 : Hid (Below B w w2) := (HB1.out.mono hB).trans hb2
  clear hq hb2
  go_wp2
  go_end0
  exact ⟨rfl, H1.out, H2.out⟩

theorem info3 : (Try.prog.info? 3).map (fun i => (i.zero, i.size, i.bytes)) = some (some (.int .i64 0), 1, 8) := by kernel_rfl
def seqs (ms : List Msg) : List Value := ms.map fun m => Value.int .i64 (m.seq : Int)
theorem seqs_length (ms : List Msg) : (seqs ms).length = ms.length := by simp [seqs]
theorem seqs_succ (ms : List Msg) (k : Nat) (hk : k < ms.length) : seqs (ms.take (k + 1)) = seqs (ms.take k) ++ [.int .i64 ((ms.getD k Msg.zero).seq : Int)] := by
  unfold seqs
  rw [List.take_succ_eq_append_getElem hk, List.map_append]
  simp [List.getD, hk]

theorem below_append2 {B : Nat} {w wr w1 : World} {o : Obj} {e : TypeId} {v : Value} {n : Nat} {xs : List Value} (hb : Below B w wr) (hB : B ≤ wr.heap.size) (hown : wr.ownsRow B e 1 v n xs) (hg : (wr.alloc o).grownBy w1 v.ownBlock) : Below B w w1 :=
  (hb.alloc hB o).grown hg (by simp; omega) (fun k e => (hown.lt k e).1)
theorem own_shape {B : Nat} {w : World} {e : TypeId} {v : Value} {n : Nat} {xs : List Value} (h : w.ownsRow B e 1 v n xs) (hn : v ≠ .slice none 0 0) : ∃ g cap, v = .slice (some ⟨g, 0, none⟩) n cap := by
  rcases h.2 with ⟨h1, _⟩ | ⟨g, cap, cur, h1, _⟩
  · exact absurd h1 hn
  · exact ⟨g, cap, h1⟩

set_option maxHeartbeats 1000000 in
theorem seqs_any (B : Nat) (w : World) (qb : Nat) (R : Int) (ms : List Msg) (h : Queue B w qb R ms) :
    Calls Try.prog 24 #[.pointer (some ⟨qb, 0, none⟩)] w fun e w' => ∃ g cap, e = .returned (.slice (some ⟨g, 0, none⟩) ms.length cap) ∧ w'.ownsRow w.heap.size 3 1 (.slice (some ⟨g, 0, none⟩) ms.length cap) ms.length (seqs ms) ∧ Below w.heap.size w w' := by
  obtain ⟨a, c, h1, h2, h3, h4, h5⟩ := h
  obtain ⟨n, hn⟩ : ∃ n, ms.length = n := ⟨_, rfl⟩
  have hqs : qb < w.heap.size := (Array.getElem?_eq_some_iff.1 h1).1
  have c0 : w.cell? ⟨qb, 0, none⟩ = some (.slice a n c) := by rw [cell_of_row w qb 0 _ 59 (0, 0) h1, hn]; rfl
  obtain ⟨i0, hi, hz0, hz1, hz2⟩ := info_parts info3
  rw [hn] at h3
  have H4 := hideX h4
  have H5 := hideX h5
  have HN := hideX hn
  have HC := hideX c0
  rw [hn]
  clear h1 h2 h4 h5 hn
  go_enter Try.func24, Try.ntmps24
  go_wp2_with (first | (at_make; refine wpList_make_own _ rfl _ _ 43 rfl w.heap.size 3 i0 (.int .i64 0) 1 Try.underlying43 hi hz0 hz1 .i64 .i64 _ n rfl rfl rfl (by rw [hz2]; omega) (by unfold maxLen; omega) (Nat.le_refl _) ?_; intro w1 hown hgrow; have HO1 := hideX hown; have HG1 := hideX hgrow; clear hown hgrow))
  go_loopw [3, 4] (fun v i wr => ∃ k : Nat, k ≤ n ∧ i = .int .i64 k ∧ v ≠ .slice none 0 0 ∧ wr.ownsRow w.heap.size 3 1 v k (seqs (ms.take k)) ∧ Below w.heap.size w wr) (fun _ i _ => n - (intOf i).toNat)
  case atStart => exact ⟨0, Nat.zero_le _, rfl, by simp, HO1.out, (Below.refl _ _).grown HG1.out (Nat.le_refl _) (fun k e => by cases e)⟩
  case round =>
    obtain ⟨k, hk, rfl, hnn, hown, hbel⟩ := hrel
    have cq : wr.cell? ⟨qb, 0, none⟩ = some (.slice a n c) := cell_keeps hbel HC.out
    have HOW : Hid (wr.ownsRow w.heap.size 3 1 u3 k (seqs (ms.take k))) := hown
    have HBE := hideX hbel
    have HNN := hideX hnn
    clear hown hbel hnn
    by_cases hlt : k < n
    · have hkm : k < ms.length := by have := HN.out; omega
      obtain ⟨Mb, ha, e2, e3, e4, cur, e5, e6, e7, e8⟩ : ∃ Mb, a = some ⟨Mb, 0, none⟩ ∧ B ≤ Mb ∧ Mb ≠ qb ∧ (∀ m ∈ ms, m.blk ≠ Mb ∧ m.blk ≠ qb) ∧ Ptrs w Mb c ms := by
        rcases H5.out with h | h
        · rw [h] at hkm; simp at hkm
        · exact h
      subst ha
      obtain ⟨m, hmm⟩ : ∃ m, ms.getD k Msg.zero = m := ⟨_, rfl⟩
      have hmok := (H4.out _ (getD_mem hkm)).1
      rw [hmm] at hmok
      have cp : wr.cell? ⟨Mb, k, none⟩ = some (.pointer (some ⟨m.blk, 0, none⟩)) := by
        refine cell_keeps HBE.out ?_
        rw [cell_of_row w Mb k cur 60 (0, 0) e5, e8 k hkm, hmm]; rfl
      have cs : wr.cell? ⟨m.blk, 2, none⟩ = some (.int .i64 (m.seq : Int)) := cell_keeps HBE.out hmok.1
      have HMM := hideX hmm
      have hkn : (k : Int) < (n : Int) := by omega
      clear e2 e3 e4 e5 e6 e7 e8 hmok hmm
      go_wp2_with (first | (at_builtin; refine wpList_append_own _ rfl (.tmp 20) (.tmp 31) 43 rfl w.heap.size 3 i0 (.int .i64 0) 1 8 Try.underlying43 hi hz0 hz1 hz2 rfl (by decide) _ _ _ rfl (World.ownsRow.alloc HOW.out _) ⟨wr.heap.size, 0, none⟩ 1 1 [.int .i64 (m.seq : Int)] rfl rfl (cell_one_new _ _ _) (by intro u hu; simp at hu; subst hu; rfl) (by unfold maxLen; omega) (by omega) (by have := HBE.out.size; simp; omega) ?_; intro v' w2 hown2 hgrow2 hnil2; have R1 := hideX hown2; have R2 := hideX hgrow2; have R3 : Hid (v' ≠ .slice none 0 0) := fun e => absurd (hnil2.1 e).2 (by decide); clear hown2 hgrow2 hnil2))
      go_roundw
      case rel =>
        refine ⟨k + 1, by omega, by go_num, R3.out, ?_, below_append2 HBE.out HBE.out.size HOW.out R2.out⟩
        rw [seqs_succ ms k hkm, HMM.out]
        exact R1.out
      case measure => simp [intOf]; omega
    · have ek : k = n := by omega
      subst ek
      have et : ms.take k = ms := List.take_of_length_le (by have := HN.out; omega)
      rw [et] at HOW
      go_wp2
      go_ret
      obtain ⟨g, cap, hv⟩ := own_shape HOW.out HNN.out
      subst hv
      exact ⟨g, cap, rfl, HOW.out, HBE.out⟩
end Go.Proofs.Qxb6609385a
