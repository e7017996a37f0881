/-
  WALKS: personsWith.
-/
import Derived.Test.Qxb6609375aHas
namespace Go.Proofs.Qxb6609375a
open Go.RowKit
set_option linter.unusedVariables false

theorem info21 : (Try.prog.info? 21).map (fun i => (i.zero, i.size, i.bytes)) = some (some (.int .i32 0), 1, 4) := by kernel_rfl

/-- is person 'id' kept for rule r (0: any rule)? 'f' are the rule sets. -/
def keeps (f : List Nat) (r id : Nat) : Bool := (f.getD id 0 != 0) && ((r == 0) || (f.getD id 0).testBit r)
/-- the list that personsWith makes. -/
def listOf (f : List Nat) (r : Nat) (ps : List Nat) : List Nat := ps.filter (keeps f r)
def i32s (l : List Nat) : List Value := l.map fun (x : Nat) => Value.int .i32 (x : Int)
def u16s (l : List Nat) : List Value := l.map fun (x : Nat) => Value.int .u16 (x : Int)

theorem listOf_le (f : List Nat) (r : Nat) (ps : List Nat) : (listOf f r ps).length ≤ ps.length := List.length_filter_le _ _
theorem listOf_succ (f : List Nat) (r : Nat) (ps : List Nat) (k : Nat) (hk : k < ps.length) :
    listOf f r (ps.take (k + 1)) = listOf f r (ps.take k) ++ (if keeps f r (ps.getD k 0) then [ps.getD k 0] else []) := by
  unfold listOf
  rw [List.take_succ_eq_append_getElem hk, List.filter_append]
  congr 1
  have e : ps.getD k 0 = ps[k] := by simp [List.getD, hk]
  rw [e]
  by_cases h : keeps f r ps[k] <;> simp [h]

/-- no person: nothing is made. -/
theorem with_none (ab fb m : Nat) (pa : Option Addr) (c r : Nat) (w : World) (ha : w.cell? ⟨ab, 20, none⟩ = some (.slice pa 0 c)) :
    Calls Try.prog 6 #[.pointer (some ⟨ab, 0, none⟩), .slice (some ⟨fb, 0, none⟩) m m, .int .u8 (r : Int)] w fun e w' => e = .returned (.slice none 0 0) ∧ w' = w := by
  go_enter Try.func6, Try.ntmps6
  go_wp2
  refine wp_loop_rounds 1 ?_
  rw [rounds_succ]
  go_wp2
  go_ret
  exact ⟨rfl, rfl⟩

theorem oneCell_i32 (l : List Nat) : ∀ u ∈ i32s l, u.oneCell' = true := by
  intro u hu
  unfold i32s at hu
  obtain ⟨x, _, rfl⟩ := List.mem_map.1 hu
  rfl
theorem i32s_append (a b : List Nat) : i32s (a ++ b) = i32s a ++ i32s b := by simp [i32s]
theorem i32s_length (a : List Nat) : (i32s a).length = a.length := by simp [i32s]

theorem hide2 {p : Prop} (h : p) : Hid p := h
theorem keeps_eq {f : List Nat} {r id x : Nat} (hx : f.getD id 0 = x) : keeps f r id = ((x != 0) && ((r == 0) || x.testBit r)) := by rw [keeps, hx]
theorem rel_drop {f ps : List Nat} {r k id : Nat} {B : Nat} {w wr : World} {v : Value} (hk : k < ps.length) (hid : ps.getD k 0 = id) (hkp : keeps f r id = false)
    (hown : wr.ownsRow B 21 1 v (listOf f r (ps.take k)).length (i32s (listOf f r (ps.take k)))) : wr.ownsRow B 21 1 v (listOf f r (ps.take (k + 1))).length (i32s (listOf f r (ps.take (k + 1)))) := by
  rw [listOf_succ f r ps k hk, hid, hkp]
  simpa using hown
theorem rel_keep {f ps : List Nat} {r k id : Nat} {B : Nat} {w1 : World} {v' : Value} (hk : k < ps.length) (hid : ps.getD k 0 = id) (hkp : keeps f r id = true)
    (hown : w1.ownsRow B 21 1 v' ((listOf f r (ps.take k)).length + 1) (i32s (listOf f r (ps.take k)) ++ [.int .i32 (id : Int)])) : w1.ownsRow B 21 1 v' (listOf f r (ps.take (k + 1))).length (i32s (listOf f r (ps.take (k + 1)))) := by
  rw [listOf_succ f r ps k hk, hid, hkp, if_pos rfl, i32s_append, List.length_append]
  exact hown
theorem below_append {B : Nat} {w wr w1 : World} {o : Obj} {e : TypeId} {v : Value} {n : Nat} {xs : List Value} (hb : Below B w wr) (hB : B ≤ wr.heap.size) (hown : wr.ownsRow B e 1 v n xs) (hg : (wr.alloc o).grownBy w1 v.ownBlock) : Below B w w1 :=
  (hb.alloc hB o).grown hg (by simp; omega) (fun k e => (hown.lt k e).1)

set_option maxRecDepth 100000 in
set_option maxHeartbeats 2000000 in
theorem with_some (ab fb pb m r : Nat) (ps f : List Nat) (w : World) (hn : ps.length ≤ 65536) (hm : m ≤ 65536) (hfl : f.length = m) (hr : r ≤ 15)
    (hid : ∀ k, k < ps.length → ps.getD k 0 < m) (hf : ∀ j, f.getD j 0 < 65536)
    (ha : w.cell? ⟨ab, 20, none⟩ = some (.slice (some ⟨pb, 0, none⟩) ps.length ps.length)) 
    (hp : ∀ k, k < ps.length → w.cell? ⟨pb, k, none⟩ = some (.int .i32 (ps.getD k 0 : Nat)))
    (hfc : ∀ j, j < m → w.cell? ⟨fb, j, none⟩ = some (.int .u16 (f.getD j 0 : Nat))) :
    Calls Try.prog 6 #[.pointer (some ⟨ab, 0, none⟩), .slice (some ⟨fb, 0, none⟩) m m, .int .u8 (r : Int)] w fun e w' => ∃ v, e = .returned v ∧
      w'.ownsRow w.heap.size 21 1 v (listOf f r ps).length (i32s (listOf f r ps)) ∧ Below w.heap.size w w' := by
  obtain ⟨n, hnl⟩ : ∃ n, ps.length = n := ⟨_, rfl⟩
  rw [hnl] at hn hid ha hp
  have HN : Hid _ := hnl
  clear hnl
  obtain ⟨i0, hi, hz0, hz1, hz2⟩ := info_parts info21
  have pbl : ∀ k, k < n → pb < w.heap.size := fun k hk => by
    have := World.block_lt_of_cell? w _ (hp k hk); simpa using this
  have fbl : ∀ k, k < m → fb < w.heap.size := fun k hk => by
    have := World.block_lt_of_cell? w _ (hfc k hk); simpa using this
  have HID : Hid _ := hid
  have HP : Hid _ := hp
  have HF : Hid _ := hfc
  have HFB : Hid _ := hf
  have HPB : Hid _ := pbl
  have HFBL : Hid _ := fbl
  have HFL : Hid _ := hfl
  clear hid hp hfc hf pbl fbl hfl
  go_enter Try.func6, Try.ntmps6
  go_wp2
  go_loopw [7, 15] (fun v i wr => ∃ k : Nat, k ≤ n ∧ i = .int .i64 k ∧ wr.ownsRow w.heap.size 21 1 v (listOf f r (ps.take k)).length (i32s (listOf f r (ps.take k))) ∧ Below w.heap.size w wr)
    (fun _ i _ => n - (intOf i).toNat)
  case atStart => exact ⟨0, Nat.zero_le _, rfl, World.ownsRow_nil _ _ _ _, Below.refl _ _⟩
  case round =>
    obtain ⟨k, hk, rfl, hown, hbel⟩ := hrel
    have HO : Hid _ := hown
    have HB : Hid _ := hbel
    clear hown hbel
    by_cases hlt : k < n
    · obtain ⟨id, hidd⟩ : ∃ id, ps.getD k 0 = id := ⟨_, rfl⟩
      have hidm : id < m := hidd ▸ HID.out k hlt
      obtain ⟨x, hx⟩ : ∃ x, f.getD id 0 = x := ⟨_, rfl⟩
      have hxb : x < 65536 := hx ▸ HFB.out id
      have cp : wr.cell? ⟨pb, k, none⟩ = some (.int .i32 (id : Int)) := by
        rw [HB.out.cell (HPB.out k hlt), HP.out k hlt, hidd]
      have cf : wr.cell? ⟨fb, id, none⟩ = some (.int .u16 (x : Int)) := by
        rw [HB.out.cell (HFBL.out id hidm), HF.out id hidm, hx]
      have HX : Hid _ := hx
      have HI : Hid _ := hidd
      clear hx hidd
      have HL : Hid ((listOf f r (ps.take k)).length ≤ 65536) := by
        have h1 := listOf_le f r (ps.take k)
        have h2 : (ps.take k).length ≤ k := List.length_take_le _ _
        show _ ≤ _
        omega
      have hkl : k < ps.length := by have := HN.out; omega
      have KE := hide2 (keeps_eq (r := r) HX.out)
      cases h0 : ((x : Int) != 0)
      · have hkp : Hid (keeps f r id = false) := by
          have e0 : x = 0 := by have h := h0; simp at h; exact h
          show keeps f r id = false
          rw [KE.out, e0]; rfl
        go_wp2
        go_roundw
        case rel => exact ⟨k + 1, by omega, by go_num, rel_drop (w := w) hkl HI.out hkp.out HO.out, HB.out⟩
        case measure => simp [intOf]; omega
      · have e0 : (x != 0) = true := by have h := h0; simp at h; simpa using h
        have E0 : Hid _ := e0
        clear e0
        cases hz : ((r : Int) == 0)
        · have er : (r == 0) = false := by have h := hz; simp at h; simpa using h
          have ER : Hid _ := er
          clear er
          cases ht : x.testBit r
          · have hkp : Hid (keeps f r id = false) := by
              show keeps f r id = false
              rw [KE.out, E0.out, ER.out, ht]; rfl
            go_wp2_with (first | (go_at_call 7; refine (has_any _ _ _ hxb hr).mono ?_; rintro e w' ⟨rfl, hw⟩; rw [hw]; clear hw) | (at_builtin; refine wpList_append_own _ rfl (.tmp 36) (.tmp 38) 22 rfl w.heap.size 21 i0 (.int .i32 0) 1 4 Try.underlying22 hi hz0 hz1 hz2 rfl (by decide) _ _ _ rfl (World.ownsRow.alloc HO.out _) ⟨wr.heap.size, 0, none⟩ 1 1 [.int .i32 (id : Int)] rfl rfl (cell_one_new _ _ _) (by intro u hu; simp at hu; subst hu; rfl) (by have := HL.out; unfold maxLen; omega) (by have := HL.out; omega) (by have := HB.out.size; simp; omega) ?_; intro v' w1 hown1 hgrow1 _; have R1 : Hid _ := hown1; have R2 : Hid _ := hgrow1; clear hown1 hgrow1))
            go_roundw
            case rel => exact ⟨k + 1, by omega, by go_num, rel_drop (w := w) hkl HI.out hkp.out HO.out, HB.out⟩
            case measure => simp [intOf]; omega
          · have hkp : Hid (keeps f r id = true) := by
              show keeps f r id = true
              rw [KE.out, E0.out, ER.out, ht]; rfl
            go_wp2_with (first | (go_at_call 7; refine (has_any _ _ _ hxb hr).mono ?_; rintro e w' ⟨rfl, hw⟩; rw [hw]; clear hw) | (at_builtin; refine wpList_append_own _ rfl (.tmp 36) (.tmp 38) 22 rfl w.heap.size 21 i0 (.int .i32 0) 1 4 Try.underlying22 hi hz0 hz1 hz2 rfl (by decide) _ _ _ rfl (World.ownsRow.alloc HO.out _) ⟨wr.heap.size, 0, none⟩ 1 1 [.int .i32 (id : Int)] rfl rfl (cell_one_new _ _ _) (by intro u hu; simp at hu; subst hu; rfl) (by have := HL.out; unfold maxLen; omega) (by have := HL.out; omega) (by have := HB.out.size; simp; omega) ?_; intro v' w1 hown1 hgrow1 _; have R1 : Hid _ := hown1; have R2 : Hid _ := hgrow1; clear hown1 hgrow1))
            go_roundw
            case rel => exact ⟨k + 1, by omega, by go_num, rel_keep hkl HI.out hkp.out R1.out, below_append HB.out (HB.out.size) HO.out R2.out⟩
            case measure => simp [intOf]; omega
        · have er : (r == 0) = true := by have h := hz; simp at h; simpa using h
          have hkp : Hid (keeps f r id = true) := by
            show keeps f r id = true
            rw [KE.out, E0.out, er]; rfl
          clear er
          go_wp2_with (first | (go_at_call 7; refine (has_any _ _ _ hxb hr).mono ?_; rintro e w' ⟨rfl, hw⟩; rw [hw]; clear hw) | (at_builtin; refine wpList_append_own _ rfl (.tmp 36) (.tmp 38) 22 rfl w.heap.size 21 i0 (.int .i32 0) 1 4 Try.underlying22 hi hz0 hz1 hz2 rfl (by decide) _ _ _ rfl (World.ownsRow.alloc HO.out _) ⟨wr.heap.size, 0, none⟩ 1 1 [.int .i32 (id : Int)] rfl rfl (cell_one_new _ _ _) (by intro u hu; simp at hu; subst hu; rfl) (by have := HL.out; unfold maxLen; omega) (by have := HL.out; omega) (by have := HB.out.size; simp; omega) ?_; intro v' w1 hown1 hgrow1 _; have R1 : Hid _ := hown1; have R2 : Hid _ := hgrow1; clear hown1 hgrow1))
          go_roundw
          case rel => exact ⟨k + 1, by omega, by go_num, rel_keep hkl HI.out hkp.out R1.out, below_append HB.out (HB.out.size) HO.out R2.out⟩
          case measure => simp [intOf]; omega
    · go_wp2
      go_ret
      have ek : ps.take k = ps := List.take_of_length_le (by have := HN.out; omega)
      rw [ek] at HO
      exact ⟨_, rfl, HO.out, HB.out⟩
end Go.Proofs.Qxb6609375a
