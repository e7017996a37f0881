/-
  WALKS: buildMap.
-/
import Derived.Test.Qxb6609459aMap
namespace Go.Proofs.Qxb6609459a
open Go.RowKit
set_option linter.unusedVariables false
set_option maxRecDepth 100000

/-- append onto a row of the call's own, as one step of a region that draws. -/
theorem step_append_own {P : Program} {ops : Array Oper} {o : Oper} {a : Act} {w : World} {K : Act → World → Prop} {Q : Exit → Act → World → Prop} {E : Prop} (hg : o.guard = none) (s x : Operand) (t : TypeId)
    (ho : o.op = .call { callee := .builtin .append, args := #[s, x], argTypes := #[t, t] })
    (base : Nat) (e : TypeId) (i : TypeInfo) (z : Value) (size bytes : Nat) (ht : P.underlying t = some (.slice e)) (hi : P.info? e = some i) (hz : i.zero = some z)
    (hsize : i.size = size) (hby : i.bytes = bytes) (hzs : z.cells.size = size) (hsz : 0 < size)
    (v : Value) (n : Nat) (xs : List Value) (hs : a.eval s = v) (hown : w.ownsRow base e size v n xs)
    (ad : Addr) (m c : Nat) (news : List Value) (hx : a.eval x = .slice (some ad) m c) (hl : news.length = m * size) (hnews : ∀ j u, news[j]? = some u → w.cell? (ad.add j) = some u) (h1 : ∀ u ∈ news, u.oneCell' = true)
    (h63 : n + m ≤ maxLen) (hbytes : (n + m) * bytes ≤ 140737488355328) (hbase : base ≤ w.heap.size)
    (h : ∀ v' w', w'.ownsRow base e size v' (n + m) (xs ++ news) → w.grownBy w' v.ownBlock → (v' = .slice none 0 0 ↔ v = .slice none 0 0 ∧ m = 0) → K (a.put o.dst v') w') :
    if Region.wanted o (yielded ops a.tmps) = true then Oper.wp P o a w K Q else E := by
  rw [if_pos (by simp [Region.wanted, hg])]
  exact wp_append_own w s x t ho base e i z size bytes ht hi hz hsize hby hzs hsz v n xs hs hown ad m c news hx hl hnews h1 h63 hbytes hbase h

/-- the map's cells: the first k entries. -/
def ents (key : Nat → ByteArray) (val : Nat → Int) : Nat → List Value
  | 0 => []
  | k + 1 => ents key val k ++ [.iface 9 (.string (key k)), .iface 2 (.int .i64 (val k))]
theorem ents_length (key : Nat → ByteArray) (val : Nat → Int) : ∀ k, (ents key val k).length = k * 2
  | 0 => rfl
  | k + 1 => by rw [ents, List.length_append, ents_length key val k]; simp; omega
theorem ents_get (key : Nat → ByteArray) (val : Nat → Int) {j : Nat} : ∀ n, j < n → (ents key val n)[j * 2]? = some (.iface 9 (.string (key j))) ∧ (ents key val n)[j * 2 + 1]? = some (.iface 2 (.int .i64 (val j)))
  | 0, h => by omega
  | n + 1, h => by
    by_cases e : j = n
    · subst e
      rw [ents, List.getElem?_append_right (by rw [ents_length]; omega), List.getElem?_append_right (by rw [ents_length]; omega), ents_length]
      constructor
      · simp
      · rw [show j * 2 + 1 - j * 2 = 1 by omega]; rfl
    · obtain ⟨h1, h2⟩ := ents_get (j := j) key val n (by omega)
      have hl := ents_length key val n
      rw [ents]
      exact ⟨(List.getElem?_append_left (show j * 2 < _ by omega)).trans h1, (List.getElem?_append_left (show j * 2 + 1 < _ by omega)).trans h2⟩
theorem cell_two_new (w : World) (x y : Value) (t : TypeId) : ∀ j u, [x, y][j]? = some u → (w.alloc (.cells #[x, y] t)).cell? ((⟨w.heap.size, 0, none⟩ : Addr).add j) = some u := by
  intro j u hu
  have e : (⟨w.heap.size, 0, none⟩ : Addr).add j = ⟨w.heap.size, j, none⟩ := by unfold Addr.add; split <;> simp_all
  rw [e, cell_of_row _ _ j #[x, y] t (0, 0) (heap_alloc_new _ _)]
  simpa using hu
theorem ownsRow_below {w w' : World} {B : Nat} {e : TypeId} {size : Nat} {v : Value} {n : Nat} {xs : List Value} (h : w.ownsRow B e size v n xs) (hb : Below w.heap.size w w') : w'.ownsRow B e size v n xs := by
  obtain ⟨h1, h2⟩ := h
  refine ⟨h1, ?_⟩
  rcases h2 with h2 | ⟨g, cap, cur, e1, e2, e3, e4⟩
  · exact .inl h2
  · exact .inr ⟨g, cap, cur, e1, e2, (hb.block g (Array.getElem?_eq_some_iff.1 e3).1).trans e3, e4⟩
theorem own_shape {B : Nat} {w : World} {e : TypeId} {size : Nat} {v : Value} {n : Nat} {xs : List Value} (h : w.ownsRow B e size v n xs) (hn : v ≠ .slice none 0 0) : ∃ g cap, v = .slice (some ⟨g, 0, none⟩) n cap := by
  rcases h.2 with ⟨h1, _⟩ | ⟨g, cap, cur, h1, _⟩
  · exact absurd h1 hn
  · exact ⟨g, cap, h1⟩
theorem below_drew {wr w1 : World} (hb1 : Below wr.drew.heap.size wr.drew w1) : Below wr.heap.size wr w1 := ⟨hb1.os, hb1.tape, hb1.output, hb1.size, hb1.block⟩
theorem build_below {B : Nat} {w wr w1 w2 : World} {o : Obj} {e : TypeId} {size : Nat} {v : Value} {n : Nat} {xs : List Value} (hb : Below B w wr) (hB : B ≤ wr.heap.size) (hb1 : Below wr.heap.size wr w1) (hown : wr.ownsRow B e size v n xs) (hg : (w1.alloc o).grownBy w2 v.ownBlock) : Below B w w2 := by
  have h1 : Below B w w1 := hb.trans (hb1.mono hB)
  have hs := hb1.size
  exact (h1.alloc (by omega) o).grown hg (by simp; omega) (fun k e => (hown.lt k e).1)

theorem build_nil (c : Nat) (w : World) : Calls Try.prog 15 #[.slice none 0 c] w fun e w' => e = .returned (.slice none 0 0) ∧ w' = w := by
  have h1 := eql36
  go_enter Try.func15, Try.ntmps15
  go_wp2
  go_ret
  exact ⟨rfl, rfl⟩

set_option maxHeartbeats 2000000 in
theorem build_some (x : Addr) (len c : Nat) (key : Nat → ByteArray) (val : Nat → Int) (w : World) (hn : len ≤ 1048576)
    (hc : 0 < len → ∃ b o, x = ⟨b, o, none⟩ ∧ ∀ j, j < len → w.cell? ⟨b, o + j * 2, none⟩ = some (.string (key j)) ∧ w.cell? ⟨b, o + j * 2 + 1, none⟩ = some (.int .i64 (val j))) :
    Calls Try.prog 15 #[.slice (some x) len c] w fun e w' => ∃ g cap, e = .returned (.slice (some ⟨g, 0, none⟩) len cap) ∧ w'.ownsRow w.heap.size 52 2 (.slice (some ⟨g, 0, none⟩) len cap) len (ents key val len) ∧ Below w.heap.size w w' := by
  have h1 := eql36
  obtain ⟨i0, hi, hz0, hz1, hz2⟩ := info_parts info52
  have HC := hide2 hc
  clear hc
  go_enter Try.func15, Try.ntmps15
  go_wp2_with (first | (at_make; refine wpList_make_own _ rfl _ _ 40 rfl w.heap.size 52 i0 (.agg #[.nilIface, .nilIface]) 2 Try.underlying40 hi hz0 hz1 .i64 .i64 _ len rfl rfl rfl (by rw [hz2]; omega) (by unfold maxLen; omega) (Nat.le_refl _) ?_; intro w1 hown hgrow; have HO1 := hide2 hown; have HG1 := hide2 hgrow; clear hown hgrow))
  go_loopw [3, 4] (fun v i wr => ∃ k : Nat, k ≤ len ∧ i = .int .i64 k ∧ v ≠ .slice none 0 0 ∧ wr.ownsRow w.heap.size 52 2 v k (ents key val k) ∧ Below w.heap.size w wr) (fun _ i _ => len - (intOf i).toNat)
  case atStart => exact ⟨0, Nat.zero_le _, rfl, by simp, HO1.out, (Below.refl _ _).grown HG1.out (Nat.le_refl _) (fun k e => by cases e)⟩
  case round =>
    obtain ⟨k, hk, rfl, hnn, hown, hbel⟩ := hrel
    by_cases hlt : k < len
    · obtain ⟨b, o, rfl, hc⟩ := HC.out (by omega)
      obtain ⟨y, hy⟩ : ∃ y, key k = y := ⟨_, rfl⟩
      obtain ⟨z, hz⟩ : ∃ z, val k = z := ⟨_, rfl⟩
      have d1 := cell_keeps hbel (hc k hlt).1
      have d2 := cell_keeps hbel (hc k hlt).2
      have hents : ents key val (k + 1) = ents key val k ++ [.iface 9 (.string y), .iface 2 (.int .i64 z)] := by rw [ents, hy, hz]
      rw [hy] at d1
      rw [hz] at d2
      have hsz := hbel.size
      have HADD := hide2 (entry_any y z wr.drew)
      have HOW : Hid (wr.ownsRow w.heap.size 52 2 u3 k (ents key val k)) := hown
      have HBE := hide2 hbel
      have HE := hide2 hents
      have hkn : (k : Int) < (len : Int) := by omega
      clear hc hown hbel hents hy hz hnn
      go_wp2_with fail
      go_region_law (first | (refine step_append_own rfl (.tmp 16) (.tmp 28) 40 rfl w.heap.size 52 i0 (.agg #[.nilIface, .nilIface]) 2 32 Try.underlying40 hi hz0 hz1 hz2 rfl (by decide) _ _ _ (by simp [Act.eval]) (World.ownsRow.alloc (ownsRow_below HOW.out HB1.out) _) ⟨w1.heap.size, 0, none⟩ 1 1 [.iface 9 (.string y), .iface 2 (.int .i64 z)] (by simp [Act.eval]) rfl (cell_two_new _ _ _ _) (by intro u hu; simp at hu; rcases hu with rfl | rfl <;> rfl) (by unfold maxLen; omega) (by omega) (by simp; omega) ?_; intro v' w2 hown2 hgrow2 hnil2; obtain ⟨g, cap, hv'⟩ := own_shape hown2 (fun e => absurd (hnil2.1 e).2 (by decide)); subst hv'; have R1 := hide2 hown2; have R2 := hide2 (build_below HBE.out HBE.out.size HB1.out HOW.out hgrow2); clear hown2 hgrow2 hnil2) | (go_simp; go_at_call 21; refine Calls.mono HADD.out ?_; rintro e w1 ⟨rfl, hb1⟩; have hsz1 : wr.heap.size ≤ w1.heap.size := hb1.size; have HB1 := hide2 (below_drew hb1); clear hb1))
      all_goals go_wp2
      all_goals go_roundw
      all_goals first | exact ⟨k + 1, by omega, by go_num, by simp, by rw [HE.out]; exact R1.out, R2.out⟩ | (simp [intOf]; omega)
    · have ek : k = len := by omega
      subst ek
      have HOW : Hid (wr.ownsRow w.heap.size 52 2 u3 k (ents key val k)) := hown
      have HBE := hide2 hbel
      have HNN := hide2 hnn
      clear hown hbel hnn
      go_wp2
      go_ret
      obtain ⟨g, cap, hv⟩ := own_shape HOW.out HNN.out
      subst hv
      exact ⟨g, cap, rfl, HOW.out, HBE.out⟩
end Go.Proofs.Qxb6609459a
