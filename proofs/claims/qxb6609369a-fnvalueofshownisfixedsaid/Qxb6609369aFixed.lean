/-
  THE PLAIN LAW and THE WALK of FnValueOfShownIsFixed.
-/
import Derived.Test.Qxb6609369aZZ
import Derived.Deep.QuietTactic
import Derived.BigQuiet
namespace Go.Proofs.Qxb6609369a
open Go.RowKit

theorem shown_shown (s : ByteArray) : shown (shown s) = shown s := by
  have k : ∀ t : ByteArray, isShown t = false → shown t = t := shown_not
  have h1 : shown sArgv = sArgv := k _ (by decide)
  have h2 : shown sArgvAll = sArgvAll := k _ (by decide)
  have h3 : shown sAt = sAt := by
    unfold shown
    rw [if_pos (by decide), if_neg (by decide)]
  have h4 : shown sStar = sStar := by
    unfold shown
    rw [if_neg (by decide), if_pos (by decide), if_neg (by decide)]
  cases h : isShown s
  · rw [k s h, k s h]
  · obtain ⟨u, hu⟩ : ∃ u, shown s = u := ⟨_, rfl⟩
    rw [hu]
    have : u = sArgv ∨ u = sAt ∨ u = sArgvAll ∨ u = sStar := by
      subst hu
      unfold isShown at h
      unfold shown
      cases h5 : at0 s
      · rw [h5] at h
        simp at h
        rw [if_neg (by simp), if_pos h]
        split
        · exact .inr (.inr (.inl rfl))
        · exact .inr (.inr (.inr rfl))
      · rw [if_pos rfl]
        split
        · exact .inl rfl
        · exact .inr (.inl rfl)
    rcases this with rfl | rfl | rfl | rfl <;> assumption

theorem shown_size12 (s : ByteArray) : (shown s).size ≤ s.size + 12 := by
  have h1 : sArgv.size = 9 := by decide
  have h2 : sAt.size = 1 := by decide
  have h3 : sArgvAll.size = 12 := by decide
  have h4 : sStar.size = 1 := by decide
  unfold shown
  split
  · split <;> omega
  · split
    · split <;> omega
    · omega

/-- A dollar sign and a name: its size, its first byte, the name behind it. -/
theorem dollar_size (u : ByteArray) : (⟨#[36]⟩ ++ u : ByteArray).size = u.size + 1 := by
  rw [ByteArray.size_append]
  show 1 + u.size = _
  omega
theorem dollar_tail (u : ByteArray) : (⟨#[36]⟩ ++ u : ByteArray).extract 1 ((⟨#[36]⟩ ++ u : ByteArray).size) = u := by
  rw [Lib.extract_eq, dollar_size]
  have h : ((List.drop 1 (⟨#[36]⟩ ++ u : ByteArray).data.toList).take (u.size + 1 - 1)) = u.data.toList := by
    have e : (⟨#[36]⟩ ++ u : ByteArray).data.toList = 36 :: u.data.toList := by simp
    rw [e, List.drop_one, List.tail_cons, Lib.size_eq]
    exact List.take_of_length_le (by omega)
  rw [h, Lib.mk_data]
theorem dollar_head (u : ByteArray) (h : 0 < (⟨#[36]⟩ ++ u : ByteArray).size) : (⟨#[36]⟩ ++ u : ByteArray)[0] = 36 := by
  exact ByteArray.getElem_append_left (a := ⟨#[36]⟩) (b := u) (i := 0) (by decide)

theorem bytes11_yes (s : ByteArray) (w : World) (hs : s.size ≤ 1048576) :
    Calls Try.prog 11 #[.string s] w fun e w' => e = .returned (.bool true) ∧ w' = w := by
  go_enter Try.func11, Try.ntmps11
  go_wp2
  go_ret
  exact ⟨rfl, rfl⟩
theorem bytes11_no (s : ByteArray) (w : World) (hs : 1048576 < s.size) :
    Calls Try.prog 11 #[.string s] w fun e w' => e = .returned (.bool false) ∧ w' = w := by
  go_enter Try.func11, Try.ntmps11
  go_wp2
  go_ret
  exact ⟨rfl, rfl⟩

theorem fixed_no (s : ByteArray) (w : World) (hs : 1048576 < s.size) :
    Calls Try.prog 5 #[.string s] w fun e w' => e = .returned (.bool true) ∧ Below w.heap.size w w' := by
  go_enter Try.func5, Try.ntmps5
  go_wp2_with (go_at_call 11; refine (bytes11_no _ _ hs).mono ?_; rintro e w' ⟨rfl, rfl⟩)
  go_ret
  exact ⟨rfl, Below.refl _ _⟩

theorem below_end {w w1 w2 : World} {o : Obj} (h1 : Below w.heap.size w w1) (h2 : Below (w1.alloc o).heap.size (w1.alloc o) w2) (o2 : Obj) (n : Nat) : Below w.heap.size w ((w2.alloc o2).drewN n) := by
  have hs := h1.size
  have hs2 := h2.size
  have e : (w1.alloc o).heap.size = w1.heap.size + 1 := by simp
  have := ((h1.alloc hs o).trans (h2.mono (by omega))).alloc (by omega) o2
  exact below_drewN this n
set_option maxHeartbeats 1000000 in
theorem fixed_yes (s : ByteArray) (w : World) (hs : s.size ≤ 1048576) :
    Calls Try.prog 5 #[.string s] w fun e w' => e = .returned (.bool true) ∧ Below w.heap.size w w' := by
  have hv : ∀ w, Calls Try.prog 10 #[.string s] w fun e w' => e = .returned (.agg (argCells (⟨#[36]⟩ ++ shown s) s)) ∧ Below w.heap.size w w' := fun w => zzValueOf_any s w (by omega)
  have hq := shown_size12 s
  have hv2 : ∀ w, Calls Try.prog 10 #[.string ((⟨#[36]⟩ ++ shown s : ByteArray).extract 1 ((⟨#[36]⟩ ++ shown s : ByteArray).size))] w fun e w' => e = .returned (.agg (argCells (⟨#[36]⟩ ++ shown s) ((⟨#[36]⟩ ++ shown s : ByteArray).extract 1 ((⟨#[36]⟩ ++ shown s : ByteArray).size)))) ∧ Below w.heap.size w w' := fun w => by
    rw [dollar_tail]
    by_cases h : isShown s
    · have := zzValueOf_any (shown s) w (by omega)
      rwa [shown_shown] at this
    · rw [shown_not s (by simpa using h)]
      have := zzValueOf_any s w (by omega)
      rwa [shown_not s (by simpa using h)] at this
  have hz := dollar_size (shown s)
  have h0 := dollar_head (shown s)
  obtain ⟨T, eT⟩ : ∃ t : ByteArray, (⟨#[36]⟩ ++ shown s : ByteArray) = t := ⟨_, rfl⟩
  rw [eT] at hv hv2 hz h0
  clear eT
  have HV : Hid _ := hv
  have HV2 : Hid _ := hv2
  have hpos : 0 < T.size := by omega
  have hmax : T.size ≤ 1048700 := by omega
  have hne : ((T.size : Int) == 0) = false := by rw [beq_eq_false_iff_ne]; omega
  clear hv hv2 hz hq
  have c0 : ∀ a b, (argCells a b)[0]? = some (.string a) := fun _ _ => rfl
  have c8 : ∀ a b, (argCells a b)[8]? = some (.string b) := fun _ _ => rfl
  go_enter Try.func5, Try.ntmps5
  go_wp2_with (first | (go_at_call 11; refine (bytes11_yes _ _ hs).mono ?_; rintro e w' ⟨rfl, rfl⟩))
  refine (HV.out _).mono ?_
  rintro e w1 ⟨rfl, hb1⟩
  go_wp2_with (refine wpList_store_row rfl 27 (.tmp 3) (.tmp 12) rfl w1.heap.size (argCells T s) rfl rfl 27 _ (heap_alloc_new _ _) (size27 _ _) rfl (argCells_one _ _) ?_; rw [World.setRow_alloc_new])
  refine (HV2.out _).mono ?_
  rintro e w2 ⟨rfl, hb2⟩
  have hlt : w1.heap.size < w2.heap.size := by have := hb2.size; simp at this; omega
  have k0 : w2.cell? ⟨w1.heap.size, 0, none⟩ = some (.string T) := by rw [hb2.cell (by simp)]; simp [c0]
  have hbel := below_end hb1 hb2
  have HB : Hid _ := hbel
  clear hbel hb1 hb2
  go_wp2_with (refine wpList_store_row rfl 27 (.tmp 4) (.tmp 30) rfl w2.heap.size (argCells T (T.extract 1 T.size)) rfl rfl 27 _ (heap_alloc_new _ _) (size27 _ _) rfl (argCells_one _ _) ?_; rw [World.setRow_alloc_new])
  have hI : (1 : Int) ≤ (T.size : Int) := by omega
  go_quiet (fail)
  go_wp2
  go_ret
  exact ⟨rfl, HB.out _ _⟩
end Go.Proofs.Qxb6609369a
