/-
  FnValueOfTable: the struct's equality with itself, and the walk.
-/
import Derived.Test.Qxb6609369aEnds
import Derived.Deep.RegionHeld
namespace Go.Proofs.Qxb6609369a
open Go.RowKit
theorem eqf_cons {P : Program} {w : World} {d : Nat} {xs : Array Value} {f : Field} {fs : List Field} (v : Value) (hp : (part f.type xs f.offset).run P w = .ok v w) (he : (Op.equalIn d f.type v v).run P w = .ok true w)
    (h : (Op.eqFields d xs xs fs).run P w = .ok true w) : (Op.eqFields d xs xs (f :: fs)).run P w = .ok true w := by
  unfold Op.eqFields
  split
  · simp [hp, he, h]
  · exact h
theorem part_one (t : TypeId) (xs : Array Value) (off : Nat) (v : Value) (w : World) (ha : (isAgg t).run Try.prog w = .ok false w) (h : xs[off]? = some v) : (part t xs off).run Try.prog w = .ok v w := by
  simp [part, ha, h]
theorem agg9 (w : World) : (isAgg 9).run Try.prog w = .ok false w := by go_simp
theorem agg4 (w : World) : (isAgg 4).run Try.prog w = .ok false w := by go_simp
theorem agg3 (w : World) : (isAgg 3).run Try.prog w = .ok false w := by go_simp
theorem self9 (d : Nat) (a : ByteArray) (w : World) : (Op.equalIn (d + 1) 9 (.string a) (.string a)).run Try.prog w = .ok true w := by
  rw [run_equalIn_string w d 9 a a Try.underlying9]; simp
theorem self4 (d : Nat) (a : Bool) (w : World) : (Op.equalIn (d + 1) 4 (.bool a) (.bool a)).run Try.prog w = .ok true w := by
  rw [run_equalIn_bool' w d 4 a a Try.underlying4]; simp
theorem self3 (d : Nat) (k : IntKind) (a : Int) (w : World) : (Op.equalIn (d + 1) 3 (.int k a) (.int k a)).run Try.prog w = .ok true w := by
  rw [run_equalIn_int w d 3 k _ a a Try.underlying3]; simp
set_option maxHeartbeats 1000000 in
theorem eqFieldsZ (T s : ByteArray) (w : World) (d : Nat) : (Op.eqFields (d + 1) (argCells T s) (argCells T s) (Try.prog.fieldsOf 27).toList).run Try.prog w = .ok true w := by
  have e : (Try.prog.fieldsOf 27).toList = (match Try.prog.underlying 27 with | some (.struct fs) => fs | _ => #[]).toList := rfl
  rw [e, Try.underlying27]
  simp only []
  repeat (first | exact rfl | refine eqf_cons _ (part_one 9 _ _ _ w (agg9 w) rfl) (self9 _ _ w) ?_ | refine eqf_cons _ (part_one 4 _ _ _ w (agg4 w) rfl) (self4 _ _ w) ?_ | refine eqf_cons _ (part_one 3 _ _ _ w (agg3 w) rfl) (self3 _ _ _ w) ?_)
theorem eqlZ (T s : ByteArray) (w : World) : (binOp .eql 27 (.agg (argCells T s)) (.agg (argCells T s))).run Try.prog w = .ok (.bool true) w := by
  rw [run_eql_struct, run_equalIn_struct w 9999 27 _ _ (by kernel_rfl) (by kernel_rfl), eqFieldsZ T s w 9998]
  rfl

theorem guardZ (x y : Operand) (T s : ByteArray) (w : World) : (eqGuard .eql 27 x y (.agg (argCells T s)) (.agg (argCells T s))).run Try.prog w = .ok () w :=
  run_eqGuard_agg (P := Try.prog) w .eql 27 x y _ _ (by kernel_rfl)
theorem exec_eqlZ (ρ : Operand → Value) (o : Oper) (x y : Operand) (ho : o.op = .binOp .eql 27 x y 27) (T s : ByteArray) (hx : ρ x = .agg (argCells T s)) (hy : ρ y = .agg (argCells T s)) (w : World) :
    (execOp ρ o).run Try.prog w = .ok (.value (.bool true)) w := by
  unfold execOp
  simp only [ho, hx, hy, Sem.run_bind, Sem.run_pure, Result.andThen_ok, guardZ, eqlZ]

theorem bytes8_yes (s : ByteArray) (w : World) (hs : s.size ≤ 1048576) :
    Calls Try.prog 8 #[.string s] w fun e w' => e = .returned (.bool true) ∧ w' = w := by
  go_enter Try.func8, Try.ntmps8
  go_wp2
  go_ret
  exact ⟨rfl, rfl⟩
theorem bytes8_no (s : ByteArray) (w : World) (hs : 1048576 < s.size) :
    Calls Try.prog 8 #[.string s] w fun e w' => e = .returned (.bool false) ∧ w' = w := by
  go_enter Try.func8, Try.ntmps8
  go_wp2
  go_ret
  exact ⟨rfl, rfl⟩
theorem table_no (s : ByteArray) (w : World) (hs : 1048576 < s.size) :
    Calls Try.prog 4 #[.string s] w fun e w' => e = .returned (.bool true) ∧ Below w.heap.size w w' := by
  go_enter Try.func4, Try.ntmps4
  go_wp2_with (go_at_call 8; refine (bytes8_no _ _ hs).mono ?_; rintro e w' ⟨rfl, rfl⟩)
  go_ret
  exact ⟨rfl, Below.refl _ _⟩

theorem yieldsIf_load_row {P : Program} {ops : Array Oper} {S : World → Prop} {o : Oper} {a : Act} (hw : Region.wanted o (yielded ops a.tmps) = true) (ty : TypeId) (x : Operand) (ho : o.op = .load ty x)
    (g : Nat) (hx : a.eval x = .pointer (some ⟨g, 0, none⟩)) (t : TypeId) (cs : Array Value) (fr : Nat × Nat) (d : TypeDesc) (hS : ∀ w, S w → w.heap[g]? = some (.cells cs t fr))
    (hu : P.underlying ty = some d) (hd : (match d with | .struct _ | .array _ _ => true | _ => false) = true) (hi : (P.info? ty).map (·.size) = some cs.size) : YieldsIf P ops S o (.agg cs) a :=
  .inl ⟨hw, fun w hw' => by
    unfold execOp
    simp only [ho, hx, Instr.loadAt, Instr.sureAddr, Sem.run_bind, Sem.run_pure, Result.andThen_ok, run_loadVar_row w g t ty cs fr d (hS w hw') hu hd hi]⟩
theorem below_end2 {w w1 w2 : World} {o : Obj} (h1 : Below w.heap.size w w1) (h2 : Below (w1.alloc o).drew.heap.size (w1.alloc o).drew w2) : Below w.heap.size w w2 := by
  have hs := h1.size
  have hs2 := h2.size
  have e : (w1.alloc o).drew.heap.size = w1.heap.size + 1 := by simp
  exact ((h1.alloc hs o).drew).trans (h2.mono (by omega))
set_option linter.unusedSimpArgs false in
set_option maxHeartbeats 1000000 in
theorem table_yes (s : ByteArray) (w : World) (hs : s.size ≤ 1048576) :
    Calls Try.prog 4 #[.string s] w fun e w' => e = .returned (.bool true) ∧ Below w.heap.size w w' := by
  have hv : ∀ w, Calls Try.prog 10 #[.string s] w fun e w' => e = .returned (.agg (argCells (⟨#[36]⟩ ++ shown s) s)) ∧ Below w.heap.size w w' := fun w => zzValueOf_any s w (by omega)
  have hz : ∀ w, Calls Try.prog 9 #[.string s] w fun e w' => e = .returned (.string (shown s)) ∧ Below w.heap.size w w' := fun w => by
    refine (zzShown_any s w (by omega)).mono ?_
    rintro e w' ⟨rfl, n, rfl⟩
    exact ⟨rfl, below_drewN (Below.refl _ _) n⟩
  have hq := shown_size s
  obtain ⟨u, eu⟩ : ∃ u, shown s = u := ⟨_, rfl⟩
  rw [eu] at hv hz hq
  clear eu
  have HV : Hid _ := hv
  have HZ : Hid _ := hz
  clear hv hz
  go_enter Try.func4, Try.ntmps4
  go_wp2_with (first | (go_at_call 8; refine (bytes8_yes _ _ hs).mono ?_; rintro e w' ⟨rfl, hw⟩; rw [hw]; clear hw) | (go_at_call 9; refine (HZ.out _).mono ?_; rintro e w1 ⟨rfl, hb1⟩) | (refine wpList_store_row rfl 27 (.tmp 3) (.tmp 14) rfl w1.heap.size (argCells (⟨#[36]⟩ ++ u) s) rfl rfl 27 _ (heap_alloc_new _ _) (size27 _ _) rfl (argCells_one _ _) ?_; rw [World.setRow_alloc_new]))
  obtain ⟨T, eT⟩ : ∃ t : ByteArray, (⟨#[36]⟩ ++ u : ByteArray) = t := ⟨_, rfl⟩
  rw [eT] at HV ⊢
  clear eT hq
  have HB : Hid _ := hb1
  clear hb1
  refine wp_region_held_drew (S := fun w' => w'.heap[w1.heap.size]? = some (.cells (argCells T s) 27 (0, 0))) (by kernel_rfl) (heap_alloc_new _ _) (fun hHeld => ?_)
  refine wpAnyH_take (i := 0) (v := .string s) rfl (by kernel_rfl) (by kernel_rfl) (by kernel_rfl) (fun _ _ _ h => h) (Or.inl ⟨by rfl, fun _ _ => by go_simp⟩) hHeld ?_
  simp only [List.getElem_toArray, List.getElem_cons_zero, List.getElem_cons_succ, Act.put, List.setIfInBounds_toArray, List.set_cons_zero, List.set_cons_succ]
  refine wpAnyH_take (i := 2) (v := .agg (argCells T s)) rfl (by kernel_rfl) (by kernel_rfl) (by kernel_rfl) (fun _ _ _ h => h) (yieldsIf_load_row (by rfl) 27 (.tmp 3) rfl w1.heap.size rfl 27 _ (0, 0) _ (fun _ h => h) Try.underlying27 rfl (size27 _ _)) hHeld ?_
  simp only [List.getElem_toArray, List.getElem_cons_zero, List.getElem_cons_succ, Act.put, List.setIfInBounds_toArray, List.set_cons_zero, List.set_cons_succ]
  refine wpAnyH_ready (rs := [1]) (by kernel_rfl) (by simp) ?_
  refine AllReadyH.cons rfl (fun K hK => ?_) AllReadyH.nil
  go_simp
  refine (HV.out _).mono ?_
  rintro e w2 ⟨rfl, hb2⟩
  refine hK.out _ _ ?_ (fun hHeld2 => ?_)
  · show w2.heap[w1.heap.size]? = _
    rw [hb2.block _ (by simp)]
    exact hHeld
  clear hK K hHeld
  refine wpAnyH_take (i := 3) (v := .bool true) rfl (by kernel_rfl) (by kernel_rfl) (by kernel_rfl) (fun _ _ _ h => h) (Or.inl ⟨by rfl, fun w _ => ?_⟩) hHeld2 ?_
  · exact exec_eqlZ _ _ (.tmp 16) (.tmp 17) rfl T s rfl rfl w
  simp only [List.getElem_toArray, List.getElem_cons_zero, List.getElem_cons_succ, Act.put, List.setIfInBounds_toArray, List.set_cons_zero, List.set_cons_succ]
  refine wpAnyH_take (i := 4) (v := .bool true) rfl (by kernel_rfl) (by kernel_rfl) (by kernel_rfl) (fun _ _ _ h => h) (Or.inl ⟨by rfl, fun _ _ => by go_simp⟩) hHeld2 ?_
  simp only [List.getElem_toArray, List.getElem_cons_zero, List.getElem_cons_succ, Act.put, List.setIfInBounds_toArray, List.set_cons_zero, List.set_cons_succ]
  refine wpAnyH_done (by kernel_rfl) ?_ _
  go_wp2
  go_ret
  exact ⟨rfl, below_end2 HB.out hb2⟩
end Go.Proofs.Qxb6609369a
