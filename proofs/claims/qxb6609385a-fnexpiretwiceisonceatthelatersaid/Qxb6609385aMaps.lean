/-
  LAWS on maps whose keys are strings, the elements whatever: what a map block reads as: a function from keys to values.
-/
import Derived.Test.Qxb6609385aRows
import Derived.WalkKit
import Derived.WalkSpells
import Derived.WalkLawsBesides
import Derived.ProofKit
namespace Go.Proofs.Qxb6609385a
open Go.RowKit Go.MapKept
set_option linter.unusedVariables false

/-- block b is a map of n entries with string keys that reads as g. -/
def MapIs (w : World) (b n : Nat) (g : ByteArray → Option Value) : Prop :=
  ∃ es clock, w.heap[b]? = some (.map es clock) ∧ es.size = n ∧ Stamped es clock ∧ (∀ x ∈ es.toList, ∃ k, x.key = .string k ∧ g k = some x.val) ∧ ∀ k v, g k = some v → ∃ x ∈ es.toList, x.key = .string k

theorem mapIs_new (w : World) : MapIs (w.alloc (.map #[] 0)) w.heap.size 0 (fun _ => none) := by
  refine ⟨#[], 0, heap_alloc_new _ _, rfl, ⟨by simp, by simp, by simp⟩, by simp, fun k v h => by cases h⟩
theorem MapIs.of_block {w w' : World} {b n : Nat} {g : ByteArray → Option Value} (h : MapIs w b n g) (e : w'.heap[b]? = w.heap[b]?) : MapIs w' b n g := by
  obtain ⟨es, clock, hb, r⟩ := h
  exact ⟨es, clock, e.trans hb, r⟩
theorem MapIs.lt {w : World} {b n : Nat} {g : ByteArray → Option Value} (h : MapIs w b n g) : b < w.heap.size := by
  obtain ⟨es, clock, hb, r⟩ := h
  exact (Array.getElem?_eq_some_iff.1 hb).1
theorem MapIs.congr {w : World} {b n : Nat} {g g' : ByteArray → Option Value} (h : MapIs w b n g) (e : ∀ k, g k = g' k) : MapIs w b n g' := by
  have : g = g' := funext e
  rw [← this]
  exact h
theorem MapIs.keys {es : Array MapEntry} {g : ByteArray → Option Value} (h : ∀ x ∈ es.toList, ∃ k, x.key = .string k ∧ g k = some x.val) : ∀ x ∈ es.toList, IsKey .string x.key := by
  intro x hx
  obtain ⟨k, hk, _⟩ := h x hx
  rw [hk]
  trivial
theorem key_inj {a b : ByteArray} (h : Value.string a = .string b) : a = b := by injection h

/-- what a store leaves: the map reads as before but at the key; nothing else turns. -/
structure Put (w w' : World) (b : Nat) : Prop where
  os : w'.os = w.os
  tape : w'.tape = w.tape
  output : w'.output = w.output
  size : w'.heap.size = w.heap.size
  block : ∀ i, i ≠ b → w'.heap[i]? = w.heap[i]?

theorem Put.below {w w' : World} {b B : Nat} (h : Put w w' b) (hb : B ≤ b) : Below B w w' :=
  ⟨h.os, h.tape, h.output, by rw [h.size]; exact Nat.le_refl _, fun k hk => h.block k (by omega)⟩

open Classical in
theorem run_put {P : Program} {w : World} {t kt et : TypeId} (ht : P.underlying t = some (.map kt et)) (hk : P.underlying kt = some .string) {b n : Nat} {g : ByteArray → Option Value} (h : MapIs w b n g) (k : ByteArray) (v : Value) :
    ∃ w', (Instr.mapUpdate t (.map (some b)) (.string k) v).run P w = .ok () w' ∧ MapIs w' b (if g k = none then n + 1 else n) (fun x => if x = k then some v else g x) ∧ Put w w' b := by
  obtain ⟨es, clock, hb, hn, hs, h1, h2⟩ := h
  have hkey : IsKey .string (.string k) := trivial
  rcases findNow_spec hkey es.toList 0 (MapIs.keys h1) with ⟨f1, f2⟩ | ⟨j, e0, f1, f2, f3⟩
  · have hg : g k = none := by
      cases hgk : g k with
      | none => rfl
      | some u =>
        obtain ⟨x, hx, hxk⟩ := h2 k u hgk
        exact absurd hxk (f2 x hx)
    refine ⟨{ w with heap := w.heap.setIfInBounds b (.map (es.push ⟨.string k, v, clock⟩) (clock + 1)) }, ?_, ⟨es.push ⟨.string k, v, clock⟩, clock + 1, (heap_set hb).1, by rw [if_pos hg]; simp [hn], stamped_push hs f2, ?_, ?_⟩, ⟨rfl, rfl, rfl, by simp, fun i hi => (heap_set hb).2 i hi⟩⟩
    · simp [Instr.mapUpdate, run_underlying ht, MapKept.run_getObj_map hb, run_checkKey hk hkey, run_findKey hk f1, MapKept.run_setObj_map _ hb, Result.andThen]
    · intro x hx
      simp only [Array.toList_push, List.mem_append, List.mem_singleton] at hx
      rcases hx with hx | rfl
      · obtain ⟨kx, e1, e2⟩ := h1 x hx
        refine ⟨kx, e1, ?_⟩
        have hne : kx ≠ k := fun e => f2 x hx (by rw [e1, e])
        show (if kx = k then some v else g kx) = _
        rw [if_neg hne]
        exact e2
      · exact ⟨k, rfl, if_pos rfl⟩
    · intro kx u hu
      by_cases e : kx = k
      · subst e
        exact ⟨⟨.string kx, v, clock⟩, by simp, rfl⟩
      · simp only [if_neg e] at hu
        obtain ⟨x, hx, hxk⟩ := h2 kx u hu
        exact ⟨x, by simp [hx], hxk⟩
  · have hj : es[j]? = some e0 := by simpa using f2
    have hm0 : e0 ∈ es.toList := List.mem_of_getElem? f2
    obtain ⟨k0, e1, e2⟩ := h1 e0 hm0
    have ek : k0 = k := key_inj (e1.symm.trans f3)
    rw [ek] at e2
    have hg : ¬ g k = none := by rw [e2]; simp
    have hkeyf : ∀ e' ∈ es.toList, es[j]? = some e' → ({ e' with key := .string k, val := v } : MapEntry).key = e'.key := fun e' _ he' => by rw [hj] at he'; cases he'; exact f3.symm
    refine ⟨{ w with heap := w.heap.setIfInBounds b (.map (es.modify j (fun e' => { e' with key := .string k, val := v })) clock) }, ?_, ⟨es.modify j (fun e' => { e' with key := .string k, val := v }), clock, (heap_set hb).1, by rw [if_neg hg]; simpa using hn, stamped_modify hs _ _ (fun _ _ => rfl) hkeyf, ?_, ?_⟩, ⟨rfl, rfl, rfl, by simp, fun i hi => (heap_set hb).2 i hi⟩⟩
    · simp [Instr.mapUpdate, run_underlying ht, MapKept.run_getObj_map hb, run_checkKey hk hkey, run_findKey hk f1, hj, f3, run_keyThatStays hkey, MapKept.run_setObj_map _ hb, Result.andThen]
    · intro x hx
      rw [Array.mem_toList_iff, Array.mem_iff_getElem?] at hx
      obtain ⟨i, hi⟩ := hx
      rw [Array.getElem?_modify] at hi
      by_cases e : j = i
      · subst e
        rw [if_pos rfl, hj] at hi
        cases hi
        exact ⟨k, rfl, if_pos rfl⟩
      · rw [if_neg e] at hi
        have hx : x ∈ es.toList := by rw [Array.mem_toList_iff, Array.mem_iff_getElem?]; exact ⟨i, hi⟩
        obtain ⟨kx, q1, q2⟩ := h1 x hx
        refine ⟨kx, q1, ?_⟩
        have hne : kx ≠ k := by
          intro ee
          have hnd := hs.2.2
          have hi' : (es.toList.map (·.key))[i]? = some x.key := by simp [hi]
          have hj' : (es.toList.map (·.key))[j]? = some e0.key := by simp [hj]
          have hjl : j < (es.toList.map (·.key)).length := (List.getElem?_eq_some_iff.1 hj').1
          have hil : i < (es.toList.map (·.key)).length := (List.getElem?_eq_some_iff.1 hi').1
          apply e
          refine (List.getElem?_inj hjl hnd).1 ?_
          rw [hj', hi', f3, q1, ee]
        show (if kx = k then some v else g kx) = _
        rw [if_neg hne]
        exact q2
    · intro kx u hu
      by_cases e : kx = k
      · subst e
        refine ⟨{ e0 with key := .string kx, val := v }, ?_, rfl⟩
        rw [Array.mem_toList_iff, Array.mem_iff_getElem?]
        exact ⟨j, by rw [Array.getElem?_modify, if_pos rfl, hj]; rfl⟩
      · simp only [if_neg e] at hu
        obtain ⟨x, hx, hxk⟩ := h2 kx u hu
        refine ⟨x, ?_, hxk⟩
        rw [Array.mem_toList_iff, Array.mem_iff_getElem?] at hx ⊢
        obtain ⟨i, hi⟩ := hx
        refine ⟨i, ?_⟩
        rw [Array.getElem?_modify]
        by_cases ee : j = i
        · subst ee
          rw [hj] at hi
          cases hi
          exact absurd (key_inj (hxk.symm.trans f3)) e
        · rw [if_neg ee]
          exact hi

theorem run_get {P : Program} {w : World} {t kt et : TypeId} (ht : P.underlying t = some (.map kt et)) (hk : P.underlying kt = some .string) {z : Value} (hz : (zeroValue et).run P w = .ok z w)
    {b n : Nat} {g : ByteArray → Option Value} (h : MapIs w b n g) (k : ByteArray) (c : Bool) :
    (Instr.lookup t (.map (some b)) (.string k) c).run P w = .ok (if c then .tuple #[(g k).getD z, .bool (g k).isSome] else (g k).getD z) w := by
  obtain ⟨es, clock, hb, hn, hs, h1, h2⟩ := h
  have hkey : IsKey .string (.string k) := trivial
  rcases findNow_spec hkey es.toList 0 (MapIs.keys h1) with ⟨f1, f2⟩ | ⟨j, e0, f1, f2, f3⟩
  · have hg : g k = none := by
      cases hgk : g k with
      | none => rfl
      | some u =>
        obtain ⟨x, hx, hxk⟩ := h2 k u hgk
        exact absurd hxk (f2 x hx)
    simp [Instr.lookup, run_underlying ht, MapKept.run_getObj_map hb, run_checkKey hk hkey, run_findKey hk f1, Result.andThen, hz, hg]
  · have hm0 : e0 ∈ es.toList := List.mem_of_getElem? f2
    obtain ⟨k0, e1, e2⟩ := h1 e0 hm0
    have ek : k0 = k := key_inj (e1.symm.trans f3)
    rw [ek] at e2
    simp [Instr.lookup, run_underlying ht, MapKept.run_getObj_map hb, run_checkKey hk hkey, run_findKey hk f1, Result.andThen, e2]
theorem run_mapLen {P : Program} {w : World} {t kt et ty : TypeId} (ht : P.underlying t = some (.map kt et)) {b n : Nat} {g : ByteArray → Option Value} (h : MapIs w b n g) :
    (Builtin.len_ #[t] ty #[.map (some b)]).run P w = .ok (goInt n) w := by
  obtain ⟨es, clock, hb, hn, hs, h1, h2⟩ := h
  simp [Builtin.len_, run_underlying ht, MapKept.run_getObj_map hb, Result.andThen, hn]
end Go.Proofs.Qxb6609385a
