/-
  THE LAW FnMapSectionScriptKeepsPresentSectionsInOrder: its walk.
-/
import Derived.Test.Qxb6609459aSame
namespace Go.Proofs.Qxb6609459a
open Go.RowKit
set_option linter.unusedVariables false
set_option maxRecDepth 100000

/-- a section built: its map's block and capacity. -/
structure Bt where
  sec : Sec
  g : Nat
  cap : Nat
def Bt.val (b : Bt) : Value := descV b.sec.code (.slice (some ⟨b.g, 0, none⟩) b.sec.len b.cap)
def Bt.lies (B : Nat) (w : World) (b : Bt) : Prop := w.ownsRow B 52 2 (.slice (some ⟨b.g, 0, none⟩) b.sec.len b.cap) b.sec.len (ents b.sec.key b.sec.val b.sec.len)
/-- the sections below k that are there. -/
def present (S : Nat → Sec) : Nat → List Sec
  | 0 => []
  | k + 1 => if (S k).ad.isSome then present S k ++ [S k] else present S k
theorem present_hit {S : Nat → Sec} {k : Nat} (h : (S k).ad.isSome = true) : present S (k + 1) = present S k ++ [S k] := by rw [present, if_pos h]
theorem present_miss {S : Nat → Sec} {k : Nat} (h : (S k).ad = none) : present S (k + 1) = present S k := by rw [present, if_neg (by rw [h]; simp)]
theorem present_le (S : Nat → Sec) : ∀ k, (present S k).length ≤ k
  | 0 => Nat.le_refl _
  | k + 1 => by
    have := present_le S k
    rw [present]
    split
    · rw [List.length_append]; simp; omega
    · omega
theorem present_get {S : Nat → Sec} {k : Nat} (h : (S k).ad.isSome = true) : ∀ n, k < n → (present S n)[(present S k).length]? = some (S k)
  | 0, hk => by omega
  | n + 1, hk => by
    by_cases e : k = n
    · subst e
      rw [present_hit h]
      simp
    · have ih := present_get h n (by omega)
      rw [present]
      split
      · rw [List.getElem?_append_left (List.getElem?_eq_some_iff.1 ih).1]
        exact ih
      · exact ih
/-- what stands behind k rounds of the first loop. -/
structure Held (B : Nat) (S : Nat → Sec) (k : Nat) (v : Value) (bs : List Bt) (w : World) : Prop where
  secs : bs.map Bt.sec = present S k
  row : w.ownsRow B 20 1 v bs.length (bs.map Bt.val)
  maps : ∀ b ∈ bs, b.lies B w
theorem Held.later {B : Nat} {S : Nat → Sec} {k : Nat} {v : Value} {bs : List Bt} {w w' : World} (h : Held B S k v bs w) (hb : Below w.heap.size w w') : Held B S k v bs w' :=
  ⟨h.secs, ownsRow_below h.row hb, fun b hm => ownsRow_below (h.maps b hm) hb⟩
theorem Held.miss {B : Nat} {S : Nat → Sec} {k : Nat} {v : Value} {bs : List Bt} {w : World} (h : Held B S k v bs w) (hn : (S k).ad = none) : Held B S (k + 1) v bs w :=
  ⟨h.secs.trans (present_miss hn).symm, h.row, h.maps⟩
theorem Held.len {B : Nat} {S : Nat → Sec} {k : Nat} {v : Value} {bs : List Bt} {w : World} (h : Held B S k v bs w) : bs.length = (present S k).length := by
  rw [← h.secs, List.length_map]
theorem own_base {w : World} {B B' : Nat} {e : TypeId} {size : Nat} {v : Value} {n : Nat} {xs : List Value} (h : w.ownsRow B' e size v n xs) (hB : B ≤ B') : w.ownsRow B e size v n xs := by
  obtain ⟨h1, h2⟩ := h
  refine ⟨h1, ?_⟩
  rcases h2 with h2 | ⟨g, cap, cur, e1, e2, e3⟩
  · exact .inl h2
  · exact .inr ⟨g, cap, cur, e1, by omega, e3⟩
/-- rows of two element types are two blocks. -/
theorem own_apart {w : World} {B : Nat} {e1 e2 : TypeId} {s1 s2 : Nat} {v1 v2 : Value} {n1 n2 : Nat} {x1 x2 : List Value} (h1 : w.ownsRow B e1 s1 v1 n1 x1) (h2 : w.ownsRow B e2 s2 v2 n2 x2) (hne : e1 ≠ e2) : v1.ownBlock = none ∨ v1.ownBlock ≠ v2.ownBlock := by
  rcases h1.2 with ⟨rfl, _⟩ | ⟨g1, c1, cur1, rfl, _, r1, _⟩
  · exact .inl rfl
  · right
    rcases h2.2 with ⟨rfl, _⟩ | ⟨g2, c2, cur2, rfl, _, r2, _⟩
    · simp [Value.ownBlock]
    · intro hh
      simp [Value.ownBlock] at hh
      subst hh
      rw [r1] at r2
      simp at r2
      exact hne r2.2
theorem Held.hit {B : Nat} {S : Nat → Sec} {k : Nat} {v v' : Value} {bs : List Bt} {w1 w2 : World} {g cap : Nat} (h : Held B S k v bs w1) (hs : (S k).ad.isSome = true) (hB : B ≤ w1.heap.size)
    (hm : Bt.lies B w1 ⟨S k, g, cap⟩)
    (hown : w2.ownsRow B 20 1 v' (bs.length + 1) (bs.map Bt.val ++ [descV (S k).code (.slice (some ⟨g, 0, none⟩) (S k).len cap)]))
    (hg : (w1.alloc (.cells #[descV (S k).code (.slice (some ⟨g, 0, none⟩) (S k).len cap)] 20)).grownBy w2 v.ownBlock) :
    Held B S (k + 1) v' (bs ++ [⟨S k, g, cap⟩]) w2 := by
  have keep : ∀ b : Bt, b.lies B w1 → b.lies B w2 := by
    intro b hb
    exact (World.ownsRow.alloc hb _).kept hg (own_apart (World.ownsRow.alloc hb (.cells #[descV (S k).code (.slice (some ⟨g, 0, none⟩) (S k).len cap)] 20)) (World.ownsRow.alloc h.row _) (by decide))
  refine ⟨?_, ?_, ?_⟩
  · rw [List.map_append, h.secs, present_hit hs]
    rfl
  · rw [List.map_append, List.length_append]
    exact hown
  · intro b hb
    rw [List.mem_append, List.mem_singleton] at hb
    rcases hb with hb | rfl
    · exact keep b (h.maps b hb)
    · exact keep _ hm
theorem hit_below {B : Nat} {w w1 w2 : World} {o : Obj} {v : Value} {n : Nat} {xs : List Value} (hb : Below B w w1) (hB : B ≤ w1.heap.size) (hown : w1.ownsRow B 20 1 v n xs) (hg : (w1.alloc o).grownBy w2 v.ownBlock) : Below B w w2 :=
  (hb.alloc hB o).grown hg (by simp; omega) (fun k e => (hown.lt k e).1)
theorem own_len {B : Nat} {w : World} {e : TypeId} {size : Nat} {v : Value} {n : Nat} {xs : List Value} (h : w.ownsRow B e size v n xs) : ∃ a c, v = .slice a n c := by
  rcases h.2 with ⟨h1, h2⟩ | ⟨g, cap, cur, h1, _⟩
  · exact ⟨none, 0, by rw [h1, h2]⟩
  · exact ⟨_, cap, h1⟩
theorem own_some {B : Nat} {w : World} {e : TypeId} {size : Nat} {a : Option Addr} {n c : Nat} {xs : List Value} (h : w.ownsRow B e size (.slice a n c) n xs) (hp : 0 < n) : ∃ g, a = some ⟨g, 0, none⟩ := by
  rcases h.2 with ⟨_, h2⟩ | ⟨g, cap, cur, h1, _⟩
  · omega
  · cases h1
    exact ⟨g, rfl⟩

set_option maxHeartbeats 1000000 in
theorem script_big (a0 : Option Addr) (n c : Nat) (S : Nat → Sec) (w : World) (hm : n ≤ maxLen) (h : Secs w a0 n S) (hb : 65536 < n) :
    Calls Try.prog 4 #[.slice a0 n c] w fun e w' => e = .returned (.bool true) ∧ Below w.heap.size w w' := by
  have HC := hide2 (bytes2_any a0 n c S w hm h)
  clear h
  unfold maxLen at hm
  go_enter Try.func4, Try.ntmps4
  go_wp2_with fail
  refine Calls.mono HC.out ?_
  rintro e w' ⟨⟨b, rfl⟩, hw⟩
  rw [hw]
  clear hw
  cases b <;> (go_wp2; go_ret; exact ⟨rfl, Below.refl _ _⟩)

set_option maxHeartbeats 8000000 in
theorem script_small (a0 : Option Addr) (n c : Nat) (S : Nat → Sec) (w : World) (hn : n ≤ 65536) (h : Secs w a0 n S) :
    Calls Try.prog 4 #[.slice a0 n c] w fun e w' => e = .returned (.bool true) ∧ Below w.heap.size w w' := by
  have HC := hide2 (bytes2_any a0 n c S w (by unfold maxLen; omega) h)
  have HT := hide2 (sectionsBytes_any a0 n c S w hn h)
  have HS := hide2 h
  clear h
  go_enter Try.func4, Try.ntmps4
  go_wp2_with fail
  refine Calls.mono HC.out ?_
  rintro e w' ⟨⟨b, rfl⟩, hw⟩
  rw [hw]
  clear hw HC
  cases b
  · go_wp2
    go_ret
    exact ⟨rfl, Below.refl _ _⟩
  go_wp2_with fail
  refine Calls.mono HT.out ?_
  rintro e w' ⟨⟨z, rfl, hz⟩, hw⟩
  rw [hw]
  have HZ := hide2 hz
  clear hw HT hz
  by_cases hzb : 1048576 < z
  · go_wp2
    go_ret
    exact ⟨rfl, Below.refl _ _⟩
  have HL := hide2 (HZ.out (by omega))
  clear HZ
  go_wp2
  go_loopw [3, 4] (fun v i wr => ∃ (k : Nat) (bs : List Bt), k ≤ n ∧ i = .int .i64 (k : Int) ∧ Held w.heap.size S k v bs wr ∧ Below w.heap.size w wr) (fun _ i _ => n - (intOf i).toNat)
  case atStart => exact ⟨0, [], Nat.zero_le _, rfl, ⟨rfl, World.ownsRow_nil _ _ _ _, fun b hb => by simp at hb⟩, Below.refl _ _⟩
  case round =>
    obtain ⟨k, bs, hk, rfl, hheld, hbel⟩ := hrel
    have hsz := hbel.size
    by_cases hlt : k < n
    · obtain ⟨b, o, ha, c0, c1, he⟩ := (HS.out.later hbel).pos hlt
      subst ha
      have hlen := HL.out k hlt
      have hbs : bs.length ≤ 65536 := by have := hheld.len; have := present_le S k; omega
      have hkn : (k : Int) < (n : Int) := by omega
      cases had : (S k).ad with
      | none =>
        obtain ⟨l1, l2⟩ := he.nil had
        rw [had, l1, l2] at c1
        have HB := hide2 (build_nil 0 wr.drew)
        have HM := hide2 (zzMap_nil u3 (S k).code wr.drew)
        have hbd : Below wr.heap.size wr wr.drew := (Below.refl _ _).drew
        have R1 := hide2 ((hheld.miss had).later hbd)
        have R2 := hide2 (hbel.trans (hbd.mono hsz))
        obtain ⟨cd, hcd⟩ : ∃ cd, (S k).code = cd := ⟨_, rfl⟩
        rw [hcd] at HM c0
        clear hheld hbel he hlen hbs l1 l2 had hbd hcd
        go_wp2_with fail
        go_region_with (first | (go_at_call 15; refine Calls.mono HB.out ?_; rintro e w' ⟨rfl, hw⟩; rw [hw]; clear hw) | (go_at_call 14; refine Calls.mono HM.out ?_; rintro e w' ⟨rfl, hw⟩; rw [hw]; clear hw))
        all_goals go_wp2
        all_goals go_roundw
        all_goals first | exact ⟨k + 1, bs, by omega, by go_num, R1.out, R2.out⟩ | (simp [intOf]; omega)
      | some x =>
        have hec := he.cells
        rw [had] at hec c1
        have HB := hide2 (build_some x (S k).len (S k).cap (S k).key (S k).val wr.drew hlen (fun hp => by
          obtain ⟨b2, o2, e1, e2⟩ := hec hp
          exact ⟨b2, o2, Option.some.inj e1, e2⟩))
        have hss : (S k).ad.isSome = true := by rw [had]; rfl
        have HH := hide2 hheld
        have HBE := hide2 hbel
        have HSS := hide2 hss
        have HBS := hide2 hbs
        obtain ⟨cd, hcd⟩ : ∃ cd, (S k).code = cd := ⟨_, rfl⟩
        obtain ⟨ln, hln⟩ : ∃ ln, (S k).len = ln := ⟨_, rfl⟩
        have HCD := hide2 hcd
        have HLN := hide2 hln
        rw [hcd] at c0
        rw [hln] at c1 HB
        clear hheld hbel he hlen hbs had hcd hln hec hss
        go_wp2_with fail
        go_region_with (first | (go_at_call 15; refine Calls.mono HB.out ?_; rintro e w1 ⟨g, cap, rfl, hown, hb1⟩; have hbd := below_drew hb1; have c01 := cell_keeps hbd c0; have hB1 : w.heap.size ≤ w1.heap.size := Nat.le_trans hsz hbd.size; have HH1 := hide2 (HH.out.later hbd); have HM1 : Hid (Bt.lies w.heap.size w1 ⟨S k, g, cap⟩) := by { rw [← HLN.out] at hown; exact own_base hown hsz }; have HB1 := hide2 (HBE.out.trans (hbd.mono hsz)); have HZ := hide2 (zzMap_some w.heap.size bs.length u3 (bs.map Bt.val) cd g ln cap w1 HH1.out.row HBS.out hB1); clear hown hb1 hbd) | (go_at_call 14; refine Calls.mono HZ.out ?_; rintro e w2 ⟨v', rfl, hown2, hgr⟩; have R2 := hide2 (hit_below HB1.out hB1 HH1.out.row hgr); rw [← HCD.out, ← HLN.out] at hown2 hgr; have R1 := hide2 (HH1.out.hit HSS.out hB1 HM1.out hown2 hgr); clear hown2 hgr))
        all_goals go_wp2
        all_goals go_roundw
        all_goals first | exact ⟨k + 1, _, by omega, by go_num, R1.out, R2.out⟩ | (simp [intOf]; omega)
    · have ek : n = k := by omega
      subst ek
      obtain ⟨W, hW⟩ : ∃ x, x = wr := ⟨_, rfl⟩
      subst hW
      obtain ⟨va, vc, hv⟩ := own_len hheld.row
      subst hv
      obtain ⟨m, hm⟩ : ∃ m, bs.length = m := ⟨_, rfl⟩
      have hmn : m ≤ n := by have := hheld.len; have := present_le S n; omega
      have HPM : Hid ((present S n).length = m) := hheld.len.symm.trans hm
      rw [hm]
      have hrow := hheld.row
      rw [hm] at hrow
      have HROW := hide2 hrow
      have HSEC := hide2 hheld.secs
      have HMAPS := hide2 hheld.maps
      have HBE := hide2 hbel
      have HMB := hide2 hm
      clear hheld hbel hsz hrow hm
      go_wp2
      go_loopw [5, 6, 7, 8, 9] (fun j i _ _ _ wr => ∃ k : Nat, k ≤ n ∧ i = .int .i64 (k : Int) ∧ j = .int .i64 ((present S k).length : Int) ∧ Below W.heap.size W wr) (fun _ i _ _ _ _ => n - (intOf i).toNat)
      case atStart => exact ⟨0, Nat.zero_le _, rfl, rfl, Below.refl _ _⟩
      case round =>
        obtain ⟨k, hk, rfl, rfl, hbr⟩ := hrel
        obtain ⟨q, hq⟩ : ∃ q, (present S k).length = q := ⟨_, rfl⟩
        have hqk : q ≤ k := hq ▸ present_le S k
        have hbw := HBE.out.trans (hbr.mono HBE.out.size)
        by_cases hlt : k < n
        · obtain ⟨b, o, ha, c0, c1, he⟩ := (HS.out.later hbw).pos hlt
          subst ha
          have h36 := eql36
          have hkn : (k : Int) < (n : Int) := by omega
          cases had : (S k).ad with
          | none =>
            obtain ⟨l1, l2⟩ := he.nil had
            rw [had, l1, l2] at c1
            have HP := hide2 (congrArg List.length (present_miss had))
            have HBR := hide2 hbr
            rw [hq] at HP ⊢
            clear he l1 l2 had hbr hbw c0 hq
            go_wp2
            go_roundw
            case rel => exact ⟨k + 1, by omega, by go_num, by rw [HP.out], HBR.out⟩
            case measure => simp [intOf]; omega
          | some x =>
            have hss : (S k).ad.isSome = true := by rw [had]; rfl
            have hget := present_get hss n hlt
            rw [hq, ← HSEC.out, List.getElem?_map] at hget
            obtain ⟨⟨sec, g, cap⟩, hbt, hbs⟩ := Option.map_eq_some_iff.1 hget
            have hbs' : sec = S k := hbs
            subst hbs'
            have hqm : q < m := by have := (List.getElem?_eq_some_iff.1 hbt).1; have := HMB.out; omega
            obtain ⟨vb, hva⟩ := own_some HROW.out (by omega)
            subst hva
            have hcell : W.cell? ⟨vb, q, none⟩ = some (Bt.val ⟨S k, g, cap⟩) := own_cells HROW.out q _ (by rw [List.getElem?_map, hbt]; rfl)
            have hmap := HMAPS.out _ (List.mem_of_getElem? hbt)
            have hec := he.cells
            rw [had] at hec c1
            have hlen := HL.out k hlt
            have HP : Hid ((present S (k + 1)).length = q + 1) := by
              have e := congrArg List.length (present_hit hss)
              rw [List.length_append, hq] at e
              exact e
            have HSM : Hid (∀ w1, Below wr.heap.size wr w1 → Calls Try.prog 17 #[.slice (some ⟨g, 0, none⟩) (S k).len cap, .slice (some x) (S k).len (S k).cap] w1 fun e w' => e = .returned (.bool true) ∧ Below w1.heap.size w1 w') := by
              intro w1 hb1
              refine same_any g cap x (S k).len (S k).cap (S k).key (S k).val w1 hlen (fun j v hv => cell_keeps hb1 (cell_keeps hbr (own_cells hmap j v hv))) (fun hp => ?_)
              obtain ⟨b2, o2, e1, e2⟩ := hec hp
              exact ⟨b2, o2, Option.some.inj e1, fun j hj => ⟨cell_keeps hb1 (e2 j hj).1, cell_keeps hb1 (e2 j hj).2⟩⟩
            have HD := hide2 (described_any vb m vc q (S k).code (some ⟨g, 0, none⟩) (S k).len cap wr hqm (by omega) (cell_keeps hbr hcell))
            obtain ⟨cd, hcd⟩ : ∃ cd, (S k).code = cd := ⟨_, rfl⟩
            obtain ⟨ln, hln⟩ : ∃ ln, (S k).len = ln := ⟨_, rfl⟩
            obtain ⟨cp, hcp⟩ : ∃ cp, (S k).cap = cp := ⟨_, rfl⟩
            rw [hcd] at c0 HD
            rw [hln, hcp] at c1 HSM
            rw [hln] at HD
            have HBR := hide2 hbr
            have hqm' : (q : Int) < (m : Int) := by omega
            rw [hq]
            clear he had hbr hbw hq hss hget hbt hbs hcell hmap hec hlen hcd hln hcp
            go_wp2_with fail
            refine Calls.mono HD.out ?_
            rintro e w1 ⟨rfl, hb1⟩
            have d0 := cell_keeps hb1 c0
            have d1 := cell_keeps hb1 c1
            have HS17 := hide2 (HSM.out w1 hb1)
            have HB1 := hide2 hb1
            clear hb1 HD HSM
            go_wp2_with fail
            refine Calls.mono HS17.out ?_
            rintro e w2 ⟨rfl, hb2⟩
            have HB2 := hide2 (HBR.out.trans ((HB1.out.trans (hb2.mono HB1.out.size)).mono HBR.out.size))
            clear hb2 HS17
            go_wp2
            go_roundw
            case rel => exact ⟨k + 1, by omega, by go_num, by rw [HP.out]; go_num, HB2.out⟩
            case measure => simp [intOf]; omega
        · have ek : n = k := by omega
          subst ek
          have hqm : q = m := hq.symm.trans HPM.out
          subst hqm
          have HBW := hide2 hbw
          rw [hq]
          clear hbr hbw hq
          go_wp2
          go_ret
          exact ⟨rfl, HBW.out⟩

theorem script_any (a0 : Option Addr) (n c : Nat) (S : Nat → Sec) (w : World) (hm : n ≤ maxLen) (h : Secs w a0 n S) :
    Calls Try.prog 4 #[.slice a0 n c] w fun e w' => e = .returned (.bool true) ∧ Below w.heap.size w w' := by
  by_cases hb : 65536 < n
  · exact script_big a0 n c S w hm h hb
  · exact script_small a0 n c S w (by omega) h
end Go.Proofs.Qxb6609459a
