/- A selector without rules to labels and back, and the plain law: what the package has of pairs is what the reference has. Condition: the library's sort is a hypothesis. -/
import Derived.Test.YtefnfcpekiaenaaSpec
namespace Go.Proofs.Ytefnfcpekiaenaa
open Go.RowKit Go.Proofs Go.Maps Go.Sort

/-- The map of pairs. -/
def mapOf (l : List (List UInt8 × List UInt8)) : DataW Unit := mapFrom (.map []) l
/-- It returns a selector of a map and of no rule. -/
def SelOwn (n : Nat) (D : DataW Unit) (w : World) (e : Ending) (w' : World) : Prop := ∃ s m, e = .returned (.pointer (some ⟨s, 0, none⟩)) ∧ Sel w' s m (.slice none 0 0) ∧ SMap w' m n D ∧ Below w.heap.size w w'

theorem cells3 (w : World) (u v p : Value) (T : TypeId) : (w.alloc (.cells #[u, v, p] T)).cell? ⟨w.heap.size, 0, none⟩ = some u ∧ (w.alloc (.cells #[u, v, p] T)).cell? ⟨w.heap.size, 1, none⟩ = some v ∧ (w.alloc (.cells #[u, v, p] T)).cell? ⟨w.heap.size, 2, none⟩ = some p :=
  blk_cells (heap_alloc_new w _)
theorem SMap.then_ {w w' : World} {b n : Nat} {D : DataW Unit} (h : SMap w b n D) (hb : Below w.heap.size w w') : SMap w' b n D := h.below hb h.lt
theorem Sel.then_ {w w' : World} {s m : Nat} {R : Value} (h : Sel w s m R) (hb : Below w.heap.size w w') : Sel w' s m R := h.below hb h.2.2

set_option maxRecDepth 100000 in
set_option maxHeartbeats 1000000 in
theorem asked0_any (A : Option Addr) (n c : Nat) (l : List (List UInt8 × List UInt8)) (w : World) (hl : l.length = n) (hn : n ≤ 2147483647) (hlen : Lens l) (hr : PairRow w A l) :
    Calls Try.prog 14 #[.agg #[.bool false, .slice A n c, .slice none 0 0]] w (SelOwn n (mapOf l) w) := by
  have HB0 := Lib.hid (b0_alloc (b0_refl w) (.cells #[.bool false, .slice A n c, .slice none 0 0] 25))
  have HLS := Lib.hid (labelSet_any A n c l _ hl hn hlen (hr.below HB0.out))
  obtain ⟨k0, k1, k2⟩ := cells3 w (.bool false) (.slice A n c) (.slice none 0 0) 25
  have K2 := Lib.hid k2
  clear hl hlen hr k2
  go_enter Try.func14, Try.ntmps14
  go_wp2_with fail
  refine HLS.out.mono ?_
  rintro e w1 ⟨b, rfl, hb, hm, hbl⟩
  have c2 : w1.cell? ⟨w.heap.size, 2, none⟩ = some (.slice none 0 0) := (hbl.cell (p := ⟨w.heap.size, 2, none⟩) (by simp)).trans K2.out
  have HB := Lib.hid (b0_then HB0.out hbl)
  have HM := Lib.hid hm
  clear hbl hm
  have c3 : ∀ ob : Obj, (w1.alloc ob).cell? ⟨w.heap.size, 2, none⟩ = some (.slice none 0 0) := fun ob => cell_old c2
  go_wp2_with fail
  refine wp_loop_rounds 1 ?_
  rw [rounds_succ]
  go_wp2_with fail
  go_ret
  exact ⟨w1.heap.size, b, rfl, sel_new _ _ _ _, HM.out.then_ (b0_alloc (b0_refl _) _), b0_alloc HB.out _⟩

/-- It returns a new map and no error. -/
def MapOwn (D : DataW Unit) (w : World) (e : Ending) (w' : World) : Prop := ∃ m n, e = .returned (.tuple #[.map (some m), .nilIface]) ∧ SMap w' m n D ∧ Below w.heap.size w w'

set_option maxRecDepth 100000 in
set_option maxHeartbeats 1000000 in
theorem asMap0_any (s b n : Nat) (D : DataW Unit) (w : World) (hs : Sel w s b (.slice none 0 0)) (hown : SMap w b n D) (hmax : Maps.size D ≤ maxLen) :
    Calls Try.prog 13 #[.pointer (some ⟨s, 0, none⟩)] w (MapOwn D w) := by
  have hmm := @run_makeMap Try.prog
  have hbl := hown.lt
  have e1 : (w.alloc (.map #[] 0)).heap.size = w.heap.size + 1 := by simp
  have c0 : ∀ ob : Obj, (w.alloc ob).cell? ⟨s, 0, none⟩ = some (.map (some b)) := fun ob => cell_old hs.1
  have HSel := Lib.hid hs
  have HO := Lib.hid hown
  have HX := Lib.hid hmax
  clear hs hown hmax
  go_enter Try.func13, Try.ntmps13
  go_wp2_with (first
    | (at_range; refine wpList_range_own _ rfl _ 36 rfl 9 9 law9 Try.underlying36 _ b n _ rfl (World.ownsMap.alloc HO.out _) ?_; intro w0 hrg0 hg0 hs0)
    | fail)
  go_frame
  rw [e1] at hrg0 ⊢
  clear hs0
  have HM0 : SMap w0 w.heap.size 0 (.map []) := World.ownsMap.kept (World.ownsMap_made w Try.prog 9 (plainElem Try.prog 9)) hg0 (by simp)
  have HB0 := Lib.hid ((b0_alloc (b0_refl w) (.map #[] 0)).grown hg0 (b0_alloc (b0_refl w) _).size (fun j hj => by cases hj))
  clear hg0
  go_loopw [5] (fun _ wr => ∃ (left : Lit → Bool) (cnt : Nat) (Dout : DataW Unit), wr.ranges Try.prog 9 (plainElem Try.prog 9) b (w.heap.size + 1) n D left cnt ∧ cnt ≤ Maps.size D ∧
      SMap wr w.heap.size (Maps.size D - cnt) Dout ∧ Agree Dout D left ∧ Below w.heap.size w wr)
    (fun _ wr => wr.rangeLeft b (w.heap.size + 1))
  case atStart => exact ⟨_, _, .map [], hrg0, Nat.le_refl _, HM0.mono (Nat.zero_le _), agree_start D, HB0.out⟩
  case round =>
    obtain ⟨left, cnt, Dout, hrg, hcs, hout, hA, hnx⟩ := hrel
    go_wp2_with (first
      | (at_next; refine wpList_next_ranges _ rfl _ rfl 9 law9 (plainElem Try.prog 9) encStr encStr keyInv elemInv b (w.heap.size + 1) n _ _ _ rfl hrg ?_ ?_)
      | fail)
    · intro hc0 hl0
      have c1 : wr.cell? ⟨s, 1, none⟩ = some (.slice none 0 0) := (HSel.out.then_ hnx).2.1
      subst hc0
      have e := agree_end hA hl0 (hout.canon law9) (HO.out.canon law9)
      subst e
      have HNX := Lib.hid hnx
      have HOut := Lib.hid hout
      clear hnx hout
      go_wp2_with fail
      refine wp_loop_rounds 1 ?_
      rw [rounds_succ]
      go_wp2_with fail
      (try simp only [Exit.inBlock, Exit.then]); refine bodyPost_ret (results_tmp2 rfl _ _ _) rfl ?_
      exact ⟨_, _, rfl, HOut.out, HNX.out⟩
    · intro x c kl yd yp w1 cnt1 hkey hlk hv hat hrg1 hlt hg1 hs1 hen
      clear hs1
      have hout1 := World.ownsMap.kept hout hg1 (by simp)
      have HNX := Lib.hid (hnx.grown hg1 hnx.size (fun j hj => by cases hj; omega))
      have HKey := Lib.hid hkey
      have HV := Lib.hid hv
      clear hkey hv hg1 hnx
      go_wp2_with (first
        | (at_mapUpdate; refine wpList_mapUpdate_own _ rfl _ _ _ 36 rfl 9 9 law9 Try.underlying36 _ w.heap.size _ _ rfl hout1 (by have := HX.out; omega) _ _ _ rfl rfl HKey.out _ _ HV.out ?_; intro w2 hout2 hg2; go_frame)
        | fail)
      have hrg2 := hrg1.kept hg2 (fun e => by have := Option.some.inj e; omega) (fun e => by have := Option.some.inj e; omega)
      go_roundw
      case rel =>
        exact ⟨_, cnt1, _, hrg2, by omega, World.ownsMap.mono hout2 (by omega), agree_step hA (World.ownsMap.isMap hout) (keyLit HKey.out) hat, HNX.out.grown hg2 HNX.out.size (fun j hj => by cases hj; exact Nat.le_refl _)⟩
      case measure => rw [hrg2.left_eq, hrg.left_eq]; exact hlt

/-- It returns pairs of its own, and not that it was bad. -/
def Back (L : List (List UInt8 × List UInt8)) (w : World) (e : Ending) (w' : World) : Prop := ∃ v, e = .returned (.tuple #[v, .bool false]) ∧ w'.ownsRow w.heap.size 30 2 v L.length (flat L) ∧ Below w.heap.size w w'
theorem map_size {w : World} {b n : Nat} {D : DataW Unit} (h : SMap w b n D) : Maps.size D ≤ n := World.ownsMap.size_le h

set_option maxRecDepth 100000 in
set_option maxHeartbeats 1000000 in
theorem askedMap0_any (hsort : SortLaw) (hnil : SortNil) (A : Option Addr) (n c : Nat) (l : List (List UInt8 × List UInt8)) (w : World) (hl : l.length = n) (hn : n ≤ 2147483647) (hlen : Lens l) (hr : PairRow w A l) :
    Calls Try.prog 6 #[.agg #[.bool false, .slice A n c, .slice none 0 0]] w (Back (pairsOf (mapOf l)) w) := by
  have HB0 := Lib.hid (b0_alloc (b0_refl w) (.cells #[.bool false, .slice A n c, .slice none 0 0] 25))
  have HA := Lib.hid (asked0_any A n c l _ hl hn hlen (hr.below HB0.out))
  have HS := Lib.hid hsort
  have HSN := Lib.hid hnil
  clear hl hlen hr hsort hnil
  go_enter Try.func6, Try.ntmps6
  go_wp2_with fail
  refine HA.out.mono ?_
  rintro e w1 ⟨s, m, rfl, hs, hm, hb⟩
  have HB1 := Lib.hid (b0_then HB0.out hb)
  have HD := Lib.hid (map_size hm)
  have HC := Lib.hid (asMap0_any s m n (mapOf l) w1 hs hm (by have := HD.out; unfold maxLen; omega))
  clear hs hm hb
  go_wp2_with fail
  refine HC.out.mono ?_
  rintro e w2 ⟨m2, n2, rfl, hm2, hb2⟩
  have HB2 := Lib.hid (b0_then HB1.out hb2)
  have HM2 := Lib.hid hm2
  clear hm2 hb2
  go_wp2_with fail
  refine (pairs_any HS.out HSN.out m2 n2 (mapOf l) w2 HM2.out (by have := HD.out; omega)).mono ?_
  rintro e w3 ⟨v, rfl, hr3, hb3⟩
  have HB3 := Lib.hid (b0_then HB2.out hb3)
  have HR3 := Lib.hid (hr3.mono HB2.out.size)
  clear hr3 hb3
  go_wp2_with fail
  (try simp only [Exit.inBlock, Exit.then]); refine bodyPost_ret (results_tmp2 rfl _ _ _) rfl ?_
  exact ⟨_, rfl, HR3.out, HB3.out⟩

set_option maxRecDepth 100000 in
set_option maxHeartbeats 1000000 in
theorem askedFrom_any (hsort : SortLaw) (hnil : SortNil) (A : Option Addr) (n c : Nat) (l : List (List UInt8 × List UInt8)) (w : World) (hl : l.length = n) (hn : n ≤ 2147483647) (hlen : Lens l) (hr : PairRow w A l) :
    Calls Try.prog 10 #[.slice A n c] w (AskedOwn (pairsOf (mapOf l)) w) := by
  have HB0 := Lib.hid (b0_alloc (b0_refl w) (.cells #[.bool false, .slice none 0 0, .slice none 0 0] 25))
  have HLS := Lib.hid (labelSet_any A n c l _ hl hn hlen (hr.below HB0.out))
  have HS := Lib.hid hsort
  have HSN := Lib.hid hnil
  clear hl hlen hr hsort hnil
  go_enter Try.func10, Try.ntmps10
  go_wp2_with fail
  refine HLS.out.mono ?_
  rintro e w1 ⟨b, rfl, hge, hm, hb⟩
  change SMap w1 b n (mapOf l) at hm
  have HB1 := Lib.hid (b0_then HB0.out hb)
  have HQ1 := Lib.hid hb
  have HD := Lib.hid (map_size hm)
  have HC := Lib.hid (setAs_any b n (mapOf l) w1 hm (by have := map_size hm; unfold maxLen; omega))
  clear hm hb
  go_wp2_with fail
  refine HC.out.mono ?_
  rintro e w2 ⟨rfl, hs2, hm2, hb2⟩
  have HB2 := Lib.hid (b0_then HB1.out hb2)
  have HQ2 := Lib.hid (b0_then HQ1.out hb2)
  have HE := Lib.hid (askedOf_any HS.out HSN.out _ _ _ (mapOf l) w2 hs2 hm2 (by have := HD.out; omega))
  clear hs2 hm2 hb2
  go_wp2_with fail
  refine HE.out.mono ?_
  rintro e w3 ⟨v, rfl, hr3, hb3⟩
  have HB3 := Lib.hid (b0_then HB2.out hb3)
  have HQ3 := Lib.hid (b0_then HQ2.out hb3)
  have HF := owns_form hr3
  have HR3 := Lib.hid hr3
  have HN3 := Lib.hid HB2.out.size
  clear hr3 hb3
  have z : w3.heap[w.heap.size]? = some (.cells #[.bool false, .slice none 0 0, .slice none 0 0] 25 (0, 0)) := (HQ3.out.block w.heap.size (by simp)).trans (heap_alloc_new _ _)
  have hw2 : w.heap.size + 1 ≤ w2.heap.size := by have := HQ2.out.size; simpa using this
  have z0 := (blk_cells z).1
  have z1 := (blk_cells z).2.1
  have z2 := (blk_cells z).2.2
  have y0 := Lib.frozen_of_heap z 0
  have y1 := Lib.frozen_of_heap z 1
  have y2 := Lib.frozen_of_heap z 2
  have Z := Lib.hid z
  have HW2 := Lib.hid hw2
  clear z hw2
  rcases HF with ⟨rfl, h0⟩ | ⟨g, cap, rfl, _, _⟩
  all_goals
    go_wp2_with fail
    refine bodyPost_ret (results_cell_row rfl _ _ w.heap.size 25 _ (0, 0) _ rfl (set3 Z.out) Try.underlying25 rfl Try.size25) rfl ⟨_, rfl, World.ownsRow.mono (ownsRow_setCell_below (ownsRow_setCell_below (ownsRow_setCell_below HR3.out (by have := HW2.out; simp; omega) _) (by have := HW2.out; simp; omega) _) (by have := HW2.out; simp; omega) _) HN3.out, ((HB3.out.setCell (p := ⟨w.heap.size, 0, none⟩) (Nat.le_refl _) _).setCell (p := ⟨w.heap.size, 1, none⟩) (Nat.le_refl _) _).setCell (p := ⟨w.heap.size, 2, none⟩) (Nat.le_refl _) _⟩

/-! ### rows, each once -/
theorem once_from : ∀ (l o : List (List UInt8)), o.Nodup → (l.foldl (fun o x => if x ∈ o then o else o ++ [x]) o).Nodup ∧ ∀ y, y ∈ l.foldl (fun o x => if x ∈ o then o else o ++ [x]) o ↔ (y ∈ o ∨ y ∈ l)
  | [], o, h => ⟨h, fun y => by simp⟩
  | x :: r, o, h => by
    rw [List.foldl_cons]
    by_cases hx : x ∈ o
    · rw [if_pos hx]
      obtain ⟨h1, h2⟩ := once_from r o h
      refine ⟨h1, fun y => ?_⟩
      rw [h2 y]
      constructor
      · rintro (hy | hy)
        · exact .inl hy
        · exact .inr (List.mem_cons_of_mem _ hy)
      · rintro (hy | hy)
        · exact .inl hy
        · rcases List.mem_cons.1 hy with rfl | hy
          · exact .inl hx
          · exact .inr hy
    · rw [if_neg hx]
      have hn : (o ++ [x]).Nodup := List.nodup_append.2 ⟨h, by simp, fun a ha b hb => by
        rw [List.mem_singleton.1 hb]
        exact fun e => hx (e ▸ ha)⟩
      obtain ⟨h1, h2⟩ := once_from r (o ++ [x]) hn
      refine ⟨h1, fun y => ?_⟩
      rw [h2 y, List.mem_append, List.mem_singleton, List.mem_cons, or_assoc]
theorem once_nodup (l : List (List UInt8)) : (once l).Nodup := (once_from l [] List.nodup_nil).1
theorem mem_once (l : List (List UInt8)) (y : List UInt8) : y ∈ once l ↔ y ∈ l := by
  have := (once_from l [] List.nodup_nil).2 y
  simpa [once] using this
theorem once_same : ∀ (l o : List (List UInt8)), (o ++ l).Nodup → l.foldl (fun o x => if x ∈ o then o else o ++ [x]) o = o ++ l
  | [], o, _ => by simp
  | x :: r, o, h => by
    have hx : x ∉ o := fun hx => by
      have := (List.nodup_append.1 h).2.2 x hx x (by simp)
      exact this rfl
    rw [List.foldl_cons, if_neg hx, once_same r (o ++ [x]) (by simpa using h)]
    simp
theorem once_of_nodup {l : List (List UInt8)} (h : l.Nodup) : once l = l := by
  have := once_same l [] (by simpa using h)
  simpa [once] using this

/-! ### the map of pairs -/
theorem strLit (x : List UInt8) : WideAt.IsKeyLit (.string x) := trivial
theorem has_mapFrom (x : List UInt8) : ∀ (l : List (List UInt8 × List UInt8)) (D : DataW Unit), IsMap D → Maps.has (mapFrom D l) (.string x) = (Maps.has D (.string x) || l.any (fun p => p.1 == x))
  | [], D, _ => by simp [mapFrom]
  | p :: r, D, h => by
    have e : mapFrom D (p :: r) = mapFrom (D.put (.string p.1) (.lit (.string p.2))) r := rfl
    rw [e, has_mapFrom x r _ (h.put _ _), List.any_cons]
    by_cases hx : p.1 = x
    · subst hx
      rw [has_put_same h (strLit _)]
      simp
    · rw [has_put_other (by intro e; injection e with e; exact hx e.symm)]
      have hb : (p.1 == x) = false := by simpa using hx
      rw [hb, Bool.false_or]
theorem valAt_mapFrom (x : List UInt8) : ∀ (l : List (List UInt8 × List UInt8)) (D : DataW Unit), IsMap D → valAt (mapFrom D l) x = findFrom (valAt D x) l x
  | [], D, _ => rfl
  | p :: r, D, h => by
    have e : mapFrom D (p :: r) = mapFrom (D.put (.string p.1) (.lit (.string p.2))) r := rfl
    have e2 : findFrom (valAt D x) (p :: r) x = findFrom (if p.1 == x then p.2 else valAt D x) r x := rfl
    rw [e, valAt_mapFrom x r _ (h.put _ _), e2]
    congr 1
    by_cases hx : p.1 = x
    · subst hx
      rw [beq_self_eq_true, if_pos rfl]
      simp only [valAt]
      rw [atKey_put_same h (strLit _)]
    · have hb : (p.1 == x) = false := by simpa using hx
      rw [hb]
      simp only [valAt]
      rw [atKey_put_other (by intro e; injection e with e; exact hx e.symm)]
      rfl
/-- Each key is a text. -/
def StrKeyed (D : DataW Unit) : Prop := ∃ es, D = .map es ∧ ∀ p ∈ es, ∃ x, p.1 = Lit.string x
theorem StrKeyed.put {D : DataW Unit} (h : StrKeyed D) (x : List UInt8) (d : DataW Unit) : StrKeyed (D.put (.string x) d) := by
  obtain ⟨es, rfl, hk⟩ := h
  refine ⟨_, rfl, fun p hp => ?_⟩
  rcases List.mem_cons.1 ((WideShapes.insert_perm _ _).mem_iff.1 hp) with rfl | hp
  · exact ⟨x, rfl⟩
  · exact hk p (List.mem_filter.1 hp).1
theorem mapFrom_keyed : ∀ (l : List (List UInt8 × List UInt8)) (D : DataW Unit), StrKeyed D → Tidy D → StrKeyed (mapFrom D l) ∧ Tidy (mapFrom D l)
  | [], _, h, t => ⟨h, t⟩
  | p :: r, D, h, t => mapFrom_keyed r (D.put (.string p.1) (.lit (.string p.2))) (h.put _ _) (t.put (strLit _) _)

theorem keysOf_mapOf (l : List (List UInt8 × List UInt8)) : keysOf (mapOf l) = risen l := by
  obtain ⟨⟨es, he, hk⟩, ⟨es', he', hp⟩⟩ := mapFrom_keyed l (.map []) ⟨[], rfl, by simp⟩ tidy_empty
  obtain rfl : es = es' := by rw [he] at he'; injection he'
  have hm : ∀ x, x ∈ once (l.map (·.1)) ↔ Maps.has (.map es : DataW Unit) (.string x) = true := by
    intro x
    rw [← he, has_mapFrom x l _ isMap_empty, mem_once]
    simp [Maps.has]
  have hperm := perm_strKeys hp hk (once_nodup (l.map (·.1))) hm
  unfold keysOf risen mapOf
  rw [he]
  exact (mergeSort_of_perm hperm).symm

/-- WHAT THE PACKAGE HAS OF PAIRS IS WHAT THE REFERENCE HAS. -/
theorem pairsOf_mapOf (l : List (List UInt8 × List UInt8)) : pairsOf (mapOf l) = specPairs l := by
  unfold pairsOf specPairs
  rw [keysOf_mapOf]
  refine List.map_congr_left fun k _ => ?_
  have := valAt_mapFrom k l (.map []) isMap_empty
  have e : valAt (.map [] : DataW Unit) k = [] := rfl
  rw [e] at this
  rw [show valAt (mapOf l) k = findFrom [] l k from this]

theorem findFrom_map (f : List UInt8 → List UInt8) (x : List UInt8) : ∀ (L : List (List UInt8)) (a : List UInt8), findFrom a (L.map fun k => (k, f k)) x = if x ∈ L then f x else a
  | [], a => by simp [findFrom]
  | k :: r, a => by
    have e : findFrom a ((k :: r).map fun k => (k, f k)) x = findFrom (if k == x then f k else a) (r.map fun k => (k, f k)) x := rfl
    rw [e, findFrom_map f x r]
    by_cases hx : x ∈ r
    · rw [if_pos hx, if_pos (List.mem_cons_of_mem _ hx)]
    · rw [if_neg hx]
      by_cases hk : k = x
      · subst hk
        simp
      · have hb : (k == x) = false := by simpa using hk
        rw [hb, if_neg (by simp), if_neg (by
          intro h
          rcases List.mem_cons.1 h with h | h
          · exact hk h.symm
          · exact hx h)]

/-- .. AND OF THESE AGAIN THE SAME. -/
theorem specPairs_again (l : List (List UInt8 × List UInt8)) : specPairs (specPairs l) = specPairs l := by
  have e1 : (specPairs l).map (·.1) = risen l := by
    unfold specPairs
    rw [List.map_map]
    exact List.map_id' _
  have hnd : (risen l).Nodup := (List.mergeSort_perm _ _).nodup_iff.2 (once_nodup _)
  have e2 : risen (specPairs l) = risen l := by
    have e : risen (specPairs l) = (once ((specPairs l).map (·.1))).mergeSort leB := rfl
    rw [e, e1, once_of_nodup hnd]
    unfold risen
    exact List.mergeSort_of_pairwise (List.pairwise_mergeSort leB_trans leB_total _)
  have e3 : specPairs (specPairs l) = (risen (specPairs l)).map fun k => (k, findFrom [] (specPairs l) k) := rfl
  rw [e3, e2]
  have e4 : specPairs l = (risen l).map fun k => (k, findFrom [] l k) := rfl
  conv => rhs; rw [e4]
  refine List.map_congr_left fun k hk => ?_
  have e5 : findFrom [] (specPairs l) k = if k ∈ risen l then findFrom [] l k else [] := by
    rw [e4]
    exact findFrom_map (findFrom [] l) k (risen l) []
  rw [e5, if_pos hk]

theorem findFrom_some (x : List UInt8) : ∀ (l : List (List UInt8 × List UInt8)) (a : List UInt8), findFrom a l x = a ∨ ∃ p ∈ l, findFrom a l x = p.2
  | [], a => .inl rfl
  | p :: r, a => by
    have e : findFrom a (p :: r) x = findFrom (if p.1 == x then p.2 else a) r x := rfl
    rw [e]
    rcases findFrom_some x r (if p.1 == x then p.2 else a) with h | ⟨q, hq, h⟩
    · rw [h]
      split
      · exact .inr ⟨p, by simp, rfl⟩
      · exact .inl rfl
    · exact .inr ⟨q, by simp [hq], h⟩
theorem lens_spec {l : List (List UInt8 × List UInt8)} (h : Lens l) : Lens (specPairs l) := by
  intro p hp
  obtain ⟨k, hk, rfl⟩ := List.mem_map.1 hp
  have hk1 : k ∈ l.map (·.1) := (mem_once _ _).1 (by simpa [risen] using hk)
  obtain ⟨q, hq, rfl⟩ := List.mem_map.1 hk1
  refine ⟨(h q hq).1, ?_⟩
  rcases findFrom_some q.1 l [] with e | ⟨r, hr, e⟩
  · show (findFrom [] l q.1).length ≤ maxLen
    rw [e]
    exact Nat.zero_le _
  · show (findFrom [] l q.1).length ≤ maxLen
    rw [e]
    exact (h r hr).2
theorem spec_length (l : List (List UInt8 × List UInt8)) : (specPairs l).length ≤ l.length := by
  unfold specPairs
  rw [List.length_map]
  exact risen_length l
/-- One pair that was just laid. -/
theorem pair_new (w : World) (x y : List UInt8) (t : TypeId) : PairRow (w.alloc (.cells #[encStr x, encStr y] t)) (some ⟨w.heap.size, 0, none⟩) [(x, y)] := by
  intro k hk
  have hk0 : k = 0 := by simpa using hk
  subst hk0
  refine ⟨_, _, rfl, by simp, ?_, ?_⟩
  · simp
  · simp

set_option maxRecDepth 100000 in
set_option maxHeartbeats 1000000 in
theorem fnAskedFrom_walk (hsort : SortLaw) (hnil : SortNil) (A : Option Addr) (n c : Nat) (l : List (List UInt8 × List UInt8)) (w : World) (hl : l.length = n) (hlen : Lens l) (hr : PairRow w A l) :
    Calls Try.prog 4 #[.slice A n c] w (Gives (.bool true) w) := by
  have HL := Lib.hid hl
  have HLen := Lib.hid hlen
  have HR := Lib.hid hr
  have HF := Lib.hid (fits4_any A n c l w hl hr)
  have HS := Lib.hid hsort
  have HSN := Lib.hid hnil
  clear hl hlen hr hsort hnil
  go_enter Try.func4, Try.ntmps4
  go_wp2_with fail
  refine HF.out.mono ?_
  rintro e w1 ⟨bb, rfl, hsh, hb1⟩
  have HB1 := Lib.hid hb1
  cases bb
  · clear hb1 hsh
    go_wp2_with fail
    go_ret
    exact ⟨rfl, HB1.out⟩
  have hn : n ≤ 2147483647 := hsh rfl
  have HA := Lib.hid (askedFrom_any HS.out HSN.out A n c l w1 HL.out hn HLen.out (HR.out.below hb1))
  clear hb1 hsh
  go_wp2_with fail
  refine HA.out.mono ?_
  rintro e w2 ⟨v, rfl, hr2, hb2⟩
  rw [pairsOf_mapOf] at hr2
  have HB2 := Lib.hid (b0_then HB1.out hb2)
  obtain ⟨A2, c2, rfl, hp2⟩ := owns_pairRow hr2
  have HP2 := Lib.hid hp2
  clear hr2 hb2 hp2
  have HBA := Lib.hid (b0_alloc (b0_refl w2) (.cells #[.bool false, .slice A2 (specPairs l).length c2, .slice none 0 0] 25))
  have HSL := Lib.hid (show (specPairs l).length ≤ 2147483647 by have := spec_length l; rw [HL.out] at this; omega)
  have HM := Lib.hid (askedMap0_any HS.out HSN.out A2 (specPairs l).length c2 (specPairs l) _ rfl HSL.out (lens_spec HLen.out) (HP2.out.below HBA.out))
  go_wp2_with fail
  refine HM.out.mono ?_
  rintro e w3 ⟨v3, rfl, hr3, hb3⟩
  rw [pairsOf_mapOf, specPairs_again] at hr3
  have HB3 := Lib.hid (b0_then HB2.out (b0_then HBA.out hb3))
  have HQ3 := Lib.hid hb3
  have HN3 := Lib.hid (b0_then HBA.out hb3)
  obtain ⟨A3, c3, rfl, hp3⟩ := owns_pairRow hr3
  have HP3 := Lib.hid hp3
  clear hr3 hb3 hp3
  have HSP := Lib.hid (specPairs_any A n c l w3 HL.out (by omega) (HR.out.below HB3.out))
  go_wp2_with fail
  refine HSP.out.mono ?_
  rintro e w4 ⟨v4, rfl, hr4, hb4⟩
  have HB4 := Lib.hid (b0_then HB3.out hb4)
  have HQ4 := Lib.hid (b0_then HQ3.out hb4)
  have HN4 := Lib.hid (b0_then HN3.out hb4)
  obtain ⟨A4, c4, rfl, hp4⟩ := owns_pairRow hr4
  have HP4 := Lib.hid hp4
  have HP34 := Lib.hid (HP3.out.below hb4)
  clear hr4 hb4 hp4
  have HF5 := Lib.hid (askedFrom_any HS.out HSN.out (some ⟨w4.heap.size, 0, none⟩) 1 1 [([97], [])] (w4.alloc (.cells #[encStr [97], encStr []] 30)) rfl (by omega) (by intro p hp; rw [List.mem_singleton.1 hp]; exact ⟨by unfold maxLen; decide, by unfold maxLen; decide⟩) (pair_new w4 [97] [] 30))
  go_wp2_with fail
  refine HF5.out.mono ?_
  rintro e w5 ⟨v5, rfl, hr5, hb5⟩
  rw [pairsOf_mapOf] at hr5
  have hb45 := b0_then (b0_alloc (b0_refl w4) _) hb5
  have HB5 := Lib.hid (b0_then HB4.out hb45)
  obtain ⟨A5, c5, rfl, hp5⟩ := owns_pairRow hr5
  have hone : (specPairs [([97], [])]).length = 1 := by
    unfold specPairs
    rw [List.length_map]
    unfold risen once
    simp
  rw [hone]
  have h3 : w5.heap[w2.heap.size]? = some (.cells #[.bool false, .slice A2 (specPairs l).length c2, .slice none 0 0] 25 (0, 0)) := by
    rw [hb45.block w2.heap.size (by have := HN4.out.size; have := HQ4.out.size; simp at this; omega), HQ4.out.block w2.heap.size (by simp)]
    exact heap_alloc_new _ _
  have h4 : ∀ ob : Obj, (w5.alloc ob).heap[w2.heap.size]? = some (.cells #[.bool false, .slice A2 (specPairs l).length c2, .slice none 0 0] 25 (0, 0)) := fun ob => heap_alloc_old h3 ob
  have q0 := fun ob => (blk_cells (h4 ob)).1
  have q1 := fun ob => (blk_cells (h4 ob)).2.1
  have q2 := fun ob => (blk_cells (h4 ob)).2.2
  have HB6 := Lib.hid (b0_alloc HB5.out (.cells #[.bool false, .slice A5 1 c5, .slice none 0 0] 25))
  have HN6 := Lib.hid (b0_alloc (b0_then HN4.out hb45) (.cells #[.bool false, .slice A5 1 c5, .slice none 0 0] 25))
  have HP346 := Lib.hid ((HP34.out.below hb45).below (b0_alloc (b0_refl w5) (.cells #[.bool false, .slice A5 1 c5, .slice none 0 0] 25)))
  have HP46 := Lib.hid ((HP4.out.below hb45).below (b0_alloc (b0_refl w5) (.cells #[.bool false, .slice A5 1 c5, .slice none 0 0] 25)))
  clear hr5 hb5 hp5 hb45 h3 h4 hone
  have HSP7 := Lib.hid (specPairs_any A2 (specPairs l).length c2 (specPairs l) _ rfl (by have := HSL.out; omega) (HP2.out.below HN6.out))
  go_wp2_with fail
  refine HSP7.out.mono ?_
  rintro e w7 ⟨v7, rfl, hr7, hb7⟩
  rw [specPairs_again] at hr7
  have HB7 := Lib.hid (b0_then HB6.out hb7)
  have HP37 := Lib.hid (HP346.out.below hb7)
  have HP47 := Lib.hid (HP46.out.below hb7)
  obtain ⟨A7, c7, rfl, hp7⟩ := owns_pairRow hr7
  have HQ7 := Lib.hid hb7
  have HS8 := Lib.hid (same_any A7 A4 (specPairs l).length c7 c4 (specPairs l) w7 rfl (by have := HSL.out; omega) hp7 HP47.out)
  clear hr7 hb7 hp7
  go_wp2_with fail
  refine HS8.out.mono ?_
  rintro e w8 ⟨rfl, hb8⟩
  have HQ8 := Lib.hid (b0_then HQ7.out hb8)
  have HB8 := Lib.hid (b0_then HB7.out hb8)
  have HS9 := Lib.hid (same_any A3 A4 (specPairs l).length c3 c4 (specPairs l) w8 rfl (by have := HSL.out; omega) (HP37.out.below hb8) (HP47.out.below hb8))
  clear hb8
  go_wp2_with fail
  refine HS9.out.mono ?_
  rintro e w9 ⟨rfl, hb9⟩
  have HQ9 := Lib.hid (b0_then HQ8.out hb9)
  have HB9 := Lib.hid (b0_then HB8.out hb9)
  clear hb9
  have h9 : w9.heap[w5.heap.size]? = some (.cells #[.bool false, .slice A5 1 c5, .slice none 0 0] 25 (0, 0)) := (HQ9.out.block w5.heap.size (by simp)).trans (heap_alloc_new _ _)
  have q91 := (blk_cells h9).2.1
  clear h9
  go_wp2_with fail
  go_ret
  exact ⟨rfl, HB9.out⟩

end Go.Proofs.Ytefnfcpekiaenaa
