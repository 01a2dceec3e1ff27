/- A selector made of data, with its rules. Condition: the labels and the rules lie as listed and fit. -/
import Derived.Test.YtefnfcpekiaenaaRules
import Derived.Deep.RegionLaw
namespace Go.Proofs.Ytefnfcpekiaenaa
open Go.RowKit Go.Proofs Go.Maps Go.Sort

theorem Try.info61 : (Try.prog.info? 61).map (fun i => (i.zero, i.size, i.bytes)) = some (some (.agg #[.string ⟨#[]⟩, .string ⟨#[]⟩, .slice none 0 0]), 3, 56) := by kernel_rfl
/-- Rules' cells, as they lie. -/
def Lies (w : World) (xs : List Value) (l : List RuleD) : Prop :=
  xs.length = l.length * 3 ∧ ∀ j (h : j < l.length), xs[j * 3]? = some (encStr l[j].key) ∧ xs[j * 3 + 1]? = some (encStr l[j].op) ∧ ∃ A c, xs[j * 3 + 2]? = some (.slice A l[j].vals.length c) ∧ TRow w A l[j].vals
theorem Lies.nil (w : World) : Lies w [] [] := ⟨rfl, fun j h => absurd h (by simp)⟩
theorem Lies.keep {w w' : World} {xs : List Value} {l : List RuleD} (h : Lies w xs l) (hk : ∀ A m, TRow w A m → TRow w' A m) : Lies w' xs l :=
  ⟨h.1, fun j hj => by obtain ⟨h1, h2, A, c, h3, h4⟩ := h.2 j hj; exact ⟨h1, h2, A, c, h3, hk _ _ h4⟩⟩
theorem Lies.snoc {w : World} {xs : List Value} {l : List RuleD} {r : RuleD} {A : Option Addr} {c : Nat} (h : Lies w xs l) (hs : TRow w A r.vals) : Lies w (xs ++ [encStr r.key, encStr r.op, .slice A r.vals.length c]) (l ++ [r]) := by
  refine ⟨by simp [h.1]; omega, fun j hj => ?_⟩
  have hx := h.1
  by_cases hjl : j < l.length
  · obtain ⟨h1, h2, A', c', h3, h4⟩ := h.2 j hjl
    rw [List.getElem_append_left hjl, List.getElem?_append_left (by omega), List.getElem?_append_left (by omega), List.getElem?_append_left (by omega)]
    exact ⟨h1, h2, A', c', h3, h4⟩
  · have hj2 : j = l.length := by simp at hj; omega
    subst hj2
    rw [List.getElem_append_right (Nat.le_refl _), List.getElem?_append_right (by omega), List.getElem?_append_right (by omega), List.getElem?_append_right (by omega)]
    have e0 : l.length * 3 - xs.length = 0 := by omega
    have e1 : l.length * 3 + 1 - xs.length = 1 := by omega
    have e2 : l.length * 3 + 2 - xs.length = 2 := by omega
    rw [e0, e1, e2]
    refine ⟨by simp, by simp, A, c, by simp, by simpa using hs⟩
theorem cell_three_new (w : World) (x y z : Value) (t : TypeId) : ∀ j u, [x, y, z][j]? = some u → (w.alloc (.cells #[x, y, z] t)).cell? ((⟨w.heap.size, 0, none⟩ : Addr).add j) = some u := by
  intro j u hj
  obtain ⟨c0, _, _⟩ := cells3 w x y z t
  match j, hj with
  | 0, hj => simp at hj; subst hj; exact c0
  | 1, hj => simp at hj; subst hj; simp [Addr.add]
  | 2, hj => simp at hj; subst hj; simp [Addr.add]
/-- A selector in memory, its whole block. -/
def SelB (w : World) (s m : Nat) (R : Value) : Prop := w.heap[s]? = some (.cells #[.map (some m), R] 58 (0, 0))
theorem SelB.cells {w : World} {s m : Nat} {R : Value} (h : SelB w s m R) : w.cell? ⟨s, 0, none⟩ = some (.map (some m)) ∧ w.cell? ⟨s, 1, none⟩ = some R := by
  unfold SelB at h
  refine ⟨?_, ?_⟩ <;> (unfold World.cell?; rw [h]; rfl)
theorem SelB.lt {w : World} {s m : Nat} {R : Value} (h : SelB w s m R) : s < w.heap.size := (Array.getElem?_eq_some_iff.1 h).1
theorem SelB.keep {w w' : World} {s m : Nat} {R : Value} (h : SelB w s m R) (hb : w'.heap[s]? = w.heap[s]?) : SelB w' s m R := Eq.trans hb h
theorem SelB.set {w : World} {s m : Nat} {R R' : Value} (h : SelB w s m R) : SelB (w.setCell ⟨s, 1, none⟩ R') s m R' := heap_setCell_same _ s 1 _ 58 R' h
theorem owns_ruleRow {w : World} {base : Nat} {v : Value} {l : List RuleD} {xs : List Value} (h : w.ownsRow base 61 3 v l.length xs) (hx : Lies w xs l) : ∃ A c, v = .slice A l.length c ∧ RuleRow w A l := by
  rcases owns_form h with ⟨rfl, h0⟩ | ⟨g, cap, rfl, _, hg⟩
  · exact ⟨none, 0, by rw [h0], fun k hk => by omega⟩
  · refine ⟨_, cap, rfl, fun k hk => ?_⟩
    obtain ⟨h1, h2, A, c, h3, h4⟩ := hx.2 k hk
    exact ⟨g, 0, rfl, hg, by rw [Nat.zero_add, h.cellAt (k * 3) (by omega)]; exact h1, by rw [Nat.zero_add, h.cellAt (k * 3 + 1) (by omega)]; exact h2, A, c, by rw [Nat.zero_add, h.cellAt (k * 3 + 2) (by omega)]; exact h3, h4.1⟩

theorem row61 {w : World} {base n : Nat} {v : Value} {xs : List Value} (h : w.ownsRow base 61 3 v n xs) : ∀ g, v.ownBlock = some g → ∃ cs fr, w.heap[g]? = some (.cells cs 61 fr) := by
  intro g hg
  rcases h.2 with ⟨rfl, _⟩ | ⟨g', cap, cur, rfl, _, h2, _⟩
  · cases hg
  · cases hg
    exact ⟨cur, (0, 0), h2⟩
theorem set58 {w : World} {s m : Nat} {R v : Value} {A : Option Addr} {l : List (List UInt8)} (hs : SelB w s m R) (h : TRow w A l) : TRow (w.setCell ⟨s, 1, none⟩ v) A l :=
  h.set fun a ha e => by
    obtain ⟨cs, fr, e1⟩ := h.2 a ha
    have e2 : w.heap[a.block]? = some (.cells #[.map (some m), R] 58 (0, 0)) := e ▸ hs
    rw [e1] at e2
    injection e2 with e3
    injection e3 with _ e4 _
    exact absurd e4 (by decide)
theorem asked_keep {wr w2 w3 : World} {s m n : Nat} {v R : Value} {xs : List Value} {o : Obj} (h : SelB wr s m R) (hb : Below wr.heap.size wr w2) (ho : w2.ownsRow (s + 1) 61 3 v n xs) (hg : (w2.alloc o).grownBy w3 v.ownBlock) : SelB w3 s m R := by
  have hs := h.lt
  have h2 : SelB w2 s m R := h.keep (hb.block s hs)
  have h3 : SelB (w2.alloc o) s m R := h2.keep ((MapKept.heap_alloc w2 o).2 s h2.lt)
  exact h3.keep (hg.block s h3.lt fun e => by have := (ho.lt s e.symm).1; omega)
/-- It returns a selector of a map and of rules. -/
def SelRules (n : Nat) (D : DataW Unit) (l : List RuleD) (w : World) (e : Ending) (w' : World) : Prop :=
  ∃ s m R A c, e = .returned (.pointer (some ⟨s, 0, none⟩)) ∧ R = .slice A l.length c ∧ Sel w' s m R ∧ SMap w' m n D ∧ RuleRow w' A l ∧ Below w.heap.size w w'

set_option maxRecDepth 100000 in
set_option maxHeartbeats 2000000 in
theorem asked_any (A B : Option Addr) (n c q d : Nat) (l : List (List UInt8 × List UInt8)) (R : List RuleD) (w : World) (hl : l.length = n) (hn : n ≤ 2147483647) (hlen : Lens l) (hr : PairRow w A l) (hR : R.length = q) (hf : FitRules R) (hq : RuleRow w B R) :
    Calls Try.prog 14 #[.agg #[.bool false, .slice A n c, .slice B q d]] w (SelRules n (mapOf l) R w) := by
  obtain ⟨i0, hi, hz0, hz1, hz2⟩ := info_parts Try.info61
  have HB0 := Lib.hid (b0_alloc (b0_refl w) (.cells #[.bool false, .slice A n c, .slice B q d] 25))
  have HLS := Lib.hid (labelSet_any A n c l _ hl hn hlen (hr.below HB0.out))
  have HQ := Lib.hid hq
  have HF := Lib.hid hf
  have HRL := Lib.hid hR
  have hqn : q ≤ 2147483647 := by rw [← hR]; exact hf.1
  obtain ⟨k0, k1, k2⟩ := cells3 w (.bool false) (.slice A n c) (.slice B q d) 25
  have K2 := Lib.hid k2
  clear hl hlen hr k2 hR hf hq
  go_enter Try.func14, Try.ntmps14
  go_wp2_with fail
  refine HLS.out.mono ?_
  rintro e w1 ⟨b, rfl, hbge, hm, hbl⟩
  change SMap w1 b n (mapOf l) at hm
  have c2 : w1.cell? ⟨w.heap.size, 2, none⟩ = some (.slice B q d) := (hbl.cell (p := ⟨w.heap.size, 2, none⟩) (by simp)).trans K2.out
  have HB := Lib.hid (b0_then HB0.out hbl)
  have HM := Lib.hid hm
  have hblt : b < w1.heap.size := hm.lt
  clear hbl hm hbge
  have c3 : ∀ ob : Obj, (w1.alloc ob).cell? ⟨w.heap.size, 2, none⟩ = some (.slice B q d) := fun ob => cell_old c2
  go_wp2_with fail
  have e1 : ∀ ob : Obj, (w1.alloc ob).heap.size = w1.heap.size + 1 := fun ob => by simp
  go_loopw [16] (fun i wr => ∃ (k : Nat) (v : Value) (xs : List Value), k ≤ q ∧ i = .int .i64 k ∧ SelB wr w1.heap.size b v ∧ wr.ownsRow (w1.heap.size + 1) 61 3 v k xs ∧ Lies wr xs (R.take k) ∧ Below w1.heap.size w1 wr) (fun i _ => q - (intOf i).toNat)
  case atStart => exact ⟨0, .slice none 0 0, [], Nat.zero_le _, rfl, heap_alloc_new _ _, World.ownsRow_nil _ _ _ _, Lies.nil _, b0_alloc (b0_refl w1) _⟩
  case round =>
    obtain ⟨k, v, xs, hk, rfl, hs, hown, hli, hb⟩ := hrel
    have HS := Lib.hid hs
    have HOwn := Lib.hid hown
    have HLi := Lib.hid hli
    have HBW := Lib.hid hb
    have hsl := hs.lt
    clear hs hown hli hb
    by_cases hlt : k < q
    · have hlt' : k < R.length := by rw [HRL.out]; exact hlt
      obtain ⟨b2, o2, rfl, hb2, r0, r1, A2, c4, r2, hsr⟩ := (HQ.out.below (b0_then HB.out HBW.out)) k hlt'
      have HSR := Lib.hid hsr
      have HVN := Lib.hid (show R[k].vals.length ≤ 2147483647 from HF.out.2 _ (List.getElem_mem hlt'))
      obtain ⟨s0, s1⟩ := HS.out.cells
      have t1 : ∀ ob : Obj, (wr.alloc ob).cell? ⟨w1.heap.size, 1, none⟩ = some v := fun ob => cell_old s1
      clear hsr
      obtain ⟨u0, u1, u2⟩ := cells3 wr (encStr R[k].key) (encStr R[k].op) (.slice A2 R[k].vals.length c4) 46
      go_wp2_with fail
      have t1' : ∀ ob : Obj, ((wr.alloc ob).drew).cell? ⟨w1.heap.size, 1, none⟩ = some v := t1
      have u0' : ((wr.alloc (.cells #[encStr R[k].key, encStr R[k].op, .slice A2 R[k].vals.length c4] 46)).drew).cell? ⟨wr.heap.size, 0, none⟩ = some (encStr R[k].key) := u0
      have u1' : ((wr.alloc (.cells #[encStr R[k].key, encStr R[k].op, .slice A2 R[k].vals.length c4] 46)).drew).cell? ⟨wr.heap.size, 1, none⟩ = some (encStr R[k].op) := u1
      have u2' : ((wr.alloc (.cells #[encStr R[k].key, encStr R[k].op, .slice A2 R[k].vals.length c4] 46)).drew).cell? ⟨wr.heap.size, 2, none⟩ = some (.slice A2 R[k].vals.length c4) := u2
      go_region_law
        (first
          | (go_simp; go_at_call 24; refine (rule_any R[k] A2 c4 _ (HSR.out.below (b0_drew (b0_alloc (b0_refl wr) _))) HVN.out).mono ?_; rintro e w2 ⟨A3, c5, rfl, hs3, hb3⟩; have HB3 := Lib.hid (b0_then (b0_drew (b0_alloc (b0_refl wr) _)) hb3); have HS3 := Lib.hid hs3; have p1 : w2.cell? ⟨w1.heap.size, 1, none⟩ = some v := (HB3.out.cell (p := ⟨w1.heap.size, 1, none⟩) hsl).trans s1; have p1' : ∀ ob : Obj, (w2.alloc ob).cell? ⟨w1.heap.size, 1, none⟩ = some v := fun ob => cell_old p1; have HO3 := Lib.hid (keep0 HOwn.out HB3.out); clear hs3 hb3)
          | (refine step_append_lies _ (by rfl) _ _ _ (by rfl) (w1.heap.size + 1) 61 i0 _ 3 56 Try.underlying56 hi hz0 hz1 hz2 rfl (by omega) v k xs (by rfl) (HO3.out.alloc _) ⟨w2.heap.size, 0, none⟩ 1 1 [encStr R[k].key, encStr R[k].op, .slice A3 R[k].vals.length c5] (by rfl) (by rfl) (cell_three_new _ _ _ _ _) (by simp [Value.oneCell', encStr]) (by omega) (by unfold maxLen; omega) (by omega) (Nat.le_trans hsl (Nat.le_trans HB3.out.size (by simp))) (w2.heap.size + 1) (by simp) ?_; intro g3 cap3 w3 hown3 hg3 hat3 hlt3; have hsb := asked_keep HS.out HB3.out HO3.out hg3; have y1 := Lib.frozen_of_heap hsb 1; have p1 := hsb.cells.2; have HO4 := Lib.hid hown3; have HG4 := Lib.hid hg3; have HSB := Lib.hid hsb; clear hown3 hg3 hat3 hsb)
          | fail)
      all_goals
        go_wp2_with fail
        go_roundw
        case rel =>
          have hown61 : ∀ g, v.ownBlock = some g → ∃ cs fr, (w2.alloc (.cells #[encStr R[k].key, encStr R[k].op, .slice A3 R[k].vals.length c5] 61)).heap[g]? = some (.cells cs 61 fr) := row61 (HO3.out.alloc _)
          have tk : ∀ A m, TRow wr A m → TRow (w3.setCell ⟨w1.heap.size, 1, none⟩ (.slice (some ⟨g3, 0, none⟩) (k + 1) cap3)) A m := fun A m h =>
            set58 HSB.out (((h.below HB3.out).below (b0_alloc (b0_refl w2) _)).grown HG4.out hown61)
          have ts : TRow (w3.setCell ⟨w1.heap.size, 1, none⟩ (.slice (some ⟨g3, 0, none⟩) (k + 1) cap3)) A3 R[k].vals := set58 HSB.out ((HS3.out.below (b0_alloc (b0_refl w2) _)).grown HG4.out hown61)
          refine ⟨k + 1, _, _, by omega, by go_num, HSB.out.set, ownsRow_setCell_below HO4.out (Nat.lt_succ_self _) _, ?_, ?_⟩
          · rw [List.take_succ_eq_append_getElem hlt']
            exact (HLi.out.keep tk).snoc ts
          · have hb4 := (b0_alloc (b0_then HBW.out HB3.out) (.cells #[encStr R[k].key, encStr R[k].op, .slice A3 R[k].vals.length c5] 61)).grown HG4.out (by have := HBW.out.size; have := HB3.out.size; simp; omega) (fun j hj => Nat.le_of_succ_le ((HO3.out.lt j hj).1))
            exact hb4.setCell (p := ⟨w1.heap.size, 1, none⟩) (Nat.le_refl _) _
        case measure => simp [intOf]; omega
    · have e : R.take k = R := List.take_of_length_le (by rw [HRL.out]; omega)
      have hli := HLi.out
      have hown := HOwn.out
      rw [e] at hli
      have ek : k = R.length := by rw [HRL.out]; omega
      rw [ek] at hown
      obtain ⟨A5, c5, hv, hrr⟩ := owns_ruleRow hown hli
      have HRR := Lib.hid hrr
      have HV := Lib.hid hv
      clear hli hown hrr hv e
      go_wp2_with fail
      go_ret
      exact ⟨_, _, _, A5, c5, rfl, HV.out, ⟨HS.out.cells.1, HS.out.cells.2, HS.out.lt⟩, HM.out.below HBW.out hblt, HRR.out, b0_then HB.out HBW.out⟩

end Go.Proofs.Ytefnfcpekiaenaa
