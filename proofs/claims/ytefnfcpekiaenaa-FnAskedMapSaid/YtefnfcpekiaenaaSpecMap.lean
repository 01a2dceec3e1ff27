/- The reference: spec.AskedMap. Condition: the labels and the rules lie as listed and fit. -/
import Derived.Test.YtefnfcpekiaenaaAsMap
namespace Go.Proofs.Ytefnfcpekiaenaa
open Go.RowKit Go.Proofs Go.Maps Go.Sort

theorem own_empty30 (w : World) : (w.alloc (.cells #[] 30)).ownsRow w.heap.size 30 2 (.slice (some ⟨w.heap.size, 0, none⟩) 0 0) 0 [] :=
  ⟨rfl, .inr ⟨w.heap.size, 0, #[], rfl, Nat.le_refl _, heap_alloc_new w _, Nat.le_refl _, Nat.zero_le _, rfl, rfl⟩⟩
theorem flat_length (l : List (List UInt8 × List UInt8)) : (flat l).length = l.length * 2 := by
  induction l with
  | nil => rfl
  | cons p r ih =>
    have e : flat (p :: r) = encStr p.1 :: encStr p.2 :: flat r := by simp [flat]
    rw [e]
    simp [ih]
    omega
theorem flat_one (l : List (List UInt8 × List UInt8)) : ∀ u ∈ flat l, u.oneCell' = true := by
  intro u hu
  obtain ⟨p, _, hp⟩ := List.mem_flatMap.1 hu
  simp at hp
  rcases hp with rfl | rfl <;> rfl
/-- The cells of pairs, one by one. -/
theorem pair_cells_at {w : World} {b o : Nat} {l : List (List UInt8 × List UInt8)} (h : PairRow w (some ⟨b, o, none⟩) l) : ∀ j u, (flat l)[j]? = some u → w.cell? ((⟨b, o, none⟩ : Addr).add j) = some u := by
  intro j u hu
  have hj : j < l.length * 2 := by
    have := (List.getElem?_eq_some_iff.1 hu).1
    rwa [flat_length] at this
  have hk : j / 2 < l.length := by omega
  obtain ⟨b', o', e, _, h1, h2⟩ := h (j / 2) hk
  cases e
  obtain ⟨f1, f2⟩ := flat_get l (j / 2) hk
  have a0 : (⟨b, o, none⟩ : Addr).add j = ⟨b, o + j, none⟩ := by
    unfold Addr.add
    split
    · rename_i h0; rw [h0]; rfl
    · rfl
  rw [a0]
  rcases Nat.mod_two_eq_zero_or_one j with hm | hm
  · have ej : j = j / 2 * 2 := by omega
    rw [ej] at hu ⊢
    rw [f1] at hu
    cases hu
    exact h1
  · have ej : j = j / 2 * 2 + 1 := by omega
    rw [ej] at hu ⊢
    rw [f2] at hu
    cases hu
    exact h2

theorem cell_two_at (w : World) (x y : Value) (t : TypeId) {g : Nat} (hg : w.heap.size = g) : ∀ j u, [x, y][j]? = some u → (w.alloc (.cells #[x, y] t)).cell? ((⟨g, 0, none⟩ : Addr).add j) = some u := hg ▸ cell_two_new w x y t

set_option maxRecDepth 100000 in
set_option maxHeartbeats 2000000 in
theorem specAsked_any (nn : Bool) (A B : Option Addr) (n c q d : Nat) (l : List (List UInt8 × List UInt8)) (R : List RuleD) (w : World) (hl : l.length = n) (hn : n ≤ 2147483647) (hr : PairRow w A l) (hR : R.length = q) (hqn : q ≤ 2147483647) (hq : RuleRow w B R) :
    Calls Try.prog 7 #[.agg #[.bool nn, .slice A n c, .slice B q d]] w (AskedGives true nn l R w) := by
  obtain ⟨j0, hj, hy0, hy1, hy2⟩ := info_parts Try.info30
  have HB0 := Lib.hid (b0_alloc (b0_refl w) (.cells #[.bool nn, .slice A n c, .slice B q d] 25))
  obtain ⟨k0, k1, k2⟩ := cells3 w (.bool nn) (.slice A n c) (.slice B q d) 25
  have K2 := Lib.hid k2
  have HL := Lib.hid hl
  have HR := Lib.hid hr
  have HRL := Lib.hid hR
  have HQ := Lib.hid hq
  clear hl hr hR hq k2
  cases nn
  · go_enter Try.func7, Try.ntmps7
    go_upto_region 3 with fail
    go_cut [4] (fun s4 wx => wx.ownsRow (w.heap.size + 1) 30 2 s4 n (flat l) ∧ Below (w.heap.size + 1) (w.alloc (.cells #[.bool false, .slice A n c, .slice B q d] 25)) wx)
    case first =>
      have HOE := Lib.hid (show ((w.alloc (.cells #[.bool false, .slice A n c, .slice B q d] 25)).alloc (.cells #[] 30)).ownsRow (w.heap.size + 1) 30 2 (.slice (some ⟨w.heap.size + 1, 0, none⟩) 0 0) 0 [] by
        have h := own_empty30 (w.alloc (.cells #[.bool false, .slice A n c, .slice B q d] 25))
        rw [World.size_alloc] at h
        exact h)
      have HBE := Lib.hid (show Below (w.heap.size + 1) (w.alloc (.cells #[.bool false, .slice A n c, .slice B q d] 25)) ((w.alloc (.cells #[.bool false, .slice A n c, .slice B q d] 25)).alloc (.cells #[] 30)) from (Below.refl _ _).alloc (by simp) _)
      rcases Nat.eq_zero_or_pos n with h0 | h0
      · have hl0 : l = [] := List.length_eq_zero_iff.1 (HL.out.trans h0)
        subst hl0
        subst h0
        clear HL HR
        cases A with
        | none =>
          go_wp2_with fail
          go_meet
          exact ⟨HOE.out, HBE.out⟩
        | some ad =>
          go_wp2_with fail
          go_meet
          exact ⟨HOE.out, HBE.out⟩
      · obtain ⟨b, o, rfl, _⟩ := HR.out 0 (by rw [HL.out]; exact h0)
        have HN := Lib.hid (pair_cells_at (HR.out.below (b0_alloc (b0_alloc (b0_refl w) (.cells #[.bool false, .slice (some ⟨b, o, none⟩) n c, .slice B q d] 25)) (.cells #[] 30))))
        have HFL := Lib.hid (show (flat l).length = n * 2 by rw [flat_length, HL.out])
        go_wp2_with (first
          | (at_builtin; refine wpList_append_own _ rfl _ _ 22 rfl (w.heap.size + 1) 30 j0 _ 2 32 Try.underlying22 hj hy0 hy1 hy2 rfl (by decide) _ _ _ rfl HOE.out ⟨b, o, none⟩ n _ (flat l) rfl HFL.out HN.out (flat_one l) (by unfold maxLen; omega) (by omega) (by simp) ?_; intro v1 w3 hown' hg3 hnil3; clear hnil3; have HO3 := Lib.hid hown'; have HG3 := Lib.hid hg3; clear hown' hg3; go_frame)
          | fail)
        go_meet
        exact ⟨by simpa using HO3.out, HBE.out.grown HG3.out (by simp) (fun j hj => by cases hj; exact Nat.le_refl _)⟩
    case rest =>
      obtain ⟨hown, hb⟩ := hcut
      have HO := Lib.hid hown
      have HBC := Lib.hid hb
      clear hown hb
      go_wp2_with fail
      go_loopw [4, 5] (fun v i wr => ∃ k : Nat, k ≤ q ∧ i = .int .i64 k ∧ (R.take k).all good = true ∧ wr.ownsRow (w.heap.size + 1) 30 2 v (n + k) (flat (l ++ (R.take k).map labelOf)) ∧ Below (w.heap.size + 1) (w.alloc (.cells #[.bool false, .slice A n c, .slice B q d] 25)) wr) (fun _ i _ => q - (intOf i).toNat)
      case atStart => exact ⟨0, Nat.zero_le _, rfl, rfl, by simpa using HO.out, HBC.out⟩
      case round =>
        obtain ⟨k, hk, rfl, hall, hrow, hb⟩ := hrel
        have HAll := Lib.hid hall
        have HRow := Lib.hid hrow
        have HB := Lib.hid hb
        have HBW := Lib.hid (HB0.out.trans (Below.mono hb (Nat.le_succ _)))
        have c2 : wr.cell? ⟨w.heap.size, 2, none⟩ = some (.slice B q d) := (hb.cell (p := ⟨w.heap.size, 2, none⟩) (Nat.lt_succ_self _)).trans K2.out
        clear hall hrow hb
        by_cases hlt : k < q
        · have hlt' : k < R.length := by rw [HRL.out]; exact hlt
          obtain ⟨b2, o2, rfl, hb2, r0, r1, A2, c4, r2, hsr⟩ := HQ.out k hlt'
          have r0' : wr.cell? ⟨b2, o2 + k * 3, none⟩ = some (encStr R[k].key) := (HBW.out.cell (p := ⟨b2, o2 + k * 3, none⟩) hb2).trans r0
          have r1' : wr.cell? ⟨b2, o2 + k * 3 + 1, none⟩ = some (encStr R[k].op) := (HBW.out.cell (p := ⟨b2, o2 + k * 3 + 1, none⟩) hb2).trans r1
          have r2' : wr.cell? ⟨b2, o2 + k * 3 + 2, none⟩ = some (.slice A2 R[k].vals.length c4) := (HBW.out.cell (p := ⟨b2, o2 + k * 3 + 2, none⟩) hb2).trans r2
          have HSR := Lib.hid hsr
          clear hsr r0 r1 r2
          cases hop : (R[k].op == [73, 110])
          · have HG := Lib.hid (not_all (List.getElem_mem hlt') (show good R[k] = false by unfold good; rw [hop]; rfl))
            go_wp2_with fail
            (try simp only [Exit.inBlock, Exit.then]); refine bodyPost_ret (results_tmp2 rfl _ _ _) rfl ?_
            exact ⟨b0_alloc HBW.out _, _, _, rfl, .inr (.inr ⟨rfl, HG.out, rfl, rfl⟩)⟩
          · cases hv1 : (R[k].vals.length == 1)
            · have HG := Lib.hid (not_all (List.getElem_mem hlt') (show good R[k] = false by unfold good; rw [hv1, Bool.and_false]))
              have hv2 : ¬ R[k].vals.length = 1 := by simpa using hv1
              clear hv1
              go_wp2_with fail
              (try simp only [Exit.inBlock, Exit.then]); refine bodyPost_ret (results_tmp2 rfl _ _ _) rfl ?_
              exact ⟨b0_alloc HBW.out _, _, _, rfl, .inr (.inr ⟨rfl, HG.out, rfl, rfl⟩)⟩
            · have hv2 : R[k].vals.length = 1 := by simpa using hv1
              have hgood : good R[k] = true := by unfold good; rw [hop, hv1]; rfl
              have HGood := Lib.hid hgood
              clear hgood hv1
              have hv0 : 0 < R[k].vals.length := by omega
              obtain ⟨b3, o3, rfl, hb3, hc3⟩ := HSR.out 0 hv0
              have hlab : labelOf R[k] = (R[k].key, R[k].vals[0]) := by
                unfold labelOf
                rw [List.headD_eq_head?_getD, List.head?_eq_getElem?, List.getElem?_eq_getElem hv0]
                rfl
              have HLab := Lib.hid hlab
              have hc30 : wr.cell? ⟨b3, o3, none⟩ = some (encStr R[k].vals[0]) := (HBW.out.cell (p := ⟨b3, o3, none⟩) hb3).trans (by simpa using hc3)
              obtain ⟨u0, u1, u2'⟩ := cells3 wr (.string ⟨R[k].key.toArray⟩) (.string ⟨R[k].op.toArray⟩) (.slice (some ⟨b3, o3, none⟩) 1 c4) 46
              have u3' : (wr.alloc (.cells #[.string ⟨R[k].key.toArray⟩, .string ⟨R[k].op.toArray⟩, .slice (some ⟨b3, o3, none⟩) 1 c4] 46)).cell? ⟨b3, o3, none⟩ = some (encStr R[k].vals[0]) := cell_old hc30
              clear hlab hc3
              go_wp2_with fail
              go_region_held3 (fun w' => w'.cell? ⟨wr.heap.size, 0, none⟩ = some (.string ⟨R[k].key.toArray⟩) ∧ w'.cell? ⟨wr.heap.size, 2, none⟩ = some (.slice (some ⟨b3, o3, none⟩) 1 c4) ∧ w'.cell? ⟨b3, o3, none⟩ = some (encStr R[k].vals[0])) (go_keep)
                (first
                  | (refine step_append_lies _ (by rfl) _ _ _ (by rfl) (w.heap.size + 1) 30 j0 _ 2 32 Try.underlying22 hj hy0 hy1 hy2 (by rfl) (by omega) _ (n + k) _ (by rfl) (World.ownsRow.alloc (World.ownsRow.drew (HRow.out.alloc _)) _) ⟨wr.heap.size + 1, 0, none⟩ 1 1 [.string ⟨R[k].key.toArray⟩, encStr R[k].vals[0]] (by rfl) (by rfl) (cell_two_at _ _ _ _ (by simp)) (by simp [Value.oneCell', encStr]) (by omega) (by unfold maxLen; omega) (by omega) (by have := HBW.out.size; have := HB.out.size; simp at this ⊢; omega) (wr.heap.size + 2) (by simp) ?_; intro g3 cap3 w3 hown3 hg3 hat3 hlt3; have p0 : w3.cell? ⟨wr.heap.size, 0, none⟩ = some (.string ⟨R[k].key.toArray⟩) := hg3.cell (cell_old u0) (fun e => by have := (HRow.out.lt wr.heap.size e.symm).2; omega); have p2 : w3.cell? ⟨wr.heap.size, 2, none⟩ = some (.slice (some ⟨b3, o3, none⟩) 1 c4) := hg3.cell (cell_old u2') (fun e => by have := (HRow.out.lt wr.heap.size e.symm).2; omega); have p3 : w3.cell? ⟨b3, o3, none⟩ = some (encStr R[k].vals[0]) := hg3.cell (cell_old u3') (fun e => by have := (HRow.out.lt b3 e.symm).1; omega); have HO3 := Lib.hid hown3; have HG3 := Lib.hid hg3; clear hown3 hg3 hat3)
                  | fail)
              all_goals
                (try simp only [Exit.inBlock, Exit.then])
                go_wp2_with fail
                go_roundw
                case rel =>
                  refine ⟨k + 1, by omega, by go_num, ?_, ?_, ?_⟩
                  · rw [List.take_succ_eq_append_getElem hlt', List.all_append, HAll.out]
                    simp [HGood.out]
                  · rw [List.take_succ_eq_append_getElem hlt', List.map_append, List.map_singleton, HLab.out, ← List.append_assoc, flat_snoc]
                    exact HO3.out
                  · exact (Below.alloc (Below.drew (Below.alloc HB.out (by have := HB.out.size; simp at this; omega) _)) (by have := HB.out.size; simp at this ⊢; omega) _).grown HG3.out (by have := HB.out.size; simp at this ⊢; omega) (fun j hj => (HRow.out.lt j hj).1)
                case measure => simp [intOf]; omega
        · have e : R.take k = R := List.take_of_length_le (by rw [HRL.out]; omega)
          have hrow := HRow.out
          have hall := HAll.out
          rw [e] at hrow hall
          have ek : n + k = (l ++ R.map labelOf).length := by rw [List.length_append, List.length_map, HL.out, HRL.out]; omega
          have hsz : n + k ≤ 4294967296 := by omega
          rw [ek] at hrow
          obtain ⟨A5, c5, hv, hpr⟩ := owns_pairRow hrow
          rw [← ek] at hv
          subst hv
          have HSP := Lib.hid (specPairs_any A5 (n + k) c5 (l ++ R.map labelOf) wr ek.symm hsz hpr)
          have HAll2 := Lib.hid hall
          clear hrow hall hpr e ek
          go_wp2_with fail
          refine HSP.out.mono ?_
          rintro e w4 ⟨v4, rfl, hr4, hb4⟩
          have HR4 := Lib.hid (hr4.mono HBW.out.size)
          have HB4 := Lib.hid (b0_then HBW.out hb4)
          clear hr4 hb4
          go_wp2_with fail
          (try simp only [Exit.inBlock, Exit.then]); refine bodyPost_ret (results_tmp2 rfl _ _ _) rfl ?_
          exact ⟨HB4.out, _, _, rfl, .inr (.inl ⟨rfl, HAll2.out, rfl, HR4.out⟩)⟩
  · clear HL HR HRL HQ
    go_enter Try.func7, Try.ntmps7
    go_wp2_with fail
    (try simp only [Exit.inBlock, Exit.then]); refine bodyPost_ret (results_tmp2 rfl _ _ _) rfl ?_
    exact ⟨HB0.out, _, _, rfl, .inl ⟨rfl, rfl, rfl⟩⟩

end Go.Proofs.Ytefnfcpekiaenaa
