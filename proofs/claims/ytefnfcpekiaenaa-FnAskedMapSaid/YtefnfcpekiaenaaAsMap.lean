/- A selector to labels: LabelSelectorAsMap with rules, AskedMap. Condition: the library's sort is a hypothesis. -/
import Derived.Test.YtefnfcpekiaenaaAsked
namespace Go.Proofs.Ytefnfcpekiaenaa
open Go.RowKit Go.Proofs Go.Maps Go.Sort

/-- errors.New: a new error. -/
def NewErr (w : World) (e : Ending) (w' : World) : Prop := ∃ p, e = .returned (.iface 67 (.pointer (some p))) ∧ Below w.heap.size w w'
set_option maxRecDepth 100000 in
theorem new_any (s : ByteArray) (w : World) : Calls Try.prog 23 #[.string s] w (NewErr w) := by
  go_enter Try.func23, Try.ntmps23
  go_wp2_with fail
  go_ret
  exact ⟨_, rfl, b0_alloc (b0_refl w) _⟩

/-- A rule that is a label: In, and one value. -/
def good (r : RuleD) : Bool := r.op == [73, 110] && r.vals.length == 1
/-- .. and which. -/
def labelOf (r : RuleD) : List UInt8 × List UInt8 := (r.key, r.vals.headD [])
/-- It returns a map of the labels and no error; or an error, just where a rule is no label. -/
def MapRules (D : DataW Unit) (R : List RuleD) (w : World) (e : Ending) (w' : World) : Prop :=
  Below w.heap.size w w' ∧ ((R.all good = true ∧ ∃ m n, e = .returned (.tuple #[.map (some m), .nilIface]) ∧ SMap w' m n (mapFrom D (R.map labelOf)) ∧ n ≤ Maps.size D + R.length) ∨
    (R.all good = false ∧ ∃ v p, e = .returned (.tuple #[v, .iface 67 (.pointer (some p))])))
theorem not_all {R : List RuleD} {r : RuleD} (hm : r ∈ R) (h : good r = false) : R.all good = false := by
  rw [List.all_eq_false]
  exact ⟨r, hm, by simp [h]⟩

set_option maxRecDepth 100000 in
set_option maxHeartbeats 2000000 in
theorem asMap_any (s b n c : Nat) (A : Option Addr) (D : DataW Unit) (R : List RuleD) (q : Nat) (w : World) (hR : R.length = q) (hq : q ≤ 2147483647) (hs : Sel w s b (.slice A q c)) (hown : SMap w b n D) (hmax : Maps.size D ≤ 2147483647) (hk : ∀ r ∈ R, r.key.length ≤ maxLen ∧ ∀ v ∈ r.vals, v.length ≤ maxLen) (hr : RuleRow w A R) :
    Calls Try.prog 13 #[.pointer (some ⟨s, 0, none⟩)] w (MapRules D R w) := by
  have hmm := @run_makeMap Try.prog
  have hbl := hown.lt
  have e1 : (w.alloc (.map #[] 0)).heap.size = w.heap.size + 1 := by simp
  have c0 : ∀ ob : Obj, (w.alloc ob).cell? ⟨s, 0, none⟩ = some (.map (some b)) := fun ob => cell_old hs.1
  have HSel := Lib.hid hs
  have HO := Lib.hid hown
  have HX := Lib.hid hmax
  have HRL := Lib.hid hR
  have HK := Lib.hid hk
  have HR := Lib.hid hr
  clear hs hown hmax hR hk hr
  go_enter Try.func13, Try.ntmps13
  go_wp2_with (first
    | (at_range; refine wpList_range_own _ rfl _ 36 rfl 9 9 law9 Try.underlying36 _ b n _ rfl (World.ownsMap.alloc HO.out _) ?_; intro w0 hrg0 hg0 hs0)
    | fail)
  go_frame
  rw [e1] at hrg0 ⊢
  clear hs0
  have HM0 : SMap w0 w.heap.size 0 (.map []) := World.ownsMap.kept (World.ownsMap_made w Try.prog 9 (plainElem Try.prog 9)) hg0 (by simp)
  have HB0 := Lib.hid ((b0_alloc (b0_refl w) (.map #[] 0)).grown hg0 (b0_alloc (b0_refl w) _).size (fun j hj => by cases hj))
  clear hg0
  go_loopw [5] (fun _ wr => ∃ (left : Lit → Bool) (cnt : Nat) (Dout : DataW Unit), wr.ranges Try.prog 9 (plainElem Try.prog 9) b (w.heap.size + 1) n D left cnt ∧ cnt ≤ Maps.size D ∧
      SMap wr w.heap.size (Maps.size D - cnt) Dout ∧ Agree Dout D left ∧ Below w.heap.size w wr)
    (fun _ wr => wr.rangeLeft b (w.heap.size + 1))
  case atStart => exact ⟨_, _, .map [], hrg0, Nat.le_refl _, HM0.mono (Nat.zero_le _), agree_start D, HB0.out⟩
  case round =>
    obtain ⟨left, cnt, Dout, hrg, hcs, hout, hA, hnx⟩ := hrel
    go_wp2_with (first
      | (at_next; refine wpList_next_ranges _ rfl _ rfl 9 law9 (plainElem Try.prog 9) encStr encStr keyInv elemInv b (w.heap.size + 1) n _ _ _ rfl hrg ?_ ?_)
      | fail)
    · intro hc0 hl0
      have c1 : wr.cell? ⟨s, 1, none⟩ = some (.slice A q c) := (HSel.out.then_ hnx).2.1
      subst hc0
      have e := agree_end hA hl0 (hout.canon law9) (HO.out.canon law9)
      subst e
      have HNX := Lib.hid hnx
      have HOut := Lib.hid hout
      clear hnx hout hA hrg hrg0 HM0
      obtain ⟨w2, hw2⟩ : ∃ w2, w2 = wr := ⟨_, rfl⟩
      subst hw2
      go_wp2_with fail
      go_loopw [30] (fun i wr => ∃ k : Nat, k ≤ q ∧ i = .int .i64 k ∧ (R.take k).all good = true ∧ SMap wr w.heap.size (Maps.size Dout + k) (mapFrom Dout ((R.take k).map labelOf)) ∧ Below w.heap.size w wr) (fun i _ => q - (intOf i).toNat)
      case atStart => exact ⟨0, Nat.zero_le _, rfl, rfl, by simpa [mapFrom] using HOut.out, HNX.out⟩
      case round =>
        obtain ⟨k, hk, rfl, hall, hm, hb⟩ := hrel
        have HAll := Lib.hid hall
        have HM := Lib.hid hm
        have HB := Lib.hid hb
        have hml := hm.lt
        clear hall hm hb
        by_cases hlt : k < q
        · have hlt' : k < R.length := by rw [HRL.out]; exact hlt
          obtain ⟨b2, o2, rfl, hb2, r0, r1, A2, c4, r2, hsr⟩ := (HR.out.below HB.out) k hlt'
          have HSR := Lib.hid hsr
          clear hsr
          cases hop : (R[k].op == [73, 110])
          · have HG := Lib.hid (not_all (List.getElem_mem hlt') (show good R[k] = false by unfold good; rw [hop]; rfl))
            go_wp2_with (first | (go_at_call 23; refine (new_any _ _).mono ?_; rintro e w3 ⟨p, rfl, hb3⟩) | fail)
            all_goals
              refine bodyPost_ret (results_tmp2 rfl _ _ _) rfl ?_
              exact ⟨b0_then (b0_alloc HB.out _) hb3, .inr ⟨HG.out, _, _, rfl⟩⟩
          · cases hv1 : (R[k].vals.length == 1)
            · have HG := Lib.hid (not_all (List.getElem_mem hlt') (show good R[k] = false by unfold good; rw [hv1, Bool.and_false]))
              have hv2 : ¬ R[k].vals.length = 1 := by simpa using hv1
              clear hv1
              go_wp2_with (first | (go_at_call 23; refine (new_any _ _).mono ?_; rintro e w3 ⟨p, rfl, hb3⟩) | fail)
              refine bodyPost_ret (results_tmp2 rfl _ _ _) rfl ?_
              exact ⟨b0_then (b0_alloc HB.out _) hb3, .inr ⟨HG.out, _, _, rfl⟩⟩
            · have hv2 : R[k].vals.length = 1 := by simpa using hv1
              have hgood : good R[k] = true := by unfold good; rw [hop, hv1]; rfl
              have HGood := Lib.hid hgood
              clear hgood hv1
              have hv0 : 0 < R[k].vals.length := by omega
              obtain ⟨b3, o3, rfl, hb3, hc3⟩ := HSR.out 0 hv0
              have hlab : labelOf R[k] = (R[k].key, R[k].vals[0]) := by
                unfold labelOf
                rw [List.headD_eq_head?_getD, List.head?_eq_getElem?, List.getElem?_eq_getElem hv0]
                rfl
              have HLab := Lib.hid hlab
              have hkk := (HK.out _ (List.getElem_mem hlt')).1
              have hvv := (HK.out _ (List.getElem_mem hlt')).2 _ (List.getElem_mem hv0)
              have hc30 : wr.cell? ⟨b3, o3, none⟩ = some (encStr R[k].vals[0]) := by simpa using hc3
              obtain ⟨w4, hrun, hown4, hg4⟩ := World.ownsMap.update (t := 36) (World.ownsMap.drew (World.ownsMap.alloc HM.out (.cells #[.string ⟨R[k].key.toArray⟩, .string ⟨R[k].op.toArray⟩, .slice (some ⟨b3, o3, none⟩) 1 c4] 61))) law9 Try.underlying36 (by have := HX.out; unfold maxLen; omega) (keyStr hkk) (elemStr hvv)
              have hrun4 : (Instr.mapUpdate 36 (.map (some w.heap.size)) (.string ⟨R[k].key.toArray⟩) (encStr R[k].vals[0])).run Try.prog (wr.alloc (.cells #[.string ⟨R[k].key.toArray⟩, .string ⟨R[k].op.toArray⟩, .slice (some ⟨b3, o3, none⟩) 1 c4] 61)).drew = .ok () w4 := hrun
              obtain ⟨u0, u1, u2'⟩ := cells3 wr (.string ⟨R[k].key.toArray⟩) (.string ⟨R[k].op.toArray⟩) (.slice (some ⟨b3, o3, none⟩) 1 c4) 61
              have u3' : (wr.alloc (.cells #[.string ⟨R[k].key.toArray⟩, .string ⟨R[k].op.toArray⟩, .slice (some ⟨b3, o3, none⟩) 1 c4] 61)).cell? ⟨b3, o3, none⟩ = some (encStr R[k].vals[0]) := cell_old hc30
              have p0 : w4.cell? ⟨wr.heap.size, 0, none⟩ = some (.string ⟨R[k].key.toArray⟩) := hg4.cell u0 (fun e => by have := Option.some.inj e; simp at this; omega)
              have p2 : w4.cell? ⟨wr.heap.size, 2, none⟩ = some (.slice (some ⟨b3, o3, none⟩) 1 c4) := hg4.cell u2' (fun e => by have := Option.some.inj e; simp at this; omega)
              have p3 : w4.cell? ⟨b3, o3, none⟩ = some (encStr R[k].vals[0]) := hg4.cell u3' (fun e => by
                have e1 : b3 = w.heap.size := Option.some.inj e
                obtain ⟨es, clock, h1, _⟩ := HM.out
                unfold World.cell? at hc30
                simp only [e1, h1] at hc30
                cases hc30)
              have HOwn4 := Lib.hid hown4
              have HG4 := Lib.hid hg4
              clear hlab hkk hvv hown4 hg4 hrun hc3
              go_wp2_with fail
              go_region_held3 (fun w' => w'.cell? ⟨wr.heap.size, 0, none⟩ = some (.string ⟨R[k].key.toArray⟩) ∧ w'.cell? ⟨wr.heap.size, 2, none⟩ = some (.slice (some ⟨b3, o3, none⟩) 1 c4) ∧ w'.cell? ⟨b3, o3, none⟩ = some (encStr R[k].vals[0])) (go_keep) (first | fail)
              all_goals
                (try simp only [Exit.inBlock, Exit.then])
                go_wp2_with fail
                go_roundw
                case rel =>
                  refine ⟨k + 1, by omega, by go_num, ?_, ?_, ?_⟩
                  · rw [List.take_succ_eq_append_getElem hlt', List.all_append, HAll.out]
                    simp [HGood.out]
                  · rw [List.take_succ_eq_append_getElem hlt', List.map_append, List.map_singleton, mapFrom_snoc, HLab.out]
                    exact HOwn4.out
                  · exact (b0_drew (b0_alloc HB.out _)).grown HG4.out (b0_drew (b0_alloc HB.out _)).size (fun j hj => by cases hj; exact Nat.le_refl _)
                case measure => simp [intOf]; omega
        · go_wp2_with fail
          (try simp only [Exit.inBlock, Exit.then]); refine bodyPost_ret (results_tmp2 rfl _ _ _) rfl ?_
          have e : R.take k = R := List.take_of_length_le (by rw [HRL.out]; omega)
          have h1 := HAll.out
          have h2 := HM.out
          rw [e] at h1 h2
          exact ⟨HB.out, .inl ⟨h1, _, _, rfl, h2, by rw [HRL.out]; omega⟩⟩
    · intro x c kl yd yp w1 cnt1 hkey hlk hv hat hrg1 hlt hg1 hs1 hen
      clear hs1
      have hout1 := World.ownsMap.kept hout hg1 (by simp)
      have HNX := Lib.hid (hnx.grown hg1 hnx.size (fun j hj => by cases hj; omega))
      have HKey := Lib.hid hkey
      have HV := Lib.hid hv
      clear hkey hv hg1 hnx
      go_wp2_with (first
        | (at_mapUpdate; refine wpList_mapUpdate_own _ rfl _ _ _ 36 rfl 9 9 law9 Try.underlying36 _ w.heap.size _ _ rfl hout1 (by have := HX.out; unfold maxLen; omega) _ _ _ rfl rfl HKey.out _ _ HV.out ?_; intro w2 hout2 hg2; go_frame)
        | fail)
      have hrg2 := hrg1.kept hg2 (fun e => by have := Option.some.inj e; omega) (fun e => by have := Option.some.inj e; omega)
      go_roundw
      case rel =>
        exact ⟨_, cnt1, _, hrg2, by omega, World.ownsMap.mono hout2 (by omega), agree_step hA (World.ownsMap.isMap hout) (keyLit HKey.out) hat, HNX.out.grown hg2 HNX.out.size (fun j hj => by cases hj; exact Nat.le_refl _)⟩
      case measure => rw [hrg2.left_eq, hrg.left_eq]; exact hlt

set_option maxRecDepth 100000 in
theorem keysNil_any (hnil : SortNil) (w : World) : Calls Try.prog 25 #[.map none] w (Gives (.slice none 0 0) w) := by
  have HSN := Lib.hid hnil
  clear hnil
  have hrg := run_range_nilMap (P := Try.prog) w 36 9 9 Try.underlying36
  have hnx : ∀ ty, (Instr.next (.pointer (some ⟨w.heap.size, 0, none⟩)) false ty).run Try.prog (w.alloc (.mapIter none 0 #[] 0)) = _ := fun ty => run_next_nilMap _ ty 0 0 #[]
  go_enter Try.func25, Try.ntmps25
  go_wp2_with fail
  refine wp_loop_rounds 1 ?_
  rw [rounds_succ]
  go_wp2_with fail
  refine (HSN.out none 0 _).mono ?_
  rintro e w' ⟨rfl, rfl⟩
  go_wp2_with fail
  go_ret
  exact ⟨rfl, b0_alloc (b0_refl w) _⟩

set_option maxRecDepth 100000 in
theorem pairsNil_any (hnil : SortNil) (w : World) : Calls Try.prog 15 #[.map none] w (Gives (.slice none 0 0) w) := by
  have HK := Lib.hid (keysNil_any hnil w)
  clear hnil
  go_enter Try.func15, Try.ntmps15
  go_wp2_with fail
  refine HK.out.mono ?_
  rintro e w1 ⟨rfl, hb⟩
  have HB := Lib.hid hb
  clear hb
  go_wp2_with fail
  refine wp_loop_rounds 1 ?_
  rw [rounds_succ]
  go_wp2_with fail
  go_ret
  exact ⟨rfl, HB.out⟩

set_option maxRecDepth 100000 in
theorem askedNone_any (x y : Value) (hx : x.oneCell' = true) (hy : y.oneCell' = true) (A B : Option Addr) (n c m d : Nat) (ex : x = .slice A n c) (ey : y = .slice B m d) (w : World) : Calls Try.prog 14 #[.agg #[.bool true, x, y]] w (Gives (.pointer none) w) := by
  subst ex ey
  clear hx hy
  go_enter Try.func14, Try.ntmps14
  go_wp2_with fail
  go_ret
  exact ⟨rfl, b0_alloc (b0_refl w) _⟩

set_option maxRecDepth 100000 in
theorem asMapNil_any (w : World) : Calls Try.prog 13 #[.pointer none] w (Gives (.tuple #[.map none, .nilIface]) w) := by
  go_enter Try.func13, Try.ntmps13
  go_wp2_with fail
  (try simp only [Exit.inBlock, Exit.then]); refine bodyPost_ret (results_tmp2 rfl _ _ _) rfl ?_
  exact ⟨rfl, b0_refl w⟩

/-- What AskedMap, and the reference's, hands back. -/
def AskedGives (bad : Bool) (nn : Bool) (l : List (List UInt8 × List UInt8)) (R : List RuleD) (w : World) (e : Ending) (w' : World) : Prop :=
  Below w.heap.size w w' ∧ ∃ v g, e = .returned (.tuple #[v, .bool g]) ∧ ((nn = true ∧ v = .slice none 0 0 ∧ g = bad) ∨ (nn = false ∧ R.all good = true ∧ g = bad ∧ w'.ownsRow w.heap.size 30 2 v (specPairs (l ++ R.map labelOf)).length (flat (specPairs (l ++ R.map labelOf)))) ∨ (nn = false ∧ R.all good = false ∧ v = .slice none 0 0 ∧ g = !bad))

set_option maxRecDepth 100000 in
set_option maxHeartbeats 1000000 in
theorem askedMap_any (hsort : SortLaw) (hnil : SortNil) (nn : Bool) (A B : Option Addr) (n c q d : Nat) (l : List (List UInt8 × List UInt8)) (R : List RuleD) (w : World) (hl : l.length = n) (hn : n ≤ 2147483647) (hlen : Lens l) (hr : PairRow w A l) (hR : R.length = q) (hf : FitRules R) (hq : RuleRow w B R) (hk : ∀ r ∈ R, r.key.length ≤ maxLen ∧ ∀ v ∈ r.vals, v.length ≤ maxLen) :
    Calls Try.prog 6 #[.agg #[.bool nn, .slice A n c, .slice B q d]] w (AskedGives false nn l R w) := by
  have HB0 := Lib.hid (b0_alloc (b0_refl w) (.cells #[.bool nn, .slice A n c, .slice B q d] 25))
  have HS := Lib.hid hsort
  have HSN := Lib.hid hnil
  cases nn
  · have HA := Lib.hid (asked_any A B n c q d l R _ hl hn hlen (hr.below HB0.out) hR hf (hq.below HB0.out))
    have HK := Lib.hid hk
    have HF := Lib.hid hf
    have HRL := Lib.hid hR
    clear hl hlen hr hsort hnil hR hf hq hk
    go_enter Try.func6, Try.ntmps6
    go_wp2_with fail
    refine HA.out.mono ?_
    rintro e w1 ⟨s, m, Rv, A5, c5, rfl, rfl, hs, hm, hrr, hb⟩
    have HB1 := Lib.hid (b0_then HB0.out hb)
    have HD := Lib.hid (map_size hm)
    have HC := Lib.hid (asMap_any s m n c5 A5 (mapOf l) R R.length w1 rfl HF.out.1 hs hm (by have := HD.out; omega) HK.out hrr)
    clear hs hm hb hrr
    go_wp2_with fail
    refine HC.out.mono ?_
    rintro e w2 ⟨hb2, ⟨hall, m2, n2, rfl, hm2, hn2⟩ | ⟨hall, v2, p2, rfl⟩⟩
    · have hmm : mapFrom (mapOf l) (R.map labelOf) = mapOf (l ++ R.map labelOf) := by unfold mapOf mapFrom; rw [List.foldl_append]
      rw [hmm] at hm2
      have HB2 := Lib.hid (b0_then HB1.out hb2)
      have HM2 := Lib.hid hm2
      have HN2 := Lib.hid hn2
      have HAll := Lib.hid hall
      clear hm2 hb2 hn2 hall hmm
      go_wp2_with fail
      refine (pairs_any HS.out HSN.out m2 n2 (mapOf (l ++ R.map labelOf)) w2 HM2.out (by have := HD.out; have := HN2.out; have := map_size HM2.out; have := HF.out.1; omega)).mono ?_
      rintro e w3 ⟨v, rfl, hr3, hb3⟩
      rw [pairsOf_mapOf] at hr3
      have HB3 := Lib.hid (b0_then HB2.out hb3)
      have HR3 := Lib.hid (hr3.mono HB2.out.size)
      clear hr3 hb3
      go_wp2_with fail
      (try simp only [Exit.inBlock, Exit.then]); refine bodyPost_ret (results_tmp2 rfl _ _ _) rfl ?_
      exact ⟨HB3.out, _, _, rfl, .inr (.inl ⟨rfl, HAll.out, rfl, HR3.out⟩)⟩
    · have HB2 := Lib.hid (b0_then HB1.out hb2)
      have HAll := Lib.hid hall
      clear hb2 hall
      go_wp2_with fail
      (try simp only [Exit.inBlock, Exit.then]); refine bodyPost_ret (results_tmp2 rfl _ _ _) rfl ?_
      exact ⟨HB2.out, _, _, rfl, .inr (.inr ⟨rfl, HAll.out, rfl, rfl⟩)⟩
  · clear hl hn hlen hr hsort hnil hR hf hq hk
    have HA := Lib.hid (askedNone_any (.slice A n c) (.slice B q d) rfl rfl A B n c q d rfl rfl (w.alloc (.cells #[.bool true, .slice A n c, .slice B q d] 25)))
    go_enter Try.func6, Try.ntmps6
    go_wp2_with fail
    refine HA.out.mono ?_
    rintro e w1 ⟨rfl, hb⟩
    have HB1 := Lib.hid (b0_then HB0.out hb)
    clear hb
    go_wp2_with fail
    refine (asMapNil_any w1).mono ?_
    rintro e w2 ⟨rfl, hb2⟩
    have HB2 := Lib.hid (b0_then HB1.out hb2)
    clear hb2
    go_wp2_with fail
    refine (pairsNil_any HSN.out w2).mono ?_
    rintro e w3 ⟨rfl, hb3⟩
    have HB3 := Lib.hid (b0_then HB2.out hb3)
    clear hb3
    go_wp2_with fail
    (try simp only [Exit.inBlock, Exit.then]); refine bodyPost_ret (results_tmp2 rfl _ _ _) rfl ?_
    exact ⟨HB3.out, _, _, rfl, .inl ⟨rfl, rfl, rfl⟩⟩

end Go.Proofs.Ytefnfcpekiaenaa
