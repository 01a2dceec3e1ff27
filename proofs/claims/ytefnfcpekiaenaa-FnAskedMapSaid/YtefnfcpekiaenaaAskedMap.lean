/- FnAskedMap returns true for every input: a label selector is labels just if each of its rules is an In of one value; it is its labels then, and these. No condition beyond the row's own. -/
import Derived.Test.YtefnfcpekiaenaaSpecMap
import Derived.Test.YtefnfcpekiaenaaAskedFrom
import Derived.Lib.SmallJoins
import Derived.SliceStrings
namespace Go.Proofs.Ytefnfcpekiaenaa
open Go.RowKit Go.Proofs Go.Maps Go.Sort

/-- Of two answers: both say the same of a selector. -/
theorem two_answers {nn : Bool} {l : List (List UInt8 × List UInt8)} {R : List RuleD} {w1 w2 w3 w4 : World} {e1 e2 : Ending} (h1 : AskedGives false nn l R w1 e1 w2) (h2 : AskedGives true nn l R w3 e2 w4) (hb : Below w2.heap.size w2 w4) (hlen : l.length + R.length ≤ 4294967296) :
    (∃ (L : List (List UInt8 × List UInt8)) (A B : Option Addr) (c d : Nat), L.length ≤ 4294967296 ∧ e1 = .returned (.tuple #[.slice A L.length c, .bool false]) ∧ e2 = .returned (.tuple #[.slice B L.length d, .bool true]) ∧ PairRow w4 A L ∧ PairRow w4 B L) ∨
    (e1 = .returned (.tuple #[.slice none 0 0, .bool true]) ∧ e2 = .returned (.tuple #[.slice none 0 0, .bool false])) := by
  obtain ⟨_, v1, g1, rfl, c1⟩ := h1
  obtain ⟨_, v2, g2, rfl, c2⟩ := h2
  rcases c1 with ⟨hn, rfl, rfl⟩ | ⟨hn, ha, rfl, ho⟩ | ⟨hn, ha, rfl, rfl⟩
  · rcases c2 with ⟨_, rfl, rfl⟩ | ⟨hn2, _⟩ | ⟨hn2, _⟩
    · exact .inl ⟨[], none, none, 0, 0, by simp, rfl, rfl, fun k hk => absurd hk (by simp), fun k hk => absurd hk (by simp)⟩
    · rw [hn] at hn2; cases hn2
    · rw [hn] at hn2; cases hn2
  · rcases c2 with ⟨hn2, _⟩ | ⟨_, _, rfl, ho2⟩ | ⟨_, ha2, _⟩
    · rw [hn] at hn2; cases hn2
    · obtain ⟨A, c, rfl, hp⟩ := owns_pairRow ho
      obtain ⟨B, d, rfl, hp2⟩ := owns_pairRow ho2
      refine .inl ⟨_, A, B, c, d, ?_, rfl, rfl, hp.below hb, hp2⟩
      have := spec_length (l ++ R.map labelOf)
      rw [List.length_append, List.length_map] at this
      omega
    · rw [ha] at ha2; cases ha2
  · rcases c2 with ⟨hn2, _⟩ | ⟨_, ha2, _⟩ | ⟨_, _, rfl, rfl⟩
    · rw [hn] at hn2; cases hn2
    · rw [ha] at ha2; cases ha2
    · exact .inr ⟨rfl, rfl⟩

set_option maxRecDepth 100000 in
set_option maxHeartbeats 2000000 in
theorem fnAskedMap_walk (hsort : SortLaw) (hnil : SortNil) (nn : Bool) (A B : Option Addr) (n c q d : Nat) (l : List (List UInt8 × List UInt8)) (R : List RuleD) (w : World) (hl : l.length = n) (hlen : Lens l) (hr : PairRow w A l) (hR : R.length = q) (hq : RuleRow w B R) (hk : ∀ r ∈ R, r.key.length ≤ maxLen ∧ ∀ v ∈ r.vals, v.length ≤ maxLen) :
    Calls Try.prog 3 #[.agg #[.bool nn, .slice A n c, .slice B q d]] w (Gives (.bool true) w) := by
  have HB0 := Lib.hid (b0_alloc (b0_refl w) (.cells #[.bool nn, .slice A n c, .slice B q d] 25))
  obtain ⟨k0, k1, k2⟩ := cells3 w (.bool nn) (.slice A n c) (.slice B q d) 25
  have HF := Lib.hid (fits3_any nn A B n c q d l R _ hl hR (hr.below HB0.out) (hq.below HB0.out))
  have HL := Lib.hid hl
  have HLen := Lib.hid hlen
  have HR := Lib.hid hr
  have HRL := Lib.hid hR
  have HQ := Lib.hid hq
  have HK := Lib.hid hk
  have HS := Lib.hid hsort
  have HSN := Lib.hid hnil
  clear hl hlen hr hR hq hk hsort hnil
  go_enter Try.func3, Try.ntmps3
  go_wp2_with fail
  refine HF.out.mono ?_
  rintro e w1 ⟨bb, rfl, hp, hb⟩
  have HB1 := Lib.hid (b0_then HB0.out hb)
  have HZ1 := Lib.hid ((hb.block w.heap.size (by simp)).trans (heap_alloc_new w (.cells #[.bool nn, .slice A n c, .slice B q d] 25)))
  have HP := Lib.hid hp
  clear hb hp k0 k1 k2
  cases bb
  · go_wp2_with fail
    go_ret
    exact ⟨rfl, HB1.out⟩
  have hfit := HP.out rfl
  have hn : n ≤ 2147483647 := hfit.1
  have hqn : q ≤ 2147483647 := by rw [← HRL.out]; exact hfit.2.1
  have HFit := Lib.hid hfit.2
  clear hfit
  obtain ⟨a0, a1, a2⟩ := blk_cells HZ1.out
  have HM := Lib.hid (askedMap_any HS.out HSN.out nn A B n c q d l R w1 HL.out hn HLen.out (HR.out.below HB1.out) HRL.out HFit.out (HQ.out.below HB1.out) HK.out)
  go_wp2_with fail
  refine HM.out.mono ?_
  rintro e w2 hg
  obtain ⟨hb2, v3, g3, rfl, hc3⟩ := hg
  have HG3 := Lib.hid (show AskedGives false nn l R w1 (.returned (.tuple #[v3, .bool g3])) w2 from ⟨hb2, v3, g3, rfl, hc3⟩)
  have HB2 := Lib.hid (b0_then HB1.out hb2)
  have HZ2 := Lib.hid ((hb2.block w.heap.size (Array.getElem?_eq_some_iff.1 HZ1.out).1).trans HZ1.out)
  clear hb2 hc3 a0 a1 a2
  obtain ⟨a0, a1, a2⟩ := blk_cells HZ2.out
  have HSA := Lib.hid (specAsked_any nn A B n c q d l R w2 HL.out hn (HR.out.below HB2.out) HRL.out hqn (HQ.out.below HB2.out))
  go_wp2_with fail
  refine HSA.out.mono ?_
  rintro e w3 hg
  obtain ⟨hb3, v5, g5, rfl, hc5⟩ := hg
  have HB3 := Lib.hid (b0_then HB2.out hb3)
  have htwo := two_answers HG3.out (show AskedGives true nn l R w2 (.returned (.tuple #[v5, .bool g5])) w3 from ⟨hb3, v5, g5, rfl, hc5⟩) hb3 (by rw [HL.out, HRL.out]; omega)
  have HT := Lib.hid htwo
  clear hb3 hc5 a0 a1 a2 htwo
  have HM6 := Lib.hid (askedMap0_any HS.out HSN.out (some ⟨w3.heap.size, 0, none⟩) 1 1 [([97], [98])] (w3.alloc (.cells #[encStr [97], encStr [98]] 30)) rfl (by omega) (by intro p hp; rw [List.mem_singleton.1 hp]; exact ⟨by unfold maxLen; decide, by unfold maxLen; decide⟩) (pair_new w3 [97] [98] 30))
  go_wp2_with fail
  refine HM6.out.mono ?_
  rintro e w4 ⟨v7, rfl, hr7, hb7⟩
  rw [pairsOf_mapOf] at hr7
  have hone : (specPairs [([97], [98])]).length = 1 := by
    unfold specPairs
    rw [List.length_map]
    unfold risen once
    simp
  obtain ⟨A7, c7, rfl, _⟩ := owns_pairRow hr7
  rw [hone]
  have hb34 := b0_then (b0_alloc (b0_refl w3) (.cells #[encStr [97], encStr [98]] 30)) hb7
  have HB4 := Lib.hid (b0_then HB3.out hb34)
  have HB34 := Lib.hid hb34
  clear hb34 hb7 hr7 hone
  rcases HT.out with ⟨L, A3, B3, c3, d3, hLn, e3, e5, hp3, hp5⟩ | ⟨e3, e5⟩
  · simp only [Ending.returned.injEq, Value.tuple.injEq, Array.mk.injEq, List.cons.injEq, Value.bool.injEq, and_true] at e3 e5
    obtain ⟨rfl, rfl⟩ := e3
    obtain ⟨rfl, rfl⟩ := e5
    have HS8 := Lib.hid (same_any A3 B3 L.length c3 d3 L w4 rfl hLn (hp3.below HB34.out) (hp5.below HB34.out))
    clear hp3 hp5
    go_wp2_with fail
    refine HS8.out.mono ?_
    rintro e w5 ⟨rfl, hb5⟩
    have HB5 := Lib.hid (b0_then HB4.out hb5)
    clear hb5
    go_wp2_with fail
    go_ret
    exact ⟨rfl, HB5.out⟩
  · simp only [Ending.returned.injEq, Value.tuple.injEq, Array.mk.injEq, List.cons.injEq, Value.bool.injEq, and_true] at e3 e5
    obtain ⟨rfl, rfl⟩ := e3
    obtain ⟨rfl, rfl⟩ := e5
    go_wp2_with fail
    go_ret
    exact ⟨rfl, HB4.out⟩

open Go.ChangeShapes Go.WideShapes Go.ChangeAt Go.WideMaps Go.WideElems

theorem Try.cells25 : Try.prog.cellsOf 25 = 3 := by kernel_rfl
theorem Try.cells44 : Try.prog.cellsOf 44 = 1 := by kernel_rfl
theorem Try.cells46 : Try.prog.cellsOf 46 = 3 := by kernel_rfl
instance : Inhabited RuleD := ⟨⟨[], [], []⟩⟩

theorem plain_add (b o j : Nat) : (⟨b, o, none⟩ : Addr).add j = ⟨b, o + j, none⟩ := by
  unfold Addr.add
  split
  · rename_i h0; rw [h0]; rfl
  · rfl

section
variable {H : Type} {enc : TypeId × Value → H} {w : World} {base : Nat} {spare : Nat → Bool} {held : Bool} {fuel : Nat}

/-- A slice of texts that came in. -/
theorem open_texts {v : Value} {x : DataW H × List MemPlace} (h : DataW.trod enc Try.prog w base spare held fuel 44 [v] = some x) :
    ∃ (A : Option Addr) (c : Nat) (l : List (List UInt8)), v = .slice A l.length c ∧ StrRow w A l ∧ ∀ y ∈ l, y.length ≤ maxLen := by
  rcases open_strings Try.underlying44 Try.underlying9 Try.cells9 h with ⟨hs, _⟩ | ⟨a, len, cap, ss, hs, _, hlc, _, hz, _, hcell, hw⟩
  · simp only [List.cons.injEq, and_true] at hs
    exact ⟨none, 0, [], hs, (fun k hk => absurd hk (by simp)), (fun y hy => by cases hy)⟩
  · simp only [List.cons.injEq, and_true] at hs
    have hls : len ≤ ss.length := by rw [hz]; split <;> omega
    refine ⟨some a, cap, (ss.take len).map (fun s => s.data.toList), by rw [hs]; simp [Nat.min_eq_left hls], ?_, ?_⟩
    · intro k hk
      have hk1 : k < len := by simp at hk; omega
      have hk2 : k < ss.length := by omega
      have c0 := hcell 0 (by omega)
      have hsp : a.spot = none := by
        have := spot_none c0
        simpa [Addr.add] using this
      obtain ⟨b, o, sp⟩ := a
      simp only at hsp
      subst hsp
      have hc := hcell k hk2
      rw [plain_add] at hc
      refine ⟨b, o, rfl, World.block_lt_of_cell? w _ hc, ?_⟩
      rw [hc]
      simp [List.getD, List.getElem?_eq_getElem hk2, encStr]
    · intro y hy
      obtain ⟨s, hs1, rfl⟩ := List.mem_map.1 hy
      have := hw s (List.mem_of_mem_take hs1)
      rw [Array.length_toList]
      exact this

/-- A rule that came in, from its three cells. -/
theorem open_rule {cs : List Value} {x : DataW H × List MemPlace} (h : DataW.trod enc Try.prog w base spare held fuel 46 cs = some x) :
    ∃ (r : RuleD) (A : Option Addr) (c : Nat), cs = [encStr r.key, encStr r.op, .slice A r.vals.length c] ∧ StrRow w A r.vals ∧ r.key.length ≤ maxLen ∧ ∀ y ∈ r.vals, y.length ≤ maxLen := by
  obtain ⟨xs, n, _, _, hcl, hxl, hf⟩ := DataW.trod_struct Try.underlying46 h
  rw [Try.cells46] at hcl
  match cs, hcl with
  | [v0, v1, v2], _ =>
    have hx3 : xs.length = 3 := hxl
    match xs, hx3 with
    | [y0, y1, y2], _ =>
      have g0 : DataW.trod enc Try.prog w base spare held n 9 (([v0, v1, v2].drop 0).take (Try.prog.cellsOf 9)) = [y0, y1, y2][0]? := hf 0 _ rfl
      have g1 : DataW.trod enc Try.prog w base spare held n 9 (([v0, v1, v2].drop 1).take (Try.prog.cellsOf 9)) = [y0, y1, y2][1]? := hf 1 _ rfl
      have g2 : DataW.trod enc Try.prog w base spare held n 44 (([v0, v1, v2].drop 2).take (Try.prog.cellsOf 44)) = [y0, y1, y2][2]? := hf 2 _ rfl
      rw [Try.cells9] at g0 g1
      rw [Try.cells44] at g2
      have g0' : DataW.trod enc Try.prog w base spare held n 9 [v0] = some y0 := by simpa using g0
      have g1' : DataW.trod enc Try.prog w base spare held n 9 [v1] = some y1 := by simpa using g1
      have g2' : DataW.trod enc Try.prog w base spare held n 44 [v2] = some y2 := by simpa using g2
      obtain ⟨s0, e0, _, b0⟩ := DataW.trod_string Try.underlying9 g0'
      obtain ⟨s1, e1, _, _⟩ := DataW.trod_string Try.underlying9 g1'
      obtain ⟨A, c, l, e2, hr, hl⟩ := open_texts g2'
      simp only [List.cons.injEq, and_true] at e0 e1
      refine ⟨⟨s0.data.toList, s1.data.toList, l⟩, A, c, ?_, hr, ?_, hl⟩
      · rw [e0, e1, e2]
      · show s0.data.toList.length ≤ maxLen
        rw [Array.length_toList]
        exact b0

/-- A slice of rules that came in: its cells. -/
theorem open_rules {v : Value} {x : DataW H × List MemPlace} (h : DataW.trod enc Try.prog w base spare held fuel 23 [v] = some x) :
    ∃ (A : Option Addr) (c : Nat) (R : List RuleD), v = .slice A R.length c ∧ RuleRow w A R ∧ ∀ r ∈ R, r.key.length ≤ maxLen ∧ ∀ y ∈ r.vals, y.length ≤ maxLen := by
  rcases Go.Deep.open_slice Try.underlying23 h with ⟨hs, _⟩ | ⟨a, len, cap, m, n, D, Pl, hs, _, hlc, _, hm, _, hx⟩
  · simp only [List.cons.injEq, and_true] at hs
    exact ⟨none, 0, [], hs, (fun k hk => absurd hk (by simp)), (fun y hy => by cases hy)⟩
  · simp only [List.cons.injEq, and_true] at hs
    have hlm : len ≤ m := by rw [hm]; split <;> omega
    obtain ⟨f, hf⟩ := Go.Deep.choose_lt (α := RuleD) (n := len) (p := fun i r => (∃ A2 c2, (∀ j, j < 3 → w.cell? ((a.add (i * 3)).add j) = [encStr r.key, encStr r.op, .slice A2 r.vals.length c2][j]?) ∧ StrRow w A2 r.vals) ∧ r.key.length ≤ maxLen ∧ ∀ y ∈ r.vals, y.length ≤ maxLen) (fun i hi => by
      obtain ⟨cs', h1, h2⟩ := hx i (by omega)
      rw [Try.cells46] at h1
      obtain ⟨_, _, hcell⟩ := World.cells?_some h1
      obtain ⟨r, A2, c2, rfl, hr, hk, hv⟩ := open_rule h2
      exact ⟨r, ⟨A2, c2, hcell, hr⟩, hk, hv⟩)
    refine ⟨some a, cap, (List.range len).map f, by rw [hs]; simp, ?_, ?_⟩
    · intro k hk
      have hk1 : k < len := by simpa using hk
      obtain ⟨⟨A2, c2, hc, hr⟩, _⟩ := hf k hk1
      obtain ⟨⟨A0, c0, hc0, _⟩, _⟩ := hf 0 (by omega)
      have hsp : a.spot = none := by
        have := spot_none (hc0 0 (by omega))
        simpa [Addr.add] using this
      obtain ⟨b, o, sp⟩ := a
      simp only at hsp
      subst hsp
      have h0 := hc 0 (by omega)
      have h1 := hc 1 (by omega)
      have h2 := hc 2 (by omega)
      rw [plain_add, plain_add] at h0 h1 h2
      have ek : ((List.range len).map f)[k] = f k := by simp
      rw [ek]
      exact ⟨b, o, rfl, World.block_lt_of_cell? w _ h0, by simpa using h0, by simpa using h1, A2, c2, by simpa using h2, hr⟩
    · intro r hr
      obtain ⟨i, hi, rfl⟩ := List.mem_map.1 hr
      exact (hf i (List.mem_range.1 hi)).2
end

set_option maxRecDepth 100000 in
theorem AskedMap.lifted (os : Os) (started : os.Started) (H : Type) (enc : TypeId × Value → H) :
    ReturnsInHanded {} Try.checked os 3 .any (Rows.fnAskedMapSpec.pre6 enc Try.prog Try.f3 [] false)
      (Rows.fnAskedMapSpec.post enc Try.prog Try.f3 false true false false) := by
  refine returnsInHanded_of_change (C := Try.checked) own started (by kernel_rfl) Try.func3
    (ChangeSpec.witness6 (enc := enc) (C := Try.checked) false ⟨#[], #[.agg #[.bool false, .slice none 0 0, .slice none 0 0]], []⟩ 8 (by kernel_rfl) (by kernel_rfl) (by kernel_rfl) (by kernel_rfl)) ?_
  intro W base args ds gs before hval0 hW _ _
  have hval : ∀ (j : Nat) t v, Try.f3.params[j]? = some t → args[j]? = some v → Value.okWide Try.prog W .any base t v := hval0
  have hW' := hW
  obtain ⟨p, q, hA0, hV, rfl, hfz, hnd⟩ := hW
  have hA : DataW.TrodAll enc Try.prog W 0 (fun _ => true) true Try.f3.params.toList args.toList ds p := hA0
  rw [Try.params3] at hA hval
  obtain ⟨v0, d0, rfl, rfl, h0⟩ := trodAll_one hA
  obtain ⟨rfl, rfl⟩ := trodVars_none hV
  have h0k := h0
  have hlt : ∀ x ∈ p, x.block < W.heap.size := fun x hx => hW'.lt x (by simp [hx])
  obtain ⟨c0, c1, c2, y0, y1, y2, m, rfl, rfl, rfl, t0, t1, t2⟩ := Joins.open_agg3 Try.underlying25 (by kernel_rfl) Try.cells25 (hval 0 25 v0 rfl rfl) h0
  obtain ⟨nn, e0, _⟩ := DataW.trod_bool Try.underlying4 t0
  simp only [List.cons.injEq, and_true] at e0
  subst e0
  obtain ⟨A, n, c, hc1⟩ : ∃ A n c, c1 = .slice A n c := by
    rcases Go.Deep.open_slice Try.underlying22 t1 with ⟨hs, _⟩ | ⟨a, len, cap, _, _, _, _, hs, _⟩
    · simp only [List.cons.injEq, and_true] at hs
      exact ⟨_, _, _, hs⟩
    · simp only [List.cons.injEq, and_true] at hs
      exact ⟨_, _, _, hs⟩
  subst hc1
  obtain ⟨l, hl, hlen, hr⟩ := open_pairs t1
  obtain ⟨B, d, R, hc2, hq, hk⟩ := open_rules t2
  subst hc2
  clear hA0 hval0
  simp only [List.append_nil] at hW'
  refine (fnAskedMap_walk sortLaw sortNil nn A B n c R.length d l R W hl hlen hr rfl hq hk).mono fun e W' ⟨he, hb⟩ => ?_
  subst he
  refine ⟨_, rfl, _, _, _, [], y0.2 ++ (y1.2 ++ y2.2), [], hW', ?_, ?_, rfl, hb.frame _, fun h => by cases h⟩
  · exact trodAll_mk1 (shut_bool Try.underlying4 _)
  · have k0 := Below.trod Try.laidOut (by kernel_rfl) (of_decide_eq_true (by kernel_rfl)) h0k hb hlt
    exact trodAll_mk1 k0

theorem AskedMap.said : Rows.FnAskedMapSaid :=
  OpenClaim.holds_of_wide 3 Try.f3 rfl rfl rfl rfl rfl rfl rfl ⟨rfl, rfl, rfl, rfl, rfl⟩ rfl rfl rfl rfl rfl (by kernel_rfl) Try.func3 (by kernel_rfl)
    (of_decide_eq_true (by kernel_rfl)) (by unfold Func.isWrapper; first | (rw [if_pos (by decide +kernel)]; kernel_rfl) | (rw [if_neg (by decide +kernel)]; exact ⟨rfl, rfl⟩))
    (fun os started H enc _ => AskedMap.lifted os started H enc)
#print axioms AskedMap.said

end Go.Proofs.Ytefnfcpekiaenaa
