/- Rules: what fits; a row of texts copied; a requirement made of a rule. Condition: lengths of at most 2^31 - 1 where the walk says so. -/
import Derived.Test.YtefnfcpekiaenaaAsk
namespace Go.Proofs.Ytefnfcpekiaenaa
open Go.RowKit Go.Proofs Go.Maps Go.Sort

/-- A rule: its key, its operator, its values. -/
structure RuleD where
  key : List UInt8
  op : List UInt8
  vals : List (List UInt8)
/-- A slice of rules: its cells read as they are listed. -/
def RuleRow (w : World) (A : Option Addr) (l : List RuleD) : Prop :=
  ∀ k (h : k < l.length), ∃ b o, A = some ⟨b, o, none⟩ ∧ b < w.heap.size ∧ w.cell? ⟨b, o + k * 3, none⟩ = some (encStr l[k].key) ∧ w.cell? ⟨b, o + k * 3 + 1, none⟩ = some (encStr l[k].op) ∧
    ∃ A2 c2, w.cell? ⟨b, o + k * 3 + 2, none⟩ = some (.slice A2 l[k].vals.length c2) ∧ StrRow w A2 l[k].vals
theorem RuleRow.below {w w' : World} {A : Option Addr} {l : List RuleD} (h : RuleRow w A l) (hb : Below w.heap.size w w') : RuleRow w' A l := fun k hk => by
  obtain ⟨b, o, rfl, hlt, h1, h2, A2, c2, h3, h4⟩ := h k hk
  exact ⟨b, o, rfl, Nat.lt_of_lt_of_le hlt hb.size, (hb.cell (p := ⟨b, o + k * 3, none⟩) hlt).trans h1, (hb.cell (p := ⟨b, o + k * 3 + 1, none⟩) hlt).trans h2, A2, c2, (hb.cell (p := ⟨b, o + k * 3 + 2, none⟩) hlt).trans h3, h4.below hb⟩

/-- It returns a bool, true only where this holds; nothing that lay has turned. -/
def Only (p : Prop) (w : World) (e : Ending) (w' : World) : Prop := ∃ b, e = .returned (.bool b) ∧ (b = true → p) ∧ Below w.heap.size w w'
theorem Only.no {p : Prop} {w w' : World} (h : Below w.heap.size w w') : Only p w (.returned (.bool false)) w' := ⟨false, rfl, by simp, h⟩
theorem Only.yes {p : Prop} {w w' : World} (hp : p) (h : Below w.heap.size w w') : Only p w (.returned (.bool true)) w' := ⟨true, rfl, fun _ => hp, h⟩

/-- A length that the statements speak of. -/
def FitLen (n : Nat) : Prop := n ≤ 2147483647
set_option maxRecDepth 100000 in
theorem fits2_any (A : Option Addr) (n c : Nat) (l : List (List UInt8)) (w : World) (hl : l.length = n) (hr : StrRow w A l) :
    Calls Try.prog 29 #[.slice A n c] w (Only (FitLen n) w) := by
  have HR := Lib.hid hr
  have HL := Lib.hid hl
  clear hr hl
  by_cases hn : n ≤ 2147483647
  · have HN := Lib.hid hn
    go_enter Try.func29, Try.ntmps29
    go_wp2_with fail
    go_loop [10] (fun i => ∃ k : Nat, k ≤ n ∧ i = .int .i64 k) (fun i => n - (intOf i).toNat)
    case atStart => exact ⟨0, Nat.zero_le _, rfl⟩
    case round =>
      obtain ⟨k, hk, rfl⟩ := hrel
      by_cases hlt : k < n
      · obtain ⟨b, o, rfl, _, hc⟩ := HR.out k (by rw [HL.out]; exact hlt)
        go_wp2_with fail
        · go_ret
          exact Only.no (b0_refl w)
        · go_round
          case rel => exact ⟨k + 1, by omega, by go_num⟩
          case measure => simp [intOf]; omega
      · go_wp2_with fail
        go_ret
        exact Only.yes HN.out (b0_refl w)
  · go_enter Try.func29, Try.ntmps29
    go_wp2_with fail
    go_ret
    exact Only.no (b0_refl w)

set_option maxRecDepth 100000 in
theorem fits1_any (r : RuleD) (A : Option Addr) (c : Nat) (w : World) (hr : StrRow w A r.vals) :
    Calls Try.prog 22 #[.agg #[encStr r.key, encStr r.op, .slice A r.vals.length c]] w (Only (FitLen r.vals.length) w) := by
  have HB := Lib.hid (b0_alloc (b0_refl w) (.cells #[encStr r.key, encStr r.op, .slice A r.vals.length c] 46))
  have HF := Lib.hid (fits2_any A r.vals.length c r.vals _ rfl (hr.below HB.out))
  clear hr
  go_enter Try.func22, Try.ntmps22
  go_wp2_with fail
  · go_ret
    exact Only.no HB.out
  · go_ret
    exact Only.no HB.out
  · refine HF.out.mono ?_
    rintro e w1 ⟨bb, rfl, hp, hb⟩
    have HB1 := Lib.hid (b0_then HB.out hb)
    have HP := Lib.hid hp
    clear hb hp
    cases bb
    · go_wp2_with fail
      go_ret
      exact Only.no HB1.out
    · go_wp2_with fail
      go_ret
      exact Only.yes (HP.out trivial) HB1.out

def FitRules (l : List RuleD) : Prop := l.length ≤ 2147483647 ∧ ∀ r ∈ l, FitLen r.vals.length

set_option maxRecDepth 100000 in
theorem fits6_any (A : Option Addr) (n c : Nat) (l : List RuleD) (w : World) (hl : l.length = n) (hr : RuleRow w A l) :
    Calls Try.prog 12 #[.slice A n c] w (Only (FitRules l) w) := by
  have HR := Lib.hid hr
  have HL := Lib.hid hl
  clear hr hl
  by_cases hn : n ≤ 2147483647
  · go_enter Try.func12, Try.ntmps12
    go_wp2_with fail
    go_loopw [10] (fun i wr => ∃ k : Nat, k ≤ n ∧ i = .int .i64 k ∧ (∀ r ∈ l.take k, FitLen r.vals.length) ∧ Below w.heap.size w wr) (fun i _ => n - (intOf i).toNat)
    case atStart => exact ⟨0, Nat.zero_le _, rfl, by simp, b0_refl w⟩
    case round =>
      obtain ⟨k, hk, rfl, hv, hb⟩ := hrel
      have HB := Lib.hid hb
      have HV := Lib.hid hv
      clear hb hv
      by_cases hlt : k < n
      · have hlt' : k < l.length := by rw [HL.out]; exact hlt
        obtain ⟨b, o, rfl, hbl, c0, c1, A2, n2, c2, hsr⟩ := (HR.out.below HB.out) k hlt'
        have HF := Lib.hid (fits1_any l[k] A2 n2 _ (hsr.below (b0_alloc (b0_refl wr) (.cells #[encStr l[k].key, encStr l[k].op, .slice A2 l[k].vals.length n2] 46))))
        clear hsr
        go_wp2_with fail
        refine HF.out.mono ?_
        rintro e w1 ⟨bb, rfl, hp, hb⟩
        have HB1 := Lib.hid (b0_then (b0_alloc HB.out _) hb)
        have HP := Lib.hid hp
        clear hb hp
        cases bb
        · go_wp2_with fail
          go_ret
          exact Only.no HB1.out
        · go_wp2_with fail
          go_roundw
          case rel =>
            refine ⟨k + 1, by omega, by go_num, ?_, HB1.out⟩
            rw [List.take_succ_eq_append_getElem hlt']
            intro r hr
            rcases List.mem_append.1 hr with hr | hr
            · exact HV.out r hr
            · rw [List.mem_singleton.1 hr]
              exact HP.out trivial
          case measure => simp [intOf]; omega
      · have e : l.take k = l := List.take_of_length_le (by rw [HL.out]; omega)
        have HE := Lib.hid e
        have HN := Lib.hid hn
        clear e
        go_wp2_with fail
        go_ret
        exact Only.yes ⟨by rw [HL.out]; exact HN.out, fun r hr => HV.out r (by rw [HE.out]; exact hr)⟩ HB.out
  · go_enter Try.func12, Try.ntmps12
    go_wp2_with fail
    go_ret
    exact Only.no (b0_refl w)

set_option maxRecDepth 100000 in
theorem fits3_any (nn : Bool) (A B : Option Addr) (n c m d : Nat) (l : List (List UInt8 × List UInt8)) (R : List RuleD) (w : World) (hl : l.length = n) (hR : R.length = m) (hr : PairRow w A l) (hq : RuleRow w B R) :
    Calls Try.prog 5 #[.agg #[.bool nn, .slice A n c, .slice B m d]] w (Only (FitLen n ∧ FitRules R) w) := by
  have HB := Lib.hid (b0_alloc (b0_refl w) (.cells #[.bool nn, .slice A n c, .slice B m d] 25))
  have HF := Lib.hid (fits4_any A n c l _ hl (hr.below HB.out))
  have HQ := Lib.hid (hq.below HB.out)
  have HRl := Lib.hid hR
  obtain ⟨_, _, k2⟩ := cells3 w (.bool nn) (.slice A n c) (.slice B m d) 25
  have K2 := Lib.hid k2
  clear hl hR hr hq k2
  go_enter Try.func5, Try.ntmps5
  go_wp2_with fail
  refine HF.out.mono ?_
  rintro e w1 ⟨bb, rfl, hp, hb⟩
  have HB1 := Lib.hid (b0_then HB.out hb)
  have HP := Lib.hid hp
  have HG := Lib.hid (fits6_any B m d R w1 HRl.out (HQ.out.below hb))
  have c2 : w1.cell? ⟨w.heap.size, 2, none⟩ = some (.slice B m d) := (hb.cell (p := ⟨w.heap.size, 2, none⟩) (by simp)).trans K2.out
  clear hb hp
  cases bb
  · go_wp2_with fail
    go_ret
    exact Only.no HB1.out
  · go_wp2_with fail
    refine HG.out.mono ?_
    rintro e w2 ⟨bb, rfl, hp2, hb2⟩
    have HB2 := Lib.hid (b0_then HB1.out hb2)
    have HP2 := Lib.hid hp2
    clear hb2 hp2
    cases bb
    · go_wp2_with fail
      go_ret
      exact Only.no HB2.out
    · go_wp2_with fail
      go_ret
      exact Only.yes ⟨HP.out trivial, HP2.out trivial⟩ HB2.out

/-- A slice of texts in a block of texts. -/
def TRow (w : World) (A : Option Addr) (l : List (List UInt8)) : Prop := StrRow w A l ∧ ∀ a, A = some a → ∃ cs fr, w.heap[a.block]? = some (.cells cs 9 fr)
theorem StrRow.one {w w' : World} {A : Option Addr} {l : List (List UInt8)} (h : StrRow w A l) (hs : w.heap.size ≤ w'.heap.size) (hk : ∀ a, A = some a → w'.heap[a.block]? = w.heap[a.block]?) : StrRow w' A l := fun k hk' => by
  obtain ⟨b, o, rfl, hlt, hc⟩ := h k hk'
  exact ⟨b, o, rfl, Nat.lt_of_lt_of_le hlt hs, by rw [World.cell?_of_block (a := ⟨b, o + k, none⟩) (hk ⟨b, o, none⟩ rfl)]; exact hc⟩
theorem TRow.one {w w' : World} {A : Option Addr} {l : List (List UInt8)} (h : TRow w A l) (hs : w.heap.size ≤ w'.heap.size) (hk : ∀ a, A = some a → w'.heap[a.block]? = w.heap[a.block]?) : TRow w' A l :=
  ⟨h.1.one hs hk, fun a ha => by obtain ⟨cs, fr, e⟩ := h.2 a ha; exact ⟨cs, fr, (hk a ha).trans e⟩⟩
theorem TRow.lt {w : World} {A : Option Addr} {l : List (List UInt8)} (h : TRow w A l) {a : Addr} (ha : A = some a) : a.block < w.heap.size := by
  obtain ⟨cs, fr, e⟩ := h.2 a ha
  exact (Array.getElem?_eq_some_iff.1 e).1
theorem TRow.below {w w' : World} {A : Option Addr} {l : List (List UInt8)} (h : TRow w A l) (hb : Below w.heap.size w w') : TRow w' A l := h.one hb.size fun _ ha => hb.block _ (h.lt ha)
theorem TRow.set {w : World} {A : Option Addr} {l : List (List UInt8)} (h : TRow w A l) {p : Addr} {v : Value} (hne : ∀ a, A = some a → p.block ≠ a.block) : TRow (w.setCell p v) A l :=
  h.one (by simp) fun a ha => heap_setCell_other w p a.block v (hne a ha).symm
theorem TRow.grown {w w' : World} {A : Option Addr} {l : List (List UInt8)} {row : Option Nat} (h : TRow w A l) (hg : w.grownBy w' row) (hr : ∀ g, row = some g → ∃ cs fr, w.heap[g]? = some (.cells cs 61 fr)) : TRow w' A l :=
  h.one hg.size fun a ha => hg.block _ (h.lt ha) fun e => by
    obtain ⟨cs, fr, e1⟩ := h.2 a ha
    obtain ⟨cs', fr', e2⟩ := hr a.block e.symm
    rw [e1] at e2
    injection e2 with e3
    injection e3 with _ e4 _
    exact absurd e4 (by decide)

/-- It returns a slice of these texts. -/
def TextsAt (n : Nat) (l : List (List UInt8)) (w : World) (e : Ending) (w' : World) : Prop := ∃ A c, e = .returned (.slice A n c) ∧ TRow w' A l ∧ (∀ a, A = some a → w.heap.size ≤ a.block) ∧ Below w.heap.size w w'

set_option maxRecDepth 100000 in
theorem texts_any (A : Option Addr) (n c : Nat) (l : List (List UInt8)) (w : World) (hl : l.length = n) (hr : StrRow w A l) (hn : n ≤ 2147483647) :
    Calls Try.prog 26 #[.slice A n c] w (TextsAt n l w) := by
  obtain ⟨i0, hi, hz0, hz1, hz2⟩ := info_parts Try.info9
  have hr1 := hr.below (b0_alloc (b0_refl w) (.cells #[] 9))
  have HO := Lib.hid (own_empty9 w)
  have HL := Lib.hid hl
  rcases Nat.eq_zero_or_pos n with h0 | h0
  · subst h0
    have hl0 : l = [] := List.length_eq_zero_iff.1 hl
    subst hl0
    clear hr hr1 hl
    cases A with
    | none =>
      go_enter Try.func26, Try.ntmps26
      go_wp2_with fail
      go_ret
      exact ⟨_, _, rfl, ⟨(fun k hk => absurd hk (by simp)), fun a ha => by cases ha; exact ⟨_, _, heap_alloc_new _ _⟩⟩, (fun a ha => by cases ha; exact Nat.le_refl _), b0_alloc (b0_refl w) _⟩
    | some ad =>
      go_enter Try.func26, Try.ntmps26
      go_wp2_with fail
      go_ret
      exact ⟨_, _, rfl, ⟨(fun k hk => absurd hk (by simp)), fun a ha => by cases ha; exact ⟨_, _, heap_alloc_new _ _⟩⟩, (fun a ha => by cases ha; exact Nat.le_refl _), b0_alloc (b0_refl w) _⟩
  · obtain ⟨b, o, rfl, hx1⟩ := hr 0 (by omega)
    have hnews : ∀ (j : Nat) (u : Value), (l.map encStr)[j]? = some u → (w.alloc (.cells #[] 9)).cell? ((⟨b, o, none⟩ : Addr).add j) = some u := by
      intro j u hu
      rw [List.getElem?_map, Option.map_eq_some_iff] at hu
      obtain ⟨s, hs, rfl⟩ := hu
      obtain ⟨hj, rfl⟩ := List.getElem?_eq_some_iff.1 hs
      obtain ⟨b', o', e, _, hc⟩ := hr1 j hj
      cases e
      have a0 : (⟨b, o, none⟩ : Addr).add j = ⟨b, o + j, none⟩ := by
        unfold Addr.add
        split
        · rename_i h0; rw [h0]; rfl
        · rfl
      rw [a0]
      exact hc
    have HN := Lib.hid hnews
    clear hx1 hr hr1 hnews hl
    go_enter Try.func26, Try.ntmps26
    go_wp2_with (at_builtin; refine wpList_append_own _ rfl _ _ 44 rfl w.heap.size 9 i0 (.string ⟨#[]⟩) 1 16 Try.underlying44 hi hz0 hz1 hz2 rfl (by decide) _ _ _ rfl HO.out ⟨b, o, none⟩ n c (l.map encStr) rfl ?c1 HN.out (one_cells l) ?c4 ?c5 ?c6 ?_)
    case c1 => rw [List.length_map, HL.out]; omega
    case c4 => unfold maxLen; omega
    case c5 => omega
    case c6 => simp
    intro v' w1 hown1 hg1 hnil1
    clear hnil1
    obtain ⟨g, cap, hv', hge, hlt1⟩ := hown1.form (by omega)
    have HB := Lib.hid ((b0_alloc (b0_refl w) (.cells #[] 9)).grown hg1 (by simp) (by simp [Value.ownBlock]))
    have hown2 : w1.ownsRow w.heap.size 9 1 v' l.length (l.map encStr) := by
      rw [HL.out]
      simpa using hown1
    obtain ⟨A3, c3, hv3, hs3⟩ := owns_strRow hown2
    rw [HL.out] at hv3
    have hA : A3 = some ⟨g, 0, none⟩ := by
      rw [hv'] at hv3
      injection hv3 with h1 h2 h3
      exact h1.symm
    have HGE := Lib.hid hge
    have htyp : ∃ cs fr, w1.heap[g]? = some (.cells cs 9 fr) := by
      rcases hown2.2 with ⟨h1, _⟩ | ⟨g', cap', cur, h1, _, h2, _⟩
      · rw [hv'] at h1; cases h1
      · rw [hv'] at h1
        injection h1 with h1 _ _
        injection h1 with h1
        injection h1 with h1 _ _
        exact ⟨cur, (0, 0), h1 ▸ h2⟩
    have HS3 := Lib.hid (show TRow w1 A3 l from ⟨hs3, fun a ha => by rw [hA] at ha; cases ha; exact htyp⟩)
    clear hown1 hown2 hg1 hv' hs3 htyp
    subst hv3
    subst hA
    go_wp2_with fail
    go_ret
    exact ⟨_, _, rfl, HS3.out, (fun a ha => by cases ha; exact HGE.out), HB.out⟩

/-- It returns a requirement with these. -/
def RuleAt (r : RuleD) (w : World) (e : Ending) (w' : World) : Prop := ∃ A c, e = .returned (.agg #[encStr r.key, encStr r.op, .slice A r.vals.length c]) ∧ TRow w' A r.vals ∧ Below w.heap.size w w'
theorem heap_second (w : World) (o p : Obj) : (((w.alloc o).alloc p).drew).heap[w.heap.size + 1]? = some p := by
  have := heap_alloc_new (w.alloc o) p
  rw [World.size_alloc] at this
  exact this
theorem Try.size61 : (Try.prog.info? 61).map (·.size) = some 3 := by kernel_rfl

set_option maxRecDepth 100000 in
set_option maxHeartbeats 1000000 in
theorem rule_any (r : RuleD) (A : Option Addr) (c : Nat) (w : World) (hr : StrRow w A r.vals) (hn : r.vals.length ≤ 2147483647) :
    Calls Try.prog 24 #[.agg #[encStr r.key, encStr r.op, .slice A r.vals.length c]] w (RuleAt r w) := by
  have HB0 := Lib.hid (b0_alloc (b0_refl w) (.cells #[encStr r.key, encStr r.op, .slice A r.vals.length c] 46))
  have HR := Lib.hid hr
  have HN := Lib.hid hn
  obtain ⟨k0, k1, k2⟩ := cells3 w (encStr r.key) (encStr r.op) (.slice A r.vals.length c) 46
  clear hr hn
  go_enter Try.func24, Try.ntmps24
  go_upto_region 1 with fail
  go_region_held3 (fun w' => w'.cell? ⟨w.heap.size, 0, none⟩ = some (encStr r.key) ∧ w'.cell? ⟨w.heap.size, 1, none⟩ = some (encStr r.op) ∧ w'.cell? ⟨w.heap.size, 2, none⟩ = some (.slice A r.vals.length c)) (go_keep)
    (first
      | (go_at_call 26; refine (texts_any A r.vals.length c r.vals _ rfl (HR.out.below (b0_drew (b0_alloc (b0_alloc (b0_refl w) _) _))) HN.out).mono ?_; rintro e w1 ⟨A1, c1, rfl, hs1, hA1, hb⟩; have z := (hb.block (w.heap.size + 1) (by simp)).trans (heap_second w _ _); obtain ⟨z0, z1, z2⟩ := blk_cells z; have y0 := Lib.frozen_of_heap z 0; have y1 := Lib.frozen_of_heap z 1; have y2 := Lib.frozen_of_heap z 2; have q0 : w1.cell? ⟨w.heap.size, 0, none⟩ = some (encStr r.key) := (hb.cell (p := ⟨w.heap.size, 0, none⟩) (by simp; omega)).trans (cell_old k0); have q1 : w1.cell? ⟨w.heap.size, 1, none⟩ = some (encStr r.op) := (hb.cell (p := ⟨w.heap.size, 1, none⟩) (by simp; omega)).trans (cell_old k1); have q2 : w1.cell? ⟨w.heap.size, 2, none⟩ = some (.slice A r.vals.length c) := (hb.cell (p := ⟨w.heap.size, 2, none⟩) (by simp; omega)).trans (cell_old k2); have Z := Lib.hid z; have HS1 := Lib.hid hs1; have HA1 := Lib.hid hA1; have HB1 := Lib.hid hb; clear z hs1 hA1 hb)
      | fail)
  all_goals
    (try simp only [Exit.then])
    go_wp2_with fail
    refine bodyPost_ret (results_cell_row rfl _ _ (w.heap.size + 1) 61 _ (0, 0) _ rfl (set3 Z.out) Try.underlying61 rfl Try.size61) rfl ⟨A1, c1, rfl, ?_, ?_⟩
    · exact ((HS1.out.set (by intro a ha; have := HA1.out a ha; simp at this ⊢; omega)).set (by intro a ha; have := HA1.out a ha; simp at this ⊢; omega)).set (by intro a ha; have := HA1.out a ha; simp at this ⊢; omega)
    · have hb := b0_then (b0_drew (b0_alloc (b0_alloc (b0_refl w) _) _)) HB1.out
      exact ((hb.setCell (p := ⟨w.heap.size + 1, 0, none⟩) (by simp) _).setCell (p := ⟨w.heap.size + 1, 1, none⟩) (by simp) _).setCell (p := ⟨w.heap.size + 1, 2, none⟩) (by simp) _

end Go.Proofs.Ytefnfcpekiaenaa
