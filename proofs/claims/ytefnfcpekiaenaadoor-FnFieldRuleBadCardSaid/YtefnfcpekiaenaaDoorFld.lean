/- ValidateFieldSelectorRequirement has no error just if the rule has a key, and as many values as its operator asks for, and the operator is known (or others are allowed), and the law FnFieldRuleBad returns true for every input. The rule's values are a slice that reads as a list of texts. -/
import Derived.Test.YtefnfcpekiaenaaDoorFrame
import Derived.LoopTactic
import Derived.Deep.AppendLies
import Derived.Laws.OwnMore
import Derived.Deep.Draws
import Derived.Deep.DeepCutAuto
import Derived.WalkSpells
import Derived.Deep.RegionHeld3
namespace Go.Proofs.YtefnfcpekiaenaaDoor
open Go.RowKit

/-- A slice of texts: its cells read as they are listed; the slice lies below what is new. -/
def StrRow (w : World) (A : Option Addr) (ss : List ByteArray) : Prop := ∀ k (h : k < ss.length), ∃ ad, A = some ad ∧ ad.block < w.heap.size ∧ w.cell? (ad.add k) = some (.string ss[k])
theorem StrRow.below {w w' : World} {A : Option Addr} {ss : List ByteArray} (h : StrRow w A ss) (hb : Below w.heap.size w w') : StrRow w' A ss := fun k hk => by
  obtain ⟨ad, rfl, hlt, hc⟩ := h k hk
  exact ⟨ad, rfl, Nat.lt_of_lt_of_le hlt hb.size, by rw [hb.cell (p := ad.add k) (by rw [addBlock]; exact hlt)]; exact hc⟩
where addBlock {ad : Addr} {k : Nat} : (ad.add k).block = ad.block := by unfold Addr.add; split <;> rfl

/-- It returns a bool, true only where the list is short enough; nothing that lay has turned. -/
def Short (n : Nat) (w : World) (e : Ending) (w' : World) : Prop := ∃ b, e = .returned (.bool b) ∧ (b = true → n ≤ 2147483647) ∧ Below w.heap.size w w'
theorem Short.no {n : Nat} {w w' : World} (h : Below w.heap.size w w') : Short n w (.returned (.bool false)) w' := ⟨false, rfl, by simp, h⟩
theorem Short.yes {n : Nat} {w w' : World} (hn : n ≤ 2147483647) (h : Below w.heap.size w w') : Short n w (.returned (.bool true)) w' := ⟨true, rfl, fun _ => hn, h⟩

set_option maxRecDepth 100000 in
theorem fits2_any (A : Option Addr) (n c : Nat) (ss : List ByteArray) (w : World) (hl : ss.length = n) (hr : StrRow w A ss) :
    Calls Tryd.prog 24 #[.slice A n c] w (Short n w) := by
  have HR := Lib.hid hr
  have HL := Lib.hid hl
  clear hr hl
  by_cases hn : n ≤ 2147483647
  · go_enter Tryd.func24, Tryd.ntmps24
    go_wp2
    go_loop [10] (fun i => ∃ k : Nat, k ≤ n ∧ i = .int .i64 k) (fun i => n - (intOf i).toNat)
    case atStart => exact ⟨0, Nat.zero_le _, rfl⟩
    case round =>
      obtain ⟨k, hk, rfl⟩ := hrel
      by_cases hlt : k < n
      · obtain ⟨ad, rfl, _, hc⟩ := HR.out k (by rw [HL.out]; exact hlt)
        go_wp2
        · go_ret
          exact Short.no (b0_refl w)
        · go_round
          case rel => exact ⟨k + 1, by omega, by go_num⟩
          case measure => simp [intOf]; omega
      · go_wp2
        go_ret
        exact Short.yes hn (b0_refl w)
  · go_enter Tryd.func24, Tryd.ntmps24
    go_wp2
    go_ret
    exact Short.no (b0_refl w)

set_option maxRecDepth 100000 in
theorem fits1_any (key op : ByteArray) (A : Option Addr) (n c : Nat) (ss : List ByteArray) (w : World) (hl : ss.length = n) (hr : StrRow w A ss) :
    Calls Tryd.prog 14 #[.agg #[.string key, .string op, .slice A n c]] w (Short n w) := by
  have HR := Lib.hid hr
  have HL := Lib.hid hl
  clear hr hl
  go_enter Tryd.func14, Tryd.ntmps14
  go_wp2_with fail
  · go_ret
    exact Short.no (b0_alloc (b0_refl w) _)
  · go_ret
    exact Short.no (b0_alloc (b0_refl w) _)
  · refine (fits2_any A n c ss _ HL.out (HR.out.below (b0_alloc (b0_refl w) _))).mono ?_
    rintro e w1 ⟨b, rfl, hbn, hb⟩
    have HB := Lib.hid (b0_then (b0_alloc (b0_refl w) _) hb)
    have HN := Lib.hid hbn
    clear hb hbn
    cases b
    · go_wp2_with fail
      go_ret
      exact Short.no HB.out
    · go_wp2_with fail
      go_ret
      exact Short.yes (HN.out trivial) HB.out

/-- Which of the four known operators a text is. -/
structure OpIs (op : ByteArray) (a b c d : Bool) : Prop where
  h1 : (op.toList == [73, 110]) = a
  h2 : (op.toList == [78, 111, 116, 73, 110]) = b
  h3 : (op.toList == [69, 120, 105, 115, 116, 115]) = c
  h4 : (op.toList == [68, 111, 101, 115, 78, 111, 116, 69, 120, 105, 115, 116]) = d

theorem op_cases (op : ByteArray) : OpIs op true false false false ∨ OpIs op false true false false ∨ OpIs op false false true false ∨ OpIs op false false false true ∨ OpIs op false false false false := by
  generalize h : op.toList = l
  by_cases e1 : l = [73, 110]
  · exact .inl ⟨by simp [h, e1], by simp [h, e1], by simp [h, e1], by simp [h, e1]⟩
  by_cases e2 : l = [78, 111, 116, 73, 110]
  · exact .inr (.inl ⟨by simp [h, e2], by simp [h, e2], by simp [h, e2], by simp [h, e2]⟩)
  by_cases e3 : l = [69, 120, 105, 115, 116, 115]
  · exact .inr (.inr (.inl ⟨by simp [h, e3], by simp [h, e3], by simp [h, e3], by simp [h, e3]⟩))
  by_cases e4 : l = [68, 111, 101, 115, 78, 111, 116, 69, 120, 105, 115, 116]
  · exact .inr (.inr (.inr (.inl ⟨by simp [h, e4], by simp [h, e4], by simp [h, e4], by simp [h, e4]⟩)))
  · exact .inr (.inr (.inr (.inr ⟨by simp [h, e1], by simp [h, e2], by simp [h, e3], by simp [h, e4]⟩)))

/-- As many values as the operator asks for. -/
def count (a b c d : Bool) (n : Nat) (allow : Bool) : Bool := if a || b then decide (0 < n) else if c || d then decide (n = 0) else allow

/-- It returns this bool; nothing that lay has turned. -/
def Tells (b : Bool) (w : World) (e : Ending) (w' : World) : Prop := e = .returned (.bool b) ∧ Below w.heap.size w w'

set_option maxRecDepth 100000 in
theorem count_any (key op : ByteArray) (A : Option Addr) (n c : Nat) (allow : Bool) (w : World) (a b x d : Bool) (ho : OpIs op a b x d)
    (hx : (a, b, x, d) = (true, false, false, false) ∨ (a, b, x, d) = (false, true, false, false) ∨ (a, b, x, d) = (false, false, true, false) ∨ (a, b, x, d) = (false, false, false, true) ∨ (a, b, x, d) = (false, false, false, false)) :
    Calls Tryd.prog 27 #[.agg #[.string key, .string op, .slice A n c], .bool allow] w (Tells (count a b x d n allow) w) := by
  obtain ⟨o1, o2, o3, o4⟩ := ho
  have hn : (decide (n = 0) : Bool) = ((n : Int) == 0) := by
    rw [Bool.eq_iff_iff]; simp
  have HN := Lib.hid hn
  clear hn
  rcases hx with h | h | h | h | h
  all_goals
    simp only [Prod.mk.injEq] at h
    obtain ⟨rfl, rfl, rfl, rfl⟩ := h
    go_enter Tryd.func27, Tryd.ntmps27
    go_wp2_with fail
    go_ret
    exact ⟨by simp [count, HN.out], b0_alloc (b0_refl w) _⟩

/-- What five kinds of operators there are. -/
def OpKind (a b x d : Bool) : Prop := (a, b, x, d) = (true, false, false, false) ∨ (a, b, x, d) = (false, true, false, false) ∨ (a, b, x, d) = (false, false, true, false) ∨ (a, b, x, d) = (false, false, false, true) ∨ (a, b, x, d) = (false, false, false, false)

set_option maxRecDepth 100000 in
theorem may_some (key op : ByteArray) (A : Option Addr) (n c : Nat) (allow : Bool) (w : World) (a b x d : Bool) (ho : OpIs op a b x d) (hx : OpKind a b x d) (hk : key.toList.isEmpty = false) :
    Calls Tryd.prog 16 #[.agg #[.string key, .string op, .slice A n c], .bool allow] w (Tells (count a b x d n allow) w) := by
  have HO := Lib.hid ho
  have HX := Lib.hid hx
  clear ho hx
  go_enter Tryd.func16, Tryd.ntmps16
  go_wp2_with fail
  refine (count_any key op A n c allow _ a b x d HO.out HX.out).mono ?_
  rintro e w1 ⟨rfl, hb⟩
  have HB := Lib.hid (b0_then (b0_alloc (b0_refl w) _) hb)
  clear hb
  go_wp2_with fail
  go_ret
  exact ⟨rfl, HB.out⟩

set_option maxRecDepth 100000 in
theorem may_none (op : ByteArray) (A : Option Addr) (n c : Nat) (allow : Bool) (w : World) :
    Calls Tryd.prog 16 #[.agg #[.string ⟨#[]⟩, .string op, .slice A n c], .bool allow] w (Tells false w) := by
  go_enter Tryd.func16, Tryd.ntmps16
  go_wp2_with fail
  go_ret
  exact ⟨rfl, b0_alloc (b0_refl w) _⟩

theorem info9 : (Tryd.prog.info? 9).map (fun i => (i.zero, i.size, i.bytes)) = some (some (.string ⟨#[]⟩), 1, 16) := by kernel_rfl

/-- It returns a list of so many; nothing that lay has turned. -/
def Many (n : Nat) (w : World) (e : Ending) (w' : World) : Prop := ∃ a c, e = .returned (.slice a n c) ∧ Below w.heap.size w w'

theorem own_empty9 (w : World) : (w.alloc (.cells #[] 9)).ownsRow w.heap.size 9 1 (.slice (some ⟨w.heap.size, 0, none⟩) 0 0) 0 [] :=
  ⟨rfl, .inr ⟨w.heap.size, 0, #[], rfl, Nat.le_refl _, heap_alloc_new w _, Nat.le_refl _, Nat.zero_le _, rfl, rfl⟩⟩

set_option maxRecDepth 100000 in
theorem texts_any (A : Option Addr) (n c : Nat) (ss : List ByteArray) (w : World) (hl : ss.length = n) (hr : StrRow w A ss) (hn : n ≤ 2147483647) :
    Calls Tryd.prog 25 #[.slice A n c] w (Many n w) := by
  obtain ⟨i0, hi, hz0, hz1, hz2⟩ := info_parts info9
  have hr1 := hr.below (b0_alloc (b0_refl w) (.cells #[] 9))
  have HO := Lib.hid (own_empty9 w)
  rcases Nat.eq_zero_or_pos n with h0 | h0
  · subst h0
    clear hr hr1
    cases A with
    | none =>
      go_enter Tryd.func25, Tryd.ntmps25
      go_wp2_with fail
      go_ret
      exact ⟨_, _, rfl, b0_alloc (b0_refl w) _⟩
    | some ad =>
      go_enter Tryd.func25, Tryd.ntmps25
      go_wp2_with fail
      go_ret
      exact ⟨_, _, rfl, b0_alloc (b0_refl w) _⟩
  · obtain ⟨ad, rfl⟩ : ∃ ad, A = some ad := by
      obtain ⟨ad, h, _⟩ := hr 0 (by omega)
      exact ⟨ad, h⟩
    have hnews : ∀ (j : Nat) (u : Value), (ss.map Value.string)[j]? = some u → (w.alloc (.cells #[] 9)).cell? (ad.add j) = some u := by
      intro j u hu
      rw [List.getElem?_map, Option.map_eq_some_iff] at hu
      obtain ⟨s, hs, rfl⟩ := hu
      obtain ⟨hj, rfl⟩ := List.getElem?_eq_some_iff.1 hs
      obtain ⟨ad', e, _, hc⟩ := hr1 j hj
      cases e
      exact hc
    have HN := Lib.hid hnews
    have HL := Lib.hid hl
    clear hr hr1 hnews hl
    go_enter Tryd.func25, Tryd.ntmps25
    go_wp2_with (at_builtin; refine wpList_append_own _ rfl _ _ 26 rfl w.heap.size 9 i0 (.string ⟨#[]⟩) 1 16 Tryd.underlying26 hi hz0 hz1 hz2 rfl (by decide) _ _ _ rfl HO.out ad n c (ss.map Value.string) rfl ?c1 ?c2 ?c3 ?c4 ?c5 ?c6 ?_)
    case c1 => rw [List.length_map, HL.out]; omega
    case c2 => exact HN.out
    case c3 =>
      intro u hu
      obtain ⟨s, _, rfl⟩ := List.mem_map.1 hu
      rfl
    case c4 => unfold maxLen; omega
    case c5 => omega
    case c6 => simp
    intro v' w1 hown1 hg1 hnil1
    clear hnil1
    obtain ⟨g, cap, hv', hge, hlt1⟩ := hown1.form (by omega)
    have HB := Lib.hid ((b0_alloc (b0_refl w) (.cells #[] 9)).grown hg1 (by simp) (by simp [Value.ownBlock]))
    clear hown1 hg1
    rw [hv']
    clear hv'
    go_wp2_with fail
    go_ret
    exact ⟨some ⟨g, 0, none⟩, cap, by simp, HB.out⟩

/-- Where the walk stands between its two halves: a list of j errors; the two boxes. -/
def Mid (w : World) (key op : ByteArray) (A : Option Addr) (n c : Nat) (allow : Bool) (j : Nat) (v : Value) (wx : World) : Prop :=
  (∃ xs, wx.ownsRow (w.heap.size + 2) 69 1 v j xs) ∧ Below w.heap.size w wx ∧ wx.heap[w.heap.size]? = some (.cells #[.string key, .string op, .slice A n c] 57 (0, 0)) ∧ wx.heap[w.heap.size + 1]? = some (.cells #[.bool allow] 60 (0, 0)) ∧
    w.heap.size + 2 ≤ wx.heap.size

/-- One, where it is so. -/
def one (b : Bool) : Nat := if b then 1 else 0

theorem cell_one {w : World} {b : Nat} {u : Value} {T : TypeId} (h : w.heap[b]? = some (.cells #[u] T (0, 0))) : w.cell? ⟨b, 0, none⟩ = some u := by rw [Lib.cell_of_heap h]; rfl

/-- Behind what makes memory. -/
theorem Mid.then_ {w wx w1 : World} {key op : ByteArray} {A : Option Addr} {n c : Nat} {allow : Bool} {j : Nat} {v : Value} (h : Mid w key op A n c allow j v wx) (hb : Below wx.heap.size wx w1) : Mid w key op A n c allow j v w1 := by
  obtain ⟨⟨xs, h1⟩, h2, h3, h4, h5⟩ := h
  have hs := hb.size
  refine ⟨⟨xs, ?_⟩, b0_then h2 hb, by rw [hb.block _ (by omega)]; exact h3, by rw [hb.block _ (by omega)]; exact h4, by omega⟩
  refine ⟨h1.1, ?_⟩
  rcases h1.2 with e | ⟨g, cap, cur, e1, e2, e3, e4⟩
  · exact .inl e
  · exact .inr ⟨g, cap, cur, e1, e2, (hb.block g (Lib.lt_of_heap e3)).trans e3, e4⟩

/-- Behind an append. -/
theorem Mid.grown {w wx w2 : World} {key op : ByteArray} {A : Option Addr} {n c : Nat} {allow : Bool} {j k : Nat} {v v' : Value} {xs : List Value}
    (h : Mid w key op A n c allow j v wx) (hg : wx.grownBy w2 v.ownBlock) (hown : w2.ownsRow (w.heap.size + 2) 69 1 v' k xs) : Mid w key op A n c allow k v' w2 := by
  obtain ⟨⟨ys, h1⟩, h2, h3, h4, h5⟩ := h
  have hs := hg.size
  have far : ∀ g, v.ownBlock = some g → w.heap.size + 2 ≤ g := fun g hg' => (h1.lt g hg').1
  refine ⟨⟨xs, hown⟩, h2.grown hg (by omega) (fun g hg' => by have := far g hg'; omega), ?_, ?_, by omega⟩
  · rw [hg.block _ (by omega) (fun e => by have := far _ e.symm; omega)]; exact h3
  · rw [hg.block _ (by omega) (fun e => by have := far _ e.symm; omega)]; exact h4

theorem Mid.alloc {w wx : World} {key op : ByteArray} {A : Option Addr} {n c : Nat} {allow : Bool} {j : Nat} {v : Value} (h : Mid w key op A n c allow j v wx) (o : Obj) : Mid w key op A n c allow j v (wx.alloc o) := h.then_ (b0_alloc (b0_refl wx) o)

theorem Mid.start (w : World) (key op : ByteArray) (A : Option Addr) (n c : Nat) (allow : Bool) :
    Mid w key op A n c allow 0 (.slice (some ⟨w.heap.size + 1 + 1, 0, none⟩) 0 0) (((w.alloc (.cells #[.string key, .string op, .slice A n c] 57)).alloc (.cells #[.bool allow] 60)).alloc (.cells #[] 69)) := by
  have e1 : (w.alloc (.cells #[.string key, .string op, .slice A n c] 57)).heap.size = w.heap.size + 1 := by simp
  have e2 : ((w.alloc (.cells #[.string key, .string op, .slice A n c] 57)).alloc (.cells #[.bool allow] 60)).heap.size = w.heap.size + 1 + 1 := by simp
  refine ⟨⟨[], rfl, .inr ⟨w.heap.size + 1 + 1, 0, #[], rfl, by omega, ?_, Nat.le_refl _, Nat.zero_le _, rfl, rfl⟩⟩, b0_alloc (b0_alloc (b0_alloc (b0_refl w) _) _) _, ?_, ?_, by simp⟩
  · rw [← e2]; exact heap_alloc_new _ _
  · rw [heap_alloc_old _ _ (by omega), heap_alloc_old _ _ (by omega)]; exact heap_alloc_new _ _
  · rw [heap_alloc_old _ _ (by omega), ← e1]; exact heap_alloc_new _ _

/-- What the two boxes hold. -/
theorem Mid.cells {w wx : World} {key op : ByteArray} {A : Option Addr} {n c : Nat} {allow : Bool} {j : Nat} {v : Value} (h : Mid w key op A n c allow j v wx) :
    wx.cell? ⟨w.heap.size, 0, none⟩ = some (.string key) ∧ wx.cell? ⟨w.heap.size, 1, none⟩ = some (.string op) ∧ wx.cell? ⟨w.heap.size, 2, none⟩ = some (.slice A n c) ∧ wx.cell? ⟨w.heap.size + 1, 0, none⟩ = some (.bool allow) := by
  obtain ⟨_, _, h3, h4, _⟩ := h
  obtain ⟨a, b, c⟩ := blk_cells h3
  exact ⟨a, b, c, cell_one h4⟩

theorem Mid.many {w wx : World} {key op : ByteArray} {A : Option Addr} {n c : Nat} {allow : Bool} {j : Nat} {v : Value} (h : Mid w key op A n c allow j v wx) : Many j w (.returned v) wx := by
  obtain ⟨⟨xs, h1⟩, h2, _⟩ := h
  rcases h1.2 with ⟨rfl, rfl⟩ | ⟨g, cap, cur, rfl, _⟩
  · exact ⟨_, _, rfl, h2⟩
  · exact ⟨_, _, rfl, h2⟩

set_option maxRecDepth 100000 in
set_option maxHeartbeats 1000000 in
theorem fields_any (p : Nat) (key op : ByteArray) (A : Option Addr) (n c : Nat) (allow : Bool) (t : ByteArray) (w : World) (hp : Node w p t (.pointer none)) (a b x d kb : Bool) (ho : OpIs op a b x d) (hx : OpKind a b x d) (hk : ((key.size : Int) == 0) = kb) (m : Nat) (hm : m = one kb + one (!count a b x d n allow)) :
    Calls Tryd.prog 26 #[.agg #[.string key, .string op, .slice A n c], .agg #[.bool allow], .pointer (some ⟨p, 0, none⟩)] w (Many m w) := by
  obtain ⟨i0, hi, hz0, hz1, hz2⟩ := info_parts info69
  have HS := Lib.hid (Mid.start w key op A n c allow)
  have HO := Lib.hid ho
  have HX := Lib.hid hx
  have HP := Lib.hid hp
  have hplt := hp.lt
  have hnode : ∀ wx, Below w.heap.size w wx → Node wx p t (.pointer none) := fun wx hb => HP.out.keep (hb.block p HP.out.lt)
  have HN := Lib.hid hnode
  have HM := Lib.hid hm
  clear ho hx hp hnode hm
  have hone : one kb ≤ 1 := by cases kb <;> simp [one]
  go_enter Tryd.func26, Tryd.ntmps26
  go_upto_if 12 with fail
  go_cut [7] (fun s7 wx => Mid w key op A n c allow (one kb) s7 wx)
  case first =>
    cases kb
    · go_wp2_with fail
      go_meet
      exact HS.out
    · generalize ((w.alloc (.cells #[.string key, .string op, .slice A n c] 57)).alloc (.cells #[.bool allow] 60)).alloc (.cells #[] 69) = wy at *
      go_wp2_with fail
      refine (child_any p _ t wy (HN.out wy HS.out.2.1) (by decide) (by decide)).mono ?_
      rintro e w1 ⟨rfl, hpo, hb⟩
      have HM1 := Lib.hid (HS.out.then_ hb)
      have HPO := Lib.hid hpo
      clear hb hpo
      go_wp2_with fail
      refine (required_any _ _ w1 HPO.out).mono ?_
      rintro e w2 ⟨g, rfl, _, _, _, _, hb⟩
      have HM2 := Lib.hid (HM1.out.then_ hb)
      clear hb
      obtain ⟨⟨xs, hown⟩, _, _, _, hsz⟩ := HM2.out
      have HOWN := Lib.hid hown
      clear hown
      go_wp2_with (at_builtin; refine wpList_append_own _ rfl _ _ 40 rfl (w.heap.size + 2) 69 i0 (.pointer none) 1 8 Tryd.underlying40 hi hz0 hz1 hz2 rfl (by decide) _ _ _ rfl (HOWN.out.alloc _) ⟨w2.heap.size, 0, none⟩ 1 1 [.pointer (some ⟨g, 0, none⟩)] rfl rfl ?c1 ?c2 ?c3 ?c4 ?c5 ?_)
      case c1 => exact cell_one_new _ _ _
      case c2 => simp [Value.oneCell']
      case c3 => unfold maxLen; omega
      case c4 => omega
      case c5 => simp; omega
      intro v' w3 hown3 hg3 hnil3
      clear hnil3
      have hm3 := (HM2.out.alloc (.cells #[.pointer (some ⟨g, 0, none⟩)] 69)).grown hg3 hown3
      have HM3 := Lib.hid hm3
      clear hown3 hg3 hm3 HOWN hsz
      go_wp2_with fail
      go_meet
      exact HM3.out
  case rest =>
    have HC := Lib.hid hcut
    clear hcut HS
    obtain ⟨b0, b1, b2, b3⟩ := HC.out.cells
    obtain ⟨o1, o2, o3, o4⟩ := HO.out
    rcases HX.out with h | h | h | h | h
    all_goals
      simp only [Prod.mk.injEq] at h
      obtain ⟨rfl, rfl, rfl, rfl⟩ := h
      clear HX HO
    · by_cases hn : n = 0
      · subst hn
        · go_wp2_with fail
          refine (child_any p _ t wc (HN.out wc HC.out.2.1) (by decide) (by decide)).mono ?_
          rintro e w1 ⟨rfl, hpo, hb⟩
          have HM1 := Lib.hid (HC.out.then_ hb)
          have HPO := Lib.hid hpo
          clear hb hpo
          go_wp2_with fail
          refine (required_any _ _ w1 HPO.out).mono ?_
          rintro e w2 ⟨g, rfl, _, _, _, _, hb⟩
          have HM2 := Lib.hid (HM1.out.then_ hb)
          clear hb
          obtain ⟨⟨xs, hown⟩, _, _, _, hsz⟩ := HM2.out
          have HOWN := Lib.hid hown
          clear hown
          go_wp2_with (at_builtin; refine wpList_append_own _ rfl _ _ 40 rfl (w.heap.size + 2) 69 i0 (.pointer none) 1 8 Tryd.underlying40 hi hz0 hz1 hz2 rfl (by decide) _ _ _ rfl (HOWN.out.alloc _) ⟨w2.heap.size, 0, none⟩ 1 1 [.pointer (some ⟨g, 0, none⟩)] rfl rfl ?c1 ?c2 ?c3 ?c4 ?c5 ?_)
          case c1 => exact cell_one_new _ _ _
          case c2 => simp [Value.oneCell']
          case c3 => unfold maxLen; omega
          case c4 => omega
          case c5 => simp; omega
          intro v' w3 hown3 hg3 hnil3
          clear hnil3
          have hm3 := (HM2.out.alloc (.cells #[.pointer (some ⟨g, 0, none⟩)] 69)).grown hg3 hown3
          have HM3 := Lib.hid hm3
          clear hown3 hg3 hm3 HOWN hsz
          go_wp2_with fail
          go_ret
          rw [HM.out]
          simpa [count, one] using HM3.out.many
      · have hn1 : ((n : Int) == 0) = false := by simp; omega
        · have hn2 : 0 < n := by omega
          go_wp2_with fail
          go_ret
          rw [HM.out]
          simpa [count, one, hn2] using HC.out.many
    · by_cases hn : n = 0
      · subst hn
        · go_wp2_with fail
          refine (child_any p _ t wc (HN.out wc HC.out.2.1) (by decide) (by decide)).mono ?_
          rintro e w1 ⟨rfl, hpo, hb⟩
          have HM1 := Lib.hid (HC.out.then_ hb)
          have HPO := Lib.hid hpo
          clear hb hpo
          go_wp2_with fail
          refine (required_any _ _ w1 HPO.out).mono ?_
          rintro e w2 ⟨g, rfl, _, _, _, _, hb⟩
          have HM2 := Lib.hid (HM1.out.then_ hb)
          clear hb
          obtain ⟨⟨xs, hown⟩, _, _, _, hsz⟩ := HM2.out
          have HOWN := Lib.hid hown
          clear hown
          go_wp2_with (at_builtin; refine wpList_append_own _ rfl _ _ 40 rfl (w.heap.size + 2) 69 i0 (.pointer none) 1 8 Tryd.underlying40 hi hz0 hz1 hz2 rfl (by decide) _ _ _ rfl (HOWN.out.alloc _) ⟨w2.heap.size, 0, none⟩ 1 1 [.pointer (some ⟨g, 0, none⟩)] rfl rfl ?c1 ?c2 ?c3 ?c4 ?c5 ?_)
          case c1 => exact cell_one_new _ _ _
          case c2 => simp [Value.oneCell']
          case c3 => unfold maxLen; omega
          case c4 => omega
          case c5 => simp; omega
          intro v' w3 hown3 hg3 hnil3
          clear hnil3
          have hm3 := (HM2.out.alloc (.cells #[.pointer (some ⟨g, 0, none⟩)] 69)).grown hg3 hown3
          have HM3 := Lib.hid hm3
          clear hown3 hg3 hm3 HOWN hsz
          go_wp2_with fail
          go_ret
          rw [HM.out]
          simpa [count, one] using HM3.out.many
      · have hn1 : ((n : Int) == 0) = false := by simp; omega
        · have hn2 : 0 < n := by omega
          go_wp2_with fail
          go_ret
          rw [HM.out]
          simpa [count, one, hn2] using HC.out.many
    · by_cases hn : n = 0
      · subst hn
        · clear b0
          go_wp2_with fail
          go_ret
          rw [HM.out]
          simpa [count, one] using HC.out.many
      · have hn1 : 0 < n := by omega
        · have hn3 : (0 : Int) < (n : Int) := by omega
          go_wp2_with fail
          refine (child_any p _ t wc (HN.out wc HC.out.2.1) (by decide) (by decide)).mono ?_
          rintro e w1 ⟨rfl, hpo, hb⟩
          have HM1 := Lib.hid (HC.out.then_ hb)
          have HPO := Lib.hid hpo
          clear hb hpo
          go_wp2_with fail
          refine (forbidden_any _ _ w1 HPO.out).mono ?_
          rintro e w2 ⟨g, rfl, _, _, _, _, hb⟩
          have HM2 := Lib.hid (HM1.out.then_ hb)
          clear hb
          obtain ⟨⟨xs, hown⟩, _, _, _, hsz⟩ := HM2.out
          have HOWN := Lib.hid hown
          clear hown
          go_wp2_with (at_builtin; refine wpList_append_own _ rfl _ _ 40 rfl (w.heap.size + 2) 69 i0 (.pointer none) 1 8 Tryd.underlying40 hi hz0 hz1 hz2 rfl (by decide) _ _ _ rfl (HOWN.out.alloc _) ⟨w2.heap.size, 0, none⟩ 1 1 [.pointer (some ⟨g, 0, none⟩)] rfl rfl ?c1 ?c2 ?c3 ?c4 ?c5 ?_)
          case c1 => exact cell_one_new _ _ _
          case c2 => simp [Value.oneCell']
          case c3 => unfold maxLen; omega
          case c4 => omega
          case c5 => simp; omega
          intro v' w3 hown3 hg3 hnil3
          clear hnil3
          have hm3 := (HM2.out.alloc (.cells #[.pointer (some ⟨g, 0, none⟩)] 69)).grown hg3 hown3
          have HM3 := Lib.hid hm3
          clear hown3 hg3 hm3 HOWN hsz
          go_wp2_with fail
          go_ret
          rw [HM.out]
          simpa [count, one, hn] using HM3.out.many
    · by_cases hn : n = 0
      · subst hn
        · clear b0
          go_wp2_with fail
          go_ret
          rw [HM.out]
          simpa [count, one] using HC.out.many
      · have hn1 : 0 < n := by omega
        · have hn3 : (0 : Int) < (n : Int) := by omega
          go_wp2_with fail
          refine (child_any p _ t wc (HN.out wc HC.out.2.1) (by decide) (by decide)).mono ?_
          rintro e w1 ⟨rfl, hpo, hb⟩
          have HM1 := Lib.hid (HC.out.then_ hb)
          have HPO := Lib.hid hpo
          clear hb hpo
          go_wp2_with fail
          refine (forbidden_any _ _ w1 HPO.out).mono ?_
          rintro e w2 ⟨g, rfl, _, _, _, _, hb⟩
          have HM2 := Lib.hid (HM1.out.then_ hb)
          clear hb
          obtain ⟨⟨xs, hown⟩, _, _, _, hsz⟩ := HM2.out
          have HOWN := Lib.hid hown
          clear hown
          go_wp2_with (at_builtin; refine wpList_append_own _ rfl _ _ 40 rfl (w.heap.size + 2) 69 i0 (.pointer none) 1 8 Tryd.underlying40 hi hz0 hz1 hz2 rfl (by decide) _ _ _ rfl (HOWN.out.alloc _) ⟨w2.heap.size, 0, none⟩ 1 1 [.pointer (some ⟨g, 0, none⟩)] rfl rfl ?c1 ?c2 ?c3 ?c4 ?c5 ?_)
          case c1 => exact cell_one_new _ _ _
          case c2 => simp [Value.oneCell']
          case c3 => unfold maxLen; omega
          case c4 => omega
          case c5 => simp; omega
          intro v' w3 hown3 hg3 hnil3
          clear hnil3
          have hm3 := (HM2.out.alloc (.cells #[.pointer (some ⟨g, 0, none⟩)] 69)).grown hg3 hown3
          have HM3 := Lib.hid hm3
          clear hown3 hg3 hm3 HOWN hsz
          go_wp2_with fail
          go_ret
          rw [HM.out]
          simpa [count, one, hn] using HM3.out.many
    · cases allow
      · go_wp2_with fail
        go_region_held3 (fun w' => w'.cell? ⟨w.heap.size, 1, none⟩ = some (.string op)) (first | assumption | go_keep)
          (first
            | (go_at_call 42; refine (child_any p _ t _ (by exact HN.out wc HC.out.2.1) (by decide) (by decide)).mono ?_; rintro e w1 ⟨rfl, hpo, hb⟩; have HM1 := Lib.hid (HC.out.then_ (b0_then (b0_drew (b0_refl wc)) hb)); have q1 := HM1.out.cells.2.1; have HPO := Lib.hid hpo; clear hb hpo)
            | (go_at_call 39; refine (invalid_any _ _ _ _ w1 HPO.out).mono ?_; rintro e w2 ⟨g, rfl, _, _, _, _, hb⟩; have HM2 := Lib.hid (HM1.out.then_ hb); have q2 := HM2.out.cells.2.1; clear hb)
            | (obtain ⟨⟨xs, hown⟩, _, _, _, hsz⟩ := HM2.out; refine step_append_lies _ (by rfl) _ _ _ (by rfl) (w.heap.size + 2) 69 i0 _ 1 8 Tryd.underlying40 hi hz0 hz1 hz2 rfl (by omega) _ (one kb) xs (by rfl) (hown.alloc _) ⟨w2.heap.size, 0, none⟩ 1 1 [.pointer (some ⟨g, 0, none⟩)] (by rfl) (by rfl) (cell_one_new _ _ _) (by simp [Value.oneCell']) (by omega) (by unfold maxLen; omega) (by omega) (by simp; omega) (w2.heap.size + 1) (by simp) ?_; intro g3 cap3 w3 hown3 hg3 hat3 hlt3; have HM3 := Lib.hid ((HM2.out.alloc (.cells #[.pointer (some ⟨g, 0, none⟩)] 69)).grown hg3 hown3); have q3 := HM3.out.cells.2.1; clear hown3 hg3 hown hat3))
        go_wp2_with fail
        go_ret
        rw [HM.out]
        simpa [count, one] using HM3.out.many
      · · clear b0
          go_wp2_with fail
          go_ret
          rw [HM.out]
          simpa [count, one] using HC.out.many

/-- The requirement as the package has it: a block of its own. -/
def Req (w : World) (key op : ByteArray) (n : Nat) (v : Value) (wx : World) : Prop :=
  ∃ g A c, v = .pointer (some ⟨g, 0, none⟩) ∧ wx.heap[g]? = some (.cells #[.string key, .string op, .slice A n c] 57 (0, 0)) ∧ Below w.heap.size w wx

theorem cell_old {w : World} {o : Obj} {p : Addr} {v : Value} (h : w.cell? p = some v) : (w.alloc o).cell? p = some v := by
  rw [World.cell?_alloc_lt _ _ _ (World.block_lt_of_cell? w _ h)]
  exact h

theorem new_facts {W w1 : World} {u v p : Value} {T : TypeId} (hb : Below (W.alloc (.cells #[u, v, p] T)).drew.heap.size (W.alloc (.cells #[u, v, p] T)).drew w1) :
    w1.heap[W.heap.size]? = some (.cells #[u, v, p] T (0, 0)) :=
  (hb.block W.heap.size (by show W.heap.size < (W.alloc _).heap.size; simp)).trans (heap_alloc_new _ _)

theorem set3 {w : World} {b : Nat} {u v p u' v' p' : Value} {T : TypeId} (h : w.heap[b]? = some (.cells #[u, v, p] T (0, 0))) :
    (((w.setCell ⟨b, 0, none⟩ u').setCell ⟨b, 1, none⟩ v').setCell ⟨b, 2, none⟩ p').heap[b]? = some (.cells #[u', v', p'] T (0, 0)) :=
  Lib.heap_setCell_same (i := 2) (Lib.heap_setCell_same (i := 1) (Lib.heap_setCell_same (i := 0) h u') v') p'

theorem req_after {w w1 : World} {o : Obj} {key op : ByteArray} {n c : Nat} {A : Option Addr} (hb : Below (w.alloc o).drew.heap.size (w.alloc o).drew w1) :
    Req w key op n (.pointer (some ⟨w1.heap.size, 0, none⟩)) (w1.alloc (.cells #[.string key, .string op, .slice A n c] 57)) :=
  ⟨_, _, _, rfl, heap_alloc_new _ _, b0_alloc (b0_then (b0_drew (b0_alloc (b0_refl w) o)) hb) _⟩

theorem req_before {w w1 : World} {o : Obj} {key op : ByteArray} {n c : Nat} {A : Option Addr} {u v p : Value} (hb : Below ((w.alloc o).alloc (.cells #[u, v, p] 57)).drew.heap.size ((w.alloc o).alloc (.cells #[u, v, p] 57)).drew w1)
    (z : w1.heap[w.heap.size + 1]? = some (.cells #[u, v, p] 57 (0, 0))) :
    Req w key op n (.pointer (some ⟨w.heap.size + 1, 0, none⟩)) (((w1.setCell ⟨w.heap.size + 1, 0, none⟩ (.string key)).setCell ⟨w.heap.size + 1, 1, none⟩ (.string op)).setCell ⟨w.heap.size + 1, 2, none⟩ (.slice A n c)) :=
  ⟨_, _, _, rfl, set3 z, (((b0_then (b0_drew (b0_alloc (b0_alloc (b0_refl w) o) _)) hb).setCell (p := ⟨w.heap.size + 1, 0, none⟩) (by simp) _).setCell (p := ⟨w.heap.size + 1, 1, none⟩) (by simp) _).setCell (p := ⟨w.heap.size + 1, 2, none⟩) (by simp) _⟩

set_option maxRecDepth 100000 in
set_option maxHeartbeats 1000000 in
theorem fieldBad_any (key op : ByteArray) (A : Option Addr) (n c : Nat) (ss : List ByteArray) (allow : Bool) (w : World) (hl : ss.length = n) (hr : StrRow w A ss) (hn : n ≤ 2147483647) (a b x d kb : Bool) (ho : OpIs op a b x d) (hx : OpKind a b x d) (hk : ((key.size : Int) == 0) = kb) (m : Nat) (hm : m = one kb + one (!count a b x d n allow)) :
    Calls Tryd.prog 15 #[.agg #[.string key, .string op, .slice A n c], .bool allow] w (Bads m w) := by
  have HL := Lib.hid hl
  have HR := Lib.hid (hr.below (b0_alloc (b0_refl w) (.cells #[.string key, .string op, .slice A n c] 28)))
  have HN := Lib.hid hn
  have HO := Lib.hid ho
  have HX := Lib.hid hx
  have HK := Lib.hid hk
  have HM := Lib.hid hm
  clear hl hr hn ho hx hk hm
  have hb0 : Below w.heap.size w (w.alloc (.cells #[.string key, .string op, .slice A n c] 28)) := b0_alloc (b0_refl w) _
  have HB0 := Lib.hid hb0
  clear hb0
  obtain ⟨k0, k1, k2⟩ := blk_cells (heap_alloc_new w (.cells #[.string key, .string op, .slice A n c] 28))
  go_enter Tryd.func15, Tryd.ntmps15
  go_upto_region 1 with fail
  go_cut [5] (fun s5 wx => Req w key op n s5 wx)
  case first =>
    go_region_held3 (fun w' => w'.cell? ⟨w.heap.size, 0, none⟩ = some (.string key) ∧ w'.cell? ⟨w.heap.size, 1, none⟩ = some (.string op) ∧ w'.cell? ⟨w.heap.size, 2, none⟩ = some (.slice A n c)) (go_keep)
      (first
        | (go_at_call 25; refine (texts_any A n c ss _ HL.out (by first | exact HR.out | exact HR.out.below (b0_drew (b0_alloc (b0_refl _) _))) HN.out).mono ?_; rintro e w1 ⟨A1, c1, rfl, hb⟩; have z := new_facts hb; (try simp only [World.size_alloc] at z); obtain ⟨z0, z1, z2⟩ := blk_cells z; have y0 := Lib.frozen_of_heap z 0; have y1 := Lib.frozen_of_heap z 1; have y2 := Lib.frozen_of_heap z 2; have Z := Lib.hid z; clear z; have q0 : w1.cell? ⟨w.heap.size, 0, none⟩ = some (.string key) := (by first | exact (hb.cell (p := ⟨w.heap.size, 0, none⟩) (by simp)).trans k0 | exact (hb.cell (p := ⟨w.heap.size, 0, none⟩) (by simp; omega)).trans (cell_old k0) | exact (hb.cell (p := ⟨w.heap.size, 0, none⟩) (by simp)).trans (cell_old k0)); have q1 : w1.cell? ⟨w.heap.size, 1, none⟩ = some (.string op) := (by first | exact (hb.cell (p := ⟨w.heap.size, 1, none⟩) (by simp)).trans k1 | exact (hb.cell (p := ⟨w.heap.size, 1, none⟩) (by simp; omega)).trans (cell_old k1) | exact (hb.cell (p := ⟨w.heap.size, 1, none⟩) (by simp)).trans (cell_old k1)); have q2 : w1.cell? ⟨w.heap.size, 2, none⟩ = some (.slice A n c) := (by first | exact (hb.cell (p := ⟨w.heap.size, 2, none⟩) (by simp)).trans k2 | exact (hb.cell (p := ⟨w.heap.size, 2, none⟩) (by simp; omega)).trans (cell_old k2) | exact (hb.cell (p := ⟨w.heap.size, 2, none⟩) (by simp)).trans (cell_old k2))))
    all_goals
      go_wp2_with fail
      go_meet
      first | exact req_after hb | exact req_before hb Z.out
  case rest =>
    obtain ⟨g, A1, c1, rfl, hg, hb⟩ := hcut
    obtain ⟨x0, x1, x2⟩ := blk_cells hg
    have hglt : g < wc.heap.size := Lib.lt_of_heap hg
    have HB := Lib.hid hb
    clear hb hg k0 k1 k2 HB0
    go_wp2_with fail
    go_region_held3 (fun w' => w'.cell? ⟨g, 0, none⟩ = some (.string key) ∧ w'.cell? ⟨g, 1, none⟩ = some (.string op) ∧ w'.cell? ⟨g, 2, none⟩ = some (.slice A1 n c1)) (go_keep)
      (first
        | (go_at_call 22; refine (newPath_any _ _).mono ?_; rintro e w1 ⟨rfl, rfl⟩)
        | (go_at_call 26; refine (fields_any _ key op A1 n c1 allow ⟨#[120]⟩ _ ⟨by exact heap_alloc_new wc _, by decide, by decide⟩ a b x d kb HO.out HX.out HK.out m HM.out).mono ?_; rintro e w2 ⟨A2, c2, rfl, hb2⟩; have q0 : w2.cell? ⟨g, 0, none⟩ = some (.string key) := (hb2.cell (p := ⟨g, 0, none⟩) (by simp; omega)).trans (cell_old x0); have q1 : w2.cell? ⟨g, 1, none⟩ = some (.string op) := (hb2.cell (p := ⟨g, 1, none⟩) (by simp; omega)).trans (cell_old x1); have q2 : w2.cell? ⟨g, 2, none⟩ = some (.slice A1 n c1) := (hb2.cell (p := ⟨g, 2, none⟩) (by simp; omega)).trans (cell_old x2)))
    all_goals
      have HB2 := Lib.hid (b0_then (b0_drew (b0_alloc HB.out _)) hb2)
      clear hb2
      go_wp2_with fail
      go_ret
      exact ⟨rfl, HB2.out⟩

/-- A field's rule has this many errors, and may be or not, by its key, its operator and its number of values. -/
structure RuleIs (key op : ByteArray) (n : Nat) (allow : Bool) (m : Nat) (may : Bool) : Prop where
  bad : ∀ (A : Option Addr) (c : Nat) (ss : List ByteArray) (w : World), ss.length = n → StrRow w A ss → n ≤ 2147483647 → Calls Tryd.prog 15 #[.agg #[.string key, .string op, .slice A n c], .bool allow] w (Bads m w)
  good : ∀ (A : Option Addr) (c : Nat) (w : World), Calls Tryd.prog 16 #[.agg #[.string key, .string op, .slice A n c], .bool allow] w (Tells may w)

theorem rule_is (key op : ByteArray) (n : Nat) (allow : Bool) : RuleIs key op n allow 0 true ∨ RuleIs key op n allow 1 false ∨ RuleIs key op n allow 2 false := by
  have main : ∀ a b x d, OpIs op a b x d → OpKind a b x d → RuleIs key op n allow 0 true ∨ RuleIs key op n allow 1 false ∨ RuleIs key op n allow 2 false := by
    intro a b x d ho hx
    by_cases hk : key.size = 0
    · have hkey : key = ⟨#[]⟩ := by
        obtain ⟨l⟩ := key
        simp [ByteArray.size] at hk
        simp [hk]
      subst hkey
      cases hc : count a b x d n allow
      · exact .inr (.inr ⟨fun A c ss w hl hr hn => fieldBad_any _ op A n c ss allow w hl hr hn a b x d true ho hx rfl 2 (by simp [one, hc]), fun A c w => may_none op A n c allow w⟩)
      · exact .inr (.inl ⟨fun A c ss w hl hr hn => fieldBad_any _ op A n c ss allow w hl hr hn a b x d true ho hx rfl 1 (by simp [one, hc]), fun A c w => may_none op A n c allow w⟩)
    · have hk1 : ((key.size : Int) == 0) = false := by rw [beq_eq_false_iff_ne]; omega
      have hk2 : key.toList.isEmpty = false := by
        rw [← Bool.not_eq_true, List.isEmpty_iff]
        intro h
        rw [Lib.toList_data] at h
        exact hk (by rw [Lib.size_eq, h]; rfl)
      cases hc : count a b x d n allow
      · exact .inr (.inl ⟨fun A c ss w hl hr hn => fieldBad_any _ op A n c ss allow w hl hr hn a b x d false ho hx hk1 1 (by simp [one, hc]), fun A c w => by rw [← hc]; exact may_some key op A n c allow w a b x d ho hx hk2⟩)
      · exact .inl ⟨fun A c ss w hl hr hn => fieldBad_any _ op A n c ss allow w hl hr hn a b x d false ho hx hk1 0 (by simp [one, hc]), fun A c w => by rw [← hc]; exact may_some key op A n c allow w a b x d ho hx hk2⟩
  rcases op_cases op with h | h | h | h | h
  · exact main _ _ _ _ h (.inl rfl)
  · exact main _ _ _ _ h (.inr (.inl rfl))
  · exact main _ _ _ _ h (.inr (.inr (.inl rfl)))
  · exact main _ _ _ _ h (.inr (.inr (.inr (.inl rfl))))
  · exact main _ _ _ _ h (.inr (.inr (.inr (.inr rfl))))
theorem opExists : OpIs ⟨#[69, 120, 105, 115, 116, 115]⟩ false false true false := ⟨by rw [Lib.toList_data]; decide, by rw [Lib.toList_data]; decide, by rw [Lib.toList_data]; decide, by rw [Lib.toList_data]; decide⟩
theorem mark_any (w : World) : Calls Tryd.prog 15 #[.agg #[.string ⟨#[]⟩, .string ⟨#[69, 120, 105, 115, 116, 115]⟩, .slice none 0 0], .bool true] w (Bads 1 w) :=
  fieldBad_any _ _ none 0 0 [] true w rfl (fun k h => absurd h (by simp)) (by omega) false false true false true opExists (.inr (.inr (.inl rfl))) rfl 1 rfl

set_option maxRecDepth 100000 in
set_option maxHeartbeats 1000000 in
theorem fnFieldRuleBad_walk (key op : ByteArray) (A : Option Addr) (n c : Nat) (ss : List ByteArray) (allow : Bool) (w : World) (hl : ss.length = n) (hr : StrRow w A ss) :
    Calls Tryd.prog 5 #[.agg #[.string key, .string op, .slice A n c], .bool allow] w (SaysTrue w) := by
  have HL := Lib.hid hl
  have HR := Lib.hid hr
  clear hl hr
  obtain ⟨k0, k1, k2⟩ := blk_cells (heap_alloc_new w (.cells #[.string key, .string op, .slice A n c] 28))
  go_enter Tryd.func5, Tryd.ntmps5
  go_wp2_with fail
  refine (fits1_any key op A n c ss _ HL.out (HR.out.below (b0_alloc (b0_refl w) _))).mono ?_
  rintro e w1 ⟨b, rfl, hbn, hb⟩
  cases b
  · have HB := Lib.hid (b0_then (b0_alloc (b0_refl w) _) hb)
    clear hb hbn
    go_wp2_with fail
    go_ret
    exact ⟨rfl, HB.out⟩
  · have HN := Lib.hid hbn
    have x0 := (hb.cell (p := ⟨w.heap.size, 0, none⟩) (by simp)).trans k0
    have x1 := (hb.cell (p := ⟨w.heap.size, 1, none⟩) (by simp)).trans k1
    have x2 := (hb.cell (p := ⟨w.heap.size, 2, none⟩) (by simp)).trans k2
    have hlt : w.heap.size < w1.heap.size := by have := hb.size; simp at this; omega
    have HB := Lib.hid (b0_then (b0_alloc (b0_refl w) _) hb)
    clear hb hbn k0 k1 k2
    go_wp2_with fail
    rcases rule_is key op n allow with h | h | h
    all_goals
      obtain ⟨hbad, hgood⟩ := h
      go_region_held3 (fun w' => w'.cell? ⟨w.heap.size, 0, none⟩ = some (.string key) ∧ w'.cell? ⟨w.heap.size, 1, none⟩ = some (.string op) ∧ w'.cell? ⟨w.heap.size, 2, none⟩ = some (.slice A n c)) (first | exact ⟨x0, x1, x2⟩ | go_keep)
        (first
          | (go_at_call_of 15 (Value.string key); refine (hbad A c ss _ HL.out (by first | exact HR.out.below HB.out | exact HR.out.below (b0_drew HB.out)) (HN.out trivial)).mono ?_; rintro e wa ⟨rfl, hb⟩; have HB2 : Hid (Below w.heap.size w wa) := Lib.hid (by first | exact b0_then HB.out hb | exact b0_then (b0_drew HB.out) hb); have l2 : w.heap.size < wa.heap.size := Nat.lt_of_lt_of_le hlt hb.size; have y0 := (hb.cell (p := ⟨w.heap.size, 0, none⟩) hlt).trans x0; have y1 := (hb.cell (p := ⟨w.heap.size, 1, none⟩) hlt).trans x1; have y2 := (hb.cell (p := ⟨w.heap.size, 2, none⟩) hlt).trans x2; clear hb HB hlt x0 x1 x2; rename Hid (Below w.heap.size w wa) => HB; rename w.heap.size < wa.heap.size => hlt; rename wa.cell? ⟨w.heap.size, 0, none⟩ = some (.string key) => x0; rename wa.cell? ⟨w.heap.size, 1, none⟩ = some (.string op) => x1; rename wa.cell? ⟨w.heap.size, 2, none⟩ = some (.slice A n c) => x2)
          | (go_at_call 16; refine (hgood A c _).mono ?_; rintro e wb ⟨rfl, hb⟩; have HB2 : Hid (Below w.heap.size w wb) := Lib.hid (by first | exact b0_then HB.out hb | exact b0_then (b0_drew HB.out) hb); have l2 : w.heap.size < wb.heap.size := Nat.lt_of_lt_of_le hlt hb.size; have y0 := (hb.cell (p := ⟨w.heap.size, 0, none⟩) hlt).trans x0; have y1 := (hb.cell (p := ⟨w.heap.size, 1, none⟩) hlt).trans x1; have y2 := (hb.cell (p := ⟨w.heap.size, 2, none⟩) hlt).trans x2; clear hb HB hlt x0 x1 x2; rename Hid (Below w.heap.size w wb) => HB; rename w.heap.size < wb.heap.size => hlt; rename wb.cell? ⟨w.heap.size, 0, none⟩ = some (.string key) => x0; rename wb.cell? ⟨w.heap.size, 1, none⟩ = some (.string op) => x1; rename wb.cell? ⟨w.heap.size, 2, none⟩ = some (.slice A n c) => x2)
          | (go_at_call_of 15 (Value.string ⟨#[]⟩); refine (mark_any _).mono ?_; rintro e wd ⟨rfl, hb⟩; have HB2 : Hid (Below w.heap.size w wd) := Lib.hid (by first | exact b0_then HB.out hb | exact b0_then (b0_drew HB.out) hb); have l2 : w.heap.size < wd.heap.size := Nat.lt_of_lt_of_le hlt hb.size; have y0 := (hb.cell (p := ⟨w.heap.size, 0, none⟩) hlt).trans x0; have y1 := (hb.cell (p := ⟨w.heap.size, 1, none⟩) hlt).trans x1; have y2 := (hb.cell (p := ⟨w.heap.size, 2, none⟩) hlt).trans x2; clear hb HB hlt x0 x1 x2; rename Hid (Below w.heap.size w wd) => HB; rename w.heap.size < wd.heap.size => hlt; rename wd.cell? ⟨w.heap.size, 0, none⟩ = some (.string key) => x0; rename wd.cell? ⟨w.heap.size, 1, none⟩ = some (.string op) => x1; rename wd.cell? ⟨w.heap.size, 2, none⟩ = some (.slice A n c) => x2))
      all_goals
        go_wp2_with fail
        go_ret
        exact ⟨rfl, HB.out⟩

end Go.Proofs.YtefnfcpekiaenaaDoor
