/- The reference: whether two rows of pairs are the same, the last value of a key, texts in order, texts each once, pairs each key once. Condition: rows of at most 2^32 items. -/
import Derived.Test.YtefnfcpekiaenaaMap
import Derived.Deep.Draws
import Derived.Deep.DeepCutAuto
import Derived.Deep.RegionHeld3
import Derived.Sort.Walk0
import Derived.BigQuiet
namespace Go.Proofs.Ytefnfcpekiaenaa
open Go.RowKit Go.Proofs Go.Maps Go.Sort

/-- A slice of texts: its cells read as they are listed. -/
def StrRow (w : World) (A : Option Addr) (l : List (List UInt8)) : Prop :=
  ∀ k (h : k < l.length), ∃ b o, A = some ⟨b, o, none⟩ ∧ b < w.heap.size ∧ w.cell? ⟨b, o + k, none⟩ = some (encStr l[k])
theorem StrRow.keep {w w' : World} {A : Option Addr} {l : List (List UInt8)} (h : StrRow w A l) (hb : ∀ k, k < w.heap.size → w'.heap[k]? = w.heap[k]?) (hs : w.heap.size ≤ w'.heap.size) : StrRow w' A l := fun k hk => by
  obtain ⟨b, o, rfl, hlt, hc⟩ := h k hk
  exact ⟨b, o, rfl, Nat.lt_of_lt_of_le hlt hs, by rw [World.cell?_of_block (a := ⟨b, o + k, none⟩) (hb b hlt)]; exact hc⟩
theorem StrRow.below {w w' : World} {A : Option Addr} {l : List (List UInt8)} (h : StrRow w A l) (hb : Below w.heap.size w w') : StrRow w' A l := h.keep hb.block hb.size

theorem owns_strRow {w : World} {base : Nat} {v : Value} {L : List (List UInt8)} (h : w.ownsRow base 9 1 v L.length (L.map encStr)) : ∃ A c, v = .slice A L.length c ∧ StrRow w A L := by
  rcases owns_form h with ⟨rfl, h0⟩ | ⟨g, cap, rfl, _, hg⟩
  · exact ⟨none, 0, by rw [h0], fun k hk => by omega⟩
  · exact ⟨_, cap, rfl, fun k hk => ⟨g, 0, rfl, hg, by rw [Nat.zero_add, h.cellAt k (by omega)]; simp [hk]⟩⟩
theorem owns_pairRow {w : World} {base : Nat} {v : Value} {L : List (List UInt8 × List UInt8)} (h : w.ownsRow base 30 2 v L.length (flat L)) : ∃ A c, v = .slice A L.length c ∧ PairRow w A L := by
  rcases owns_form h with ⟨rfl, h0⟩ | ⟨g, cap, rfl, _, hg⟩
  · exact ⟨none, 0, by rw [h0], fun k hk => by omega⟩
  · exact ⟨_, cap, rfl, fun k hk => ⟨g, 0, rfl, hg, by rw [Nat.zero_add, h.cellAt (k * 2) (by omega)]; exact (flat_get L k hk).1, by rw [Nat.zero_add, h.cellAt (k * 2 + 1) (by omega)]; exact (flat_get L k hk).2⟩⟩

/-- It returns this value; nothing that lay has turned. -/
def Gives (v : Value) (w : World) (e : Ending) (w' : World) : Prop := e = .returned v ∧ Below w.heap.size w w'

set_option maxRecDepth 100000 in
theorem among_any (A : Option Addr) (n c : Nat) (l : List (List UInt8)) (x : List UInt8) (w : World) (hl : l.length = n) (hn : n ≤ 4294967296) (hr : StrRow w A l) :
    Calls Try.prog 27 #[.slice A n c, encStr x] w (Gives (.bool (decide (x ∈ l))) w) := by
  have HR := Lib.hid hr
  have HL := Lib.hid hl
  clear hr hl
  go_enter Try.func27, Try.ntmps27
  go_wp2_with fail
  go_loop [5] (fun i => ∃ k : Nat, k ≤ n ∧ i = .int .i64 k ∧ x ∉ l.take k) (fun i => n - (intOf i).toNat)
  case atStart => exact ⟨0, Nat.zero_le _, rfl, by simp⟩
  case round =>
    obtain ⟨k, hk, rfl, hx⟩ := hrel
    have HNX := Lib.hid hx
    clear hx
    by_cases hlt : k < n
    · have hlt' : k < l.length := by rw [HL.out]; exact hlt
      obtain ⟨b, o, rfl, _, hc⟩ := HR.out k hlt'
      cases hq : (l[k] == x)
      · have HQ := Lib.hid hq
        go_wp2_with fail
        go_round
        case rel =>
          refine ⟨k + 1, by omega, by go_num, ?_⟩
          rw [List.take_succ_eq_append_getElem hlt']
          have h2 : x ≠ l[k] := fun e => by have := HQ.out; simp [e] at this
          intro hm
          rcases List.mem_append.1 hm with hm | hm
          · exact HNX.out hm
          · exact h2 (by simpa using hm)
        case measure => simp [intOf]; omega
      · have hm : x ∈ l := by
          have := eq_of_beq hq
          exact this ▸ List.getElem_mem hlt'
        have HM := Lib.hid hm
        clear hm
        go_wp2_with fail
        go_ret
        exact ⟨by simp [HM.out], b0_refl _⟩
    · go_wp2_with fail
      go_ret
      have h : x ∉ l := by
        have := HNX.out
        rwa [List.take_of_length_le (by rw [HL.out]; omega)] at this
      refine ⟨by simp [h], b0_refl _⟩

set_option maxRecDepth 100000 in
theorem same_any (A B : Option Addr) (n c d : Nat) (l : List (List UInt8 × List UInt8)) (w : World) (hl : l.length = n) (hn : n ≤ 4294967296) (hr : PairRow w A l) (hr2 : PairRow w B l) :
    Calls Try.prog 8 #[.slice A n c, .slice B n d] w (Gives (.bool true) w) := by
  have HR := Lib.hid hr
  have HR2 := Lib.hid hr2
  have HL := Lib.hid hl
  clear hr hl hr2
  go_enter Try.func8, Try.ntmps8
  go_wp2_with fail
  go_loopw [5] (fun i wr => ∃ k : Nat, k ≤ n ∧ i = .int .i64 k ∧ Below w.heap.size w wr) (fun i _ => n - (intOf i).toNat)
  case atStart => exact ⟨0, Nat.zero_le _, rfl, b0_refl w⟩
  case round =>
    obtain ⟨k, hk, rfl, hb⟩ := hrel
    have HB := Lib.hid hb
    clear hb
    by_cases hlt : k < n
    · have hlt' : k < l.length := by rw [HL.out]; exact hlt
      obtain ⟨b, o, rfl, _, hc, hc'⟩ := HR.out.below HB.out k hlt'
      obtain ⟨b2, o2, rfl, _, hd, hd'⟩ := HR2.out.below HB.out k hlt'
      go_wp2_with fail
      go_region_held3 (fun w1 => w1.cell? ⟨b, o + k * 2, none⟩ = some (encStr l[k].1) ∧ w1.cell? ⟨b, o + k * 2 + 1, none⟩ = some (encStr l[k].2) ∧ w1.cell? ⟨b2, o2 + k * 2, none⟩ = some (encStr l[k].1) ∧ w1.cell? ⟨b2, o2 + k * 2 + 1, none⟩ = some (encStr l[k].2)) (go_keep) (first | fail)
      all_goals
        go_wp2_with fail
        go_roundw
        case rel => exact ⟨k + 1, by omega, by go_num, b0_drew HB.out⟩
        case measure => simp [intOf]; omega
    · go_wp2_with fail
      go_ret
      exact ⟨rfl, HB.out⟩

/-- The value of a key's last pair, or what was there. -/
def findFrom (a : List UInt8) (l : List (List UInt8 × List UInt8)) (x : List UInt8) : List UInt8 := l.foldl (fun a p => if p.1 == x then p.2 else a) a
theorem findFrom_none (x : List UInt8) : ∀ (l : List (List UInt8 × List UInt8)) (a : List UInt8), (∀ p ∈ l, (p.1 == x) = false) → findFrom a l x = a
  | [], a, _ => rfl
  | p :: r, a, h => by
    unfold findFrom
    rw [List.foldl_cons, h p (by simp)]
    exact findFrom_none x r a fun q hq => h q (by simp [hq])
theorem findFrom_at {l : List (List UInt8 × List UInt8)} {x : List UInt8} {k : Nat} (hk : k < l.length) (hq : (l[k].1 == x) = true) (hn : ∀ p ∈ l.drop (k + 1), (p.1 == x) = false) : findFrom [] l x = l[k].2 := by
  have e : l = l.take k ++ l[k] :: l.drop (k + 1) := by rw [List.getElem_cons_drop, List.take_append_drop]
  have h : findFrom [] l x = findFrom (findFrom [] (l.take k) x) (l[k] :: l.drop (k + 1)) x := by
    conv => lhs; rw [e]
    unfold findFrom
    rw [List.foldl_append]
  rw [h]
  unfold findFrom
  rw [List.foldl_cons, hq]
  exact findFrom_none x _ _ hn

/-- It returns a text and whether. -/
def Found (v : List UInt8) (w : World) (e : Ending) (w' : World) : Prop := ∃ b, e = .returned (.tuple #[encStr v, .bool b]) ∧ Below w.heap.size w w'

set_option maxRecDepth 100000 in
theorem find_any (A : Option Addr) (n c : Nat) (l : List (List UInt8 × List UInt8)) (x : List UInt8) (w : World) (hl : l.length = n) (hn : n ≤ 4294967296) (hr : PairRow w A l) :
    Calls Try.prog 21 #[.slice A n c, encStr x] w (Found (findFrom [] l x) w) := by
  have HR := Lib.hid hr
  have HL := Lib.hid hl
  clear hr hl
  go_enter Try.func21, Try.ntmps21
  go_wp2_with fail
  go_loop [6] (fun i => ∃ k : Nat, k ≤ n ∧ i = .int .i64 ((k : Int) - 1) ∧ ∀ p ∈ l.drop k, (p.1 == x) = false) (fun i => (intOf i + 1).toNat)
  case atStart => exact ⟨n, Nat.le_refl _, by go_num, by rw [List.drop_of_length_le (by rw [HL.out]; exact Nat.le_refl _)]; simp⟩
  case round =>
    obtain ⟨k, hk, rfl, hx⟩ := hrel
    have HNX := Lib.hid hx
    clear hx
    cases k with
    | zero =>
      have e : findFrom [] l x = [] := findFrom_none x l [] (by simpa using HNX.out)
      have HE := Lib.hid e
      clear e
      simp only [show ((0 : Nat) : Int) - 1 = -1 from rfl]
      go_wp2_with fail
      (try simp only [Exit.inBlock, Exit.then]); refine bodyPost_ret (results_tmp2 rfl _ _ _) rfl ?_
      exact ⟨false, by rw [HE.out]; simp [encStr], b0_refl _⟩
    | succ k =>
      have e : (((k + 1 : Nat) : Int) - 1) = (k : Int) := by omega
      rw [e]
      have hlt' : k < l.length := by rw [HL.out]; exact hk
      obtain ⟨b, o, rfl, _, hc, hc'⟩ := HR.out k hlt'
      cases hq : (l[k].1 == x)
      · have HQ := Lib.hid hq
        go_wp2_with fail
        go_round
        case rel =>
          refine ⟨k, by omega, by go_num, ?_⟩
          intro p hp
          rw [← List.getElem_cons_drop hlt'] at hp
          rcases List.mem_cons.1 hp with rfl | hp
          · exact HQ.out
          · exact HNX.out p hp
        case measure => simp [intOf]
      · have HQ := Lib.hid (findFrom_at hlt' hq HNX.out)
        go_wp2_with fail
        (try simp only [Exit.inBlock, Exit.then]); refine bodyPost_ret (results_tmp2 rfl _ _ _) rfl ?_
        exact ⟨true, by rw [HQ.out]; simp [encStr], b0_refl _⟩

theorem leB_trans (a b c : List UInt8) (h1 : leB a b = true) (h2 : leB b c = true) : leB a c = true := by simp only [leB, decide_eq_true_eq] at *; exact List.le_trans h1 h2
theorem leB_total (a b : List UInt8) : (leB a b || leB b a) = true := by simp only [leB, Bool.or_eq_true, decide_eq_true_eq]; exact List.le_total a b
theorem leB_antisymm {a b : List UInt8} (h1 : leB a b = true) (h2 : leB b a = true) : a = b := by simp only [leB, decide_eq_true_eq] at *; exact List.le_antisymm h1 h2
/-- A row that rises, and has just these texts, is the row sorted. -/
theorem sorted_is {out l : List (List UInt8)} (hp : out.Perm l) (hs : out.Pairwise (fun a b => leB a b = true)) : out = l.mergeSort leB :=
  List.Perm.eq_of_pairwise (le := fun a b => leB a b = true) (fun _ _ _ _ h1 h2 => leB_antisymm h1 h2) hs (List.pairwise_mergeSort leB_trans leB_total l) (hp.trans (List.mergeSort_perm l leB).symm)

/-- A text set in at its place. -/
theorem insert_sorted {out : List (List UInt8)} {x : List UInt8} {k : Nat} (hs : out.Pairwise (fun a b => leB a b = true)) (hlo : ∀ y ∈ out.take k, leB y x = true) (hhi : ∀ h : k < out.length, leB out[k] x = false) :
    (out.take k ++ [x] ++ out.drop k).Pairwise (fun a b => leB a b = true) := by
  have hs' := hs
  rw [← List.take_append_drop k out] at hs'
  obtain ⟨h1, h2, h3⟩ := List.pairwise_append.1 hs'
  have hx : ∀ y ∈ out.drop k, leB x y = true := by
    intro y hy
    by_cases hk : k < out.length
    · have h0 : leB x out[k] = true := by
        have := leB_total x out[k]
        rw [hhi hk] at this
        simpa using this
      rw [← List.getElem_cons_drop hk] at hy h2
      rcases List.mem_cons.1 hy with rfl | hy
      · exact h0
      · exact leB_trans _ _ _ h0 ((List.pairwise_cons.1 h2).1 y hy)
    · rw [List.drop_of_length_le (by omega)] at hy
      cases hy
  rw [List.append_assoc]
  refine List.pairwise_append.2 ⟨h1, ?_, ?_⟩
  · rw [List.singleton_append]
    exact List.pairwise_cons.2 ⟨hx, h2⟩
  · intro a ha b hb
    rw [List.singleton_append] at hb
    rcases List.mem_cons.1 hb with rfl | hb
    · exact hlo a ha
    · exact h3 a ha b hb
theorem insert_perm (out : List (List UInt8)) (x : List UInt8) (k : Nat) : (out.take k ++ [x] ++ out.drop k).Perm (out ++ [x]) := by
  have h1 : (out.take k ++ [x] ++ out.drop k).Perm (out.take k ++ out.drop k ++ [x]) := by
    rw [List.append_assoc, List.append_assoc]
    exact List.Perm.append_left _ List.perm_append_comm
  rwa [List.take_append_drop] at h1
theorem own_empty9 (w : World) : (w.alloc (.cells #[] 9)).ownsRow w.heap.size 9 1 (.slice (some ⟨w.heap.size, 0, none⟩) 0 0) 0 [] :=
  ⟨rfl, .inr ⟨w.heap.size, 0, #[], rfl, Nat.le_refl _, heap_alloc_new w _, Nat.le_refl _, Nat.zero_le _, rfl, rfl⟩⟩

theorem owns_pos {w : World} {base : Nat} {e : TypeId} {size : Nat} {v : Value} {n : Nat} {xs : List Value} (h : w.ownsRow base e size v n xs) (hn : 0 < n) :
    ∃ g cap, v = .slice (some ⟨g, 0, none⟩) n cap ∧ n ≤ cap ∧ cap ≤ 9223372036854775807 ∧ base ≤ g ∧ g < w.heap.size := by
  rcases h.2 with ⟨_, h0⟩ | ⟨g, cap, cur, rfl, hb, hg, h1, h2, _⟩
  · omega
  · exact ⟨g, cap, rfl, h1, by unfold maxLen at h2; omega, hb, (Array.getElem?_eq_some_iff.1 hg).1⟩
theorem own_cells_at {w w' : World} {base : Nat} {g cap k : Nat} {out : List (List UInt8)} (h : w.ownsRow base 9 1 (.slice (some ⟨g, 0, none⟩) k cap) k (out.map encStr)) (s t : Nat) (hb : w'.heap[g]? = w.heap[g]?) :
    ∀ j u, (((out.drop s).take t).map encStr)[j]? = some u → w'.cell? ((⟨g, s, none⟩ : Addr).add j) = some u := by
  intro j u hj
  have hlen : out.length = k := by have := h.1; simpa using this
  have e : ((⟨g, s, none⟩ : Addr).add j) = ⟨g, s + j, none⟩ := by
    unfold Addr.add
    split
    · rename_i h0; subst h0; rfl
    · rfl
  rw [e, World.cell?_of_block (a := ⟨g, s + j, none⟩) hb]
  have hj2 : j < ((out.drop s).take t).length := by
    have := (List.getElem?_eq_some_iff.1 hj).1
    simpa using this
  rw [List.length_take, List.length_drop] at hj2
  rw [h.cellAt (s + j) (by omega)]
  simp only [List.getElem?_map] at hj ⊢
  rw [List.getElem?_take_of_lt (by omega), List.getElem?_drop] at hj
  exact hj
theorem one_cells (l : List (List UInt8)) : ∀ u ∈ l.map encStr, u.oneCell' = true := by
  intro u hu
  obtain ⟨x, _, rfl⟩ := List.mem_map.1 hu
  simp [Value.oneCell']
theorem none_cells {w : World} {g m : Nat} (l : List Value) (hl : l.length = m * 1) (hm : m = 0) : ∀ j u, l[j]? = some u → w.cell? ((⟨g, 0, none⟩ : Addr).add j) = some u := by
  intro j u hj
  have := (List.getElem?_eq_some_iff.1 hj).1
  omega
theorem inserted {w : World} {base k t : Nat} {v : Value} {out : List (List UInt8)} {x : List UInt8} (h : w.ownsRow base 9 1 v (0 + t + 1 + (k - t)) ([] ++ (out.take t).map encStr ++ [encStr x] ++ ((out.drop t).take (k - t)).map encStr)) (ht : t ≤ k) (hl : out.length = k) :
    w.ownsRow base 9 1 v (k + 1) ((out.take t ++ [x] ++ out.drop t).map encStr) := by
  rw [show 0 + t + 1 + (k - t) = k + 1 by omega, List.take_of_length_le (l := out.drop t) (by rw [List.length_drop]; omega)] at h
  simpa using h
theorem owns_two {w : World} {base : Nat} {e : TypeId} {size : Nat} {v : Value} {n : Nat} {xs : List Value} (h : w.ownsRow base e size v n xs) :
    (v = .slice none 0 0 ∧ n = 0) ∨ ∃ g cap, v = .slice (some ⟨g, 0, none⟩) n cap ∧ n ≤ cap ∧ cap ≤ 9223372036854775807 ∧ base ≤ g ∧ g < w.heap.size := by
  rcases h.2 with h0 | ⟨g, cap, cur, rfl, hb, hg, h1, h2, _⟩
  · exact .inl h0
  · exact .inr ⟨g, cap, rfl, h1, by unfold maxLen at h2; omega, hb, (Array.getElem?_eq_some_iff.1 hg).1⟩
theorem le_of_less {a b : List UInt8} (h : Op.bytesLess a b = true ∨ (a == b) = true) : leB a b = true := by
  rcases h with h | h
  · rw [bytesLess_eq] at h
    have := of_decide_eq_true h
    simp only [leB, decide_eq_true_eq]
    exact List.le_of_lt this
  · have := eq_of_beq h
    subst this
    simp only [leB, decide_eq_true_eq]
    exact List.le_refl _
theorem not_le_of {a b : List UInt8} (h1 : Op.bytesLess a b = false) (h2 : (a == b) = false) : leB a b = false := by
  rw [bytesLess_eq] at h1
  have h1 := of_decide_eq_false h1
  simp only [leB, decide_eq_false_iff_not]
  intro h
  rcases List.le_iff_lt_or_eq.1 h with h | h
  · exact h1 h
  · rw [h] at h2; simp at h2
theorem cell_old {w : World} {o : Obj} {p : Addr} {v : Value} (h : w.cell? p = some v) : (w.alloc o).cell? p = some v := by
  rw [World.cell?_alloc_lt _ _ _ (World.block_lt_of_cell? w _ h)]
  exact h
theorem cell_one_at (w : World) (x : Value) (t : TypeId) {g : Nat} (hg : w.heap.size = g) : ∀ j u, [x][j]? = some u → (w.alloc (.cells #[x] t)).cell? ((⟨g, 0, none⟩ : Addr).add j) = some u := hg ▸ cell_one_new w x t

set_option maxRecDepth 100000 in
set_option maxHeartbeats 1000000 in
theorem inOrder_any (A : Option Addr) (n c : Nat) (l : List (List UInt8)) (w : World) (hl : l.length = n) (hn : n ≤ 4294967296) (hr : StrRow w A l) :
    Calls Try.prog 28 #[.slice A n c] w (Texts (l.mergeSort leB) w) := by
  obtain ⟨i0, hi, hz0, hz1, hz2⟩ := info_parts Try.info9
  have HR := Lib.hid hr
  have HL := Lib.hid hl
  clear hr hl
  go_enter Try.func28, Try.ntmps28
  go_wp2_with fail
  go_loopw [3, 4] (fun v i wr => ∃ (k : Nat) (out : List (List UInt8)), k ≤ n ∧ i = .int .i64 k ∧ wr.ownsRow w.heap.size 9 1 v k (out.map encStr) ∧ out.length = k ∧ (k = 0 → v = .slice none 0 0) ∧ out.Perm (l.take k) ∧ out.Pairwise (fun a b => leB a b = true) ∧ Below w.heap.size w wr) (fun _ i _ => n - (intOf i).toNat)
  case atStart => exact ⟨0, [], Nat.zero_le _, rfl, World.ownsRow_nil _ _ _ _, rfl, fun _ => rfl, by simp, List.Pairwise.nil, b0_refl w⟩
  case round =>
    obtain ⟨k, out, hk, rfl, hrow, hlen, hz, hp, hs, hb⟩ := hrel
    have HZ := Lib.hid hz
    clear hz
    have HP := Lib.hid hp
    have HB := Lib.hid hb
    have HRow := Lib.hid hrow
    have HLen := Lib.hid hlen
    have HSo := Lib.hid hs
    clear hb hp hrow hlen hs
    by_cases hlt : k < n
    · have hlt' : k < l.length := by rw [HL.out]; exact hlt
      obtain ⟨b, o, rfl, hbl, hc⟩ := HR.out.below HB.out k hlt'
      rcases owns_two HRow.out with ⟨rfl, h0⟩ | ⟨g, cap, rfl, hkc, hcm, hgb, hgl⟩
      · have ho : out = [] := List.length_eq_zero_iff.1 (HLen.out.trans h0)
        subst ho
        have HK0 := Lib.hid h0
        clear h0
        go_wp2_with fail
        refine wp_loop_rounds 1 ?_
        rw [rounds_succ]
        go_wp2_with fail
        go_quiet (fail)
        have hc2 : ∀ ob : Obj, ((wr.drewN nq).alloc ob).cell? ⟨b, o + k, none⟩ = some (encStr l[k]) := fun ob => cell_old hc
        have HOE := Lib.hid (own_empty9 (wr.drewN nq))
        have HBE := Lib.hid (b0_alloc (b0_drewN HB.out nq) (.cells #[] 9))
        go_wp2_with (first
          | (at_builtin; refine wpList_append_own _ rfl _ _ 44 rfl wr.heap.size 9 i0 (.string ⟨#[]⟩) 1 16 Try.underlying44 hi hz0 hz1 hz2 rfl (by decide) _ _ _ rfl (HOE.out.alloc _) ⟨wr.heap.size + 1, 0, none⟩ 1 1 [encStr l[k]] rfl (by simp) (cell_one_at _ _ _ (by simp)) (by simp [Value.oneCell', encStr]) (by unfold maxLen; omega) (by omega) (by simp; omega) ?_; intro v' w3 hown' hg3 hnil3; clear hnil3; obtain ⟨g1, cap1, rfl, hcp, hcm, hgb1, hgl1⟩ := owns_pos hown' (by omega); have HO3 := Lib.hid hown'; have HG3 := Lib.hid hg3; clear hown' hg3 hgb1 hgl1; go_frame)
          | fail)
        go_roundw
        case rel =>
          have hk0 : k = 0 := HK0.out
          refine ⟨k + 1, [l[k]], by omega, by go_num, ?_, by simp; omega, fun h => by omega, ?_, by simp, ?_⟩
          · have h := HO3.out.mono HB.out.size
            simpa [hk0] using h
          · have e : l.take (k + 1) = [l[k]] := by
              rw [List.take_succ_eq_append_getElem hlt', List.take_eq_nil_iff.2 (.inl hk0)]
              rfl
            rw [e]
          · exact (b0_alloc HBE.out _).grown HG3.out (b0_alloc HBE.out _).size (fun j hj => by cases hj; exact HB.out.size)
        case measure => simp [intOf]; omega
      · have hk1 : 0 < k := Nat.pos_of_ne_zero fun h => by have := HZ.out h; simp at this
        have hc0 : ¬ cap = 0 := by omega
        clear HZ
        obtain ⟨w0, hw0⟩ : ∃ w0, w0 = wr := ⟨_, rfl⟩
        subst hw0
        go_wp2_with fail
        go_loopw [5] (fun i wr => ∃ t : Nat, t ≤ k ∧ i = .int .i64 t ∧ (∀ y ∈ out.take t, leB y l[k] = true) ∧ Below w0.heap.size w0 wr) (fun i _ => k - (intOf i).toNat)
        case atStart => exact ⟨0, Nat.zero_le _, rfl, by simp, b0_refl _⟩
        case round =>
          obtain ⟨t, ht, rfl, hlo, hb⟩ := hrel
          have HLo := Lib.hid hlo
          have HB2 := Lib.hid hb
          clear hlo hb
          have hcq : wr.cell? ⟨b, o + k, none⟩ = some (encStr l[k]) := by rw [World.cell?_of_block (a := ⟨b, o + k, none⟩) (HB2.out.block b hbl)]; exact hc
          have htc : t ≤ cap := by omega
          by_cases hgo : ∃ h : t < out.length, Op.bytesLess out[t] l[k] = true ∨ (out[t] == l[k]) = true
          · obtain ⟨hto, hle⟩ := hgo
            have htk : t < k := by have := HLen.out; omega
            have hcg : wr.cell? ⟨g, t, none⟩ = some (encStr out[t]) := by
              rw [World.cell?_of_block (a := ⟨g, t, none⟩) (HB2.out.block g hgl), HRow.out.cellAt t (by omega)]
              simp [hto]
            have HLE := Lib.hid (le_of_less hle)
            rcases hle with hq | hq
            all_goals
              go_wp2_with fail
              go_quiet (fail)
              go_wp2_with fail
              go_roundw
              case rel =>
                refine ⟨t + 1, by omega, by go_num, ?_, b0_drewN HB2.out nq⟩
                rw [List.take_succ_eq_append_getElem hto]
                intro y hy
                rcases List.mem_append.1 hy with hy | hy
                · exact HLo.out y hy
                · rw [List.mem_singleton.1 hy]
                  exact HLE.out
              case measure => simp [intOf]; omega
          · have HStop := Lib.hid (show ∀ h : t < out.length, Op.bytesLess out[t] l[k] = false ∧ (out[t] == l[k]) = false from fun h => by
              refine ⟨Bool.eq_false_iff.2 fun e => hgo ⟨h, .inl e⟩, Bool.eq_false_iff.2 fun e => hgo ⟨h, .inr e⟩⟩)
            clear hgo
            rcases Classical.em (t < k) with htk | htk
            case' inl =>
              have hct : ¬ cap = t := by omega
              have hto : t < out.length := by rw [HLen.out]; exact htk
              have hcg : wr.cell? ⟨g, t, none⟩ = some (encStr out[t]) := by
                rw [World.cell?_of_block (a := ⟨g, t, none⟩) (HB2.out.block g hgl), HRow.out.cellAt t (by omega)]
                simp [hto]
              obtain ⟨hq1, hq2⟩ := HStop.out hto
              go_wp2_with fail
              go_quiet (fail)
              clear hcg hq1 hq2
            case' inr =>
              rcases Classical.em (cap = t) with hct | hct
              all_goals
                go_wp2_with fail
                go_quiet (fail)
            all_goals
              have HOE := Lib.hid (own_empty9 (wr.drewN nq))
              have HBE := Lib.hid (b0_alloc (b0_drewN HB2.out nq) (.cells #[] 9))
              have HN1 := Lib.hid (own_cells_at HRow.out 0 t ((HBE.out.block g hgl)))
              rw [List.drop_zero] at HN1
              have HL1 := Lib.hid (show ((out.take t).map encStr).length = t * 1 by have := HLen.out; rw [List.length_map, List.length_take]; omega)
              have HL3 := Lib.hid (show (((out.drop t).take (k - t)).map encStr).length = (k - t) * 1 by have := HLen.out; rw [List.length_map, List.length_take, List.length_drop]; omega)
              have HS1 := Lib.hid (b0_alloc (b0_drewN (b0_refl wr) nq) (.cells #[] 9)).size
              clear hcq
              go_wp2_with (first
                | (at_builtin; refine wpList_append_own _ rfl _ _ 44 rfl wr.heap.size 9 i0 (.string ⟨#[]⟩) 1 16 Try.underlying44 hi hz0 hz1 hz2 rfl (by decide) _ _ _ rfl HOE.out ⟨g, 0, none⟩ t _ ((out.take t).map encStr) rfl HL1.out HN1.out (one_cells _) (by unfold maxLen; omega) (by omega) HS1.out ?_; intro v1 w3 hown' hg3 hnil3; clear hnil3; have HO3 := Lib.hid hown'; have HG3 := Lib.hid hg3; have HB3 := Lib.hid (HBE.out.grown hg3 HBE.out.size (fun j hj => by cases hj; exact HB2.out.size)); clear hown' hg3; have hc3 : w3.cell? ⟨b, o + k, none⟩ = some (encStr l[k]) := (HB3.out.cell (p := ⟨b, o + k, none⟩) hbl).trans hc; have HS3 := Lib.hid (Nat.le_trans HS1.out HG3.out.size); go_frame)
                | (at_builtin; refine wpList_append_own _ rfl _ _ 44 rfl wr.heap.size 9 i0 (.string ⟨#[]⟩) 1 16 Try.underlying44 hi hz0 hz1 hz2 rfl (by decide) _ _ _ rfl (HO3.out.alloc _) ⟨w3.heap.size, 0, none⟩ 1 1 [encStr l[k]] rfl rfl (cell_one_new _ _ _) (one_cells [l[k]]) (by unfold maxLen; omega) (by omega) (Nat.le_trans HS3.out (by simp)) ?_; intro v2 w4 hown' hg4 hnil4; clear hnil4; have HO4 := Lib.hid hown'; have HG4 := Lib.hid hg4; have HB4 := Lib.hid ((b0_alloc HB3.out _).grown hg4 (b0_alloc HB3.out _).size (fun j hj => Nat.le_trans HB2.out.size (HO3.out.lt j hj).1)); have HS4 := Lib.hid (Nat.le_trans HS3.out (Nat.le_trans (by simp) HG4.out.size)); clear hown' hg4; have HN3 := Lib.hid (own_cells_at HRow.out t (k - t) (HB4.out.block g hgl)); go_frame)
                | (at_builtin; refine wpList_append_own _ rfl _ _ 44 rfl wr.heap.size 9 i0 (.string ⟨#[]⟩) 1 16 Try.underlying44 hi hz0 hz1 hz2 rfl (by decide) _ _ _ rfl HO4.out ⟨g, t, none⟩ (k - t) _ (((out.drop t).take (k - t)).map encStr) rfl HL3.out HN3.out (one_cells _) (by unfold maxLen; omega) (by omega) HS4.out ?_; intro v3 w5 hown' hg5 hnil5; clear hnil5; have HO5 := Lib.hid hown'; have HB5 := Lib.hid (HB4.out.grown hg5 HB4.out.size (fun j hj => Nat.le_trans HB2.out.size (HO4.out.lt j hj).1)); clear hown' hg5; go_frame)
                | (at_builtin; refine wpList_append_own _ rfl _ _ 44 rfl wr.heap.size 9 i0 (.string ⟨#[]⟩) 1 16 Try.underlying44 hi hz0 hz1 hz2 rfl (by decide) _ _ _ rfl HO4.out ⟨g, 0, none⟩ (k - t) _ (((out.drop t).take (k - t)).map encStr) rfl HL3.out (none_cells _ HL3.out (by omega)) (one_cells _) (by unfold maxLen; omega) (by omega) HS4.out ?_; intro v3 w5 hown' hg5 hnil5; clear hnil5; have HO5 := Lib.hid hown'; have HB5 := Lib.hid (HB4.out.grown hg5 HB4.out.size (fun j hj => Nat.le_trans HB2.out.size (HO4.out.lt j hj).1)); clear hown' hg5; go_frame)
                | fail)
              go_roundw
              case rel =>
                refine ⟨k + 1, out.take t ++ [l[k]] ++ out.drop t, by omega, by go_num, ?_, ?_, fun h => by omega, ?_, ?_, ?_⟩
                · exact (inserted HO5.out ht HLen.out).mono (Nat.le_trans HB.out.size HB2.out.size)
                · have := HLen.out
                  simp
                  omega
                · rw [List.take_succ_eq_append_getElem hlt']
                  exact (insert_perm out _ t).trans (HP.out.append_right _)
                · exact insert_sorted HSo.out HLo.out (fun h => not_le_of (HStop.out h).1 (HStop.out h).2)
                · exact b0_then HB.out HB5.out
              case measure => simp [intOf]; omega
    · go_wp2_with fail
      go_ret
      have e : l.take k = l := List.take_of_length_le (by rw [HL.out]; omega)
      have h1 := HP.out
      rw [e] at h1
      have h2 := sorted_is h1 HSo.out
      refine ⟨_, rfl, ?_, HB.out⟩
      rw [← h2, HLen.out]
      exact HRow.out

/-- Texts, each once. -/
def once (l : List (List UInt8)) : List (List UInt8) := l.foldl (fun o x => if x ∈ o then o else o ++ [x]) []
theorem once_snoc (l : List (List UInt8)) (x : List UInt8) : once (l ++ [x]) = if x ∈ once l then once l else once l ++ [x] := by
  unfold once
  rw [List.foldl_append, List.foldl_cons, List.foldl_nil]
theorem once_length : ∀ (l o : List (List UInt8)), (l.foldl (fun o x => if x ∈ o then o else o ++ [x]) o).length ≤ o.length + l.length
  | [], o => by simp
  | x :: r, o => by
    rw [List.foldl_cons]
    split
    · have := once_length r o; simp; omega
    · have := once_length r (o ++ [x]); simp at this ⊢; omega

theorem keep0 {w w' : World} {base : Nat} {e : TypeId} {size : Nat} {v : Value} {n : Nat} {xs : List Value} (h : w.ownsRow base e size v n xs) (hb : Below w.heap.size w w') : w'.ownsRow base e size v n xs := by
  refine ⟨h.1, ?_⟩
  rcases h.2 with h0 | ⟨g, cap, cur, e1, e2, e3, e4⟩
  · exact .inl h0
  · exact .inr ⟨g, cap, cur, e1, e2, (hb.block g (Array.getElem?_eq_some_iff.1 e3).1).trans e3, e4⟩

set_option maxRecDepth 100000 in
set_option maxHeartbeats 1000000 in
theorem rising_any (A : Option Addr) (n c : Nat) (l : List (List UInt8)) (w : World) (hl : l.length = n) (hn : n ≤ 4294967296) (hr : StrRow w A l) :
    Calls Try.prog 20 #[.slice A n c] w (Texts ((once l).mergeSort leB) w) := by
  obtain ⟨i0, hi, hz0, hz1, hz2⟩ := info_parts Try.info9
  have HR := Lib.hid hr
  have HL := Lib.hid hl
  clear hr hl
  go_enter Try.func20, Try.ntmps20
  go_wp2_with fail
  go_loopw [3, 4] (fun v i wr => ∃ (k : Nat), k ≤ n ∧ i = .int .i64 k ∧ wr.ownsRow w.heap.size 9 1 v (once (l.take k)).length ((once (l.take k)).map encStr) ∧ Below w.heap.size w wr) (fun _ i _ => n - (intOf i).toNat)
  case atStart => exact ⟨0, Nat.zero_le _, rfl, World.ownsRow_nil _ _ _ _, b0_refl w⟩
  case round =>
    obtain ⟨k, hk, rfl, hrow, hb⟩ := hrel
    have hol : (once (l.take k)).length ≤ k := by have := once_length (l.take k) []; simp at this; unfold once; omega
    have HB := Lib.hid hb
    have HRow := Lib.hid hrow
    clear hb hrow
    obtain ⟨A2, c2, rfl, hsr⟩ := owns_strRow HRow.out
    have HSR := Lib.hid hsr
    clear hsr
    by_cases hlt : k < n
    · have hlt' : k < l.length := by rw [HL.out]; exact hlt
      have HT := Lib.hid (show once (l.take (k + 1)) = if l[k] ∈ once (l.take k) then once (l.take k) else once (l.take k) ++ [l[k]] by rw [List.take_succ_eq_append_getElem hlt', once_snoc])
      obtain ⟨b, o, rfl, hbl, hc⟩ := HR.out.below HB.out k hlt'
      generalize ho : once (l.take k) = ou at HT HRow HSR hol
      have HO := Lib.hid ho
      clear ho
      have hA := among_any A2 ou.length c2 ou l[k] wr rfl (by omega) HSR.out
      by_cases hm : l[k] ∈ ou
      · rw [decide_eq_true hm] at hA
        have HA := Lib.hid hA
        have HT2 := Lib.hid (show once (l.take (k + 1)) = ou by rw [HT.out, if_pos hm])
        clear hA hm HT
        go_wp2_with fail
        refine HA.out.mono ?_
        rintro e w1 ⟨rfl, hb⟩
        have HB1 := Lib.hid hb
        clear hb
        go_wp2_with fail
        go_roundw
        case rel =>
          refine ⟨k + 1, by omega, by go_num, ?_, b0_then HB.out HB1.out⟩
          rw [HT2.out]
          exact keep0 HRow.out HB1.out
        case measure => simp [intOf]; omega
      · rw [decide_eq_false hm] at hA
        have HA := Lib.hid hA
        have HT2 := Lib.hid (show once (l.take (k + 1)) = ou ++ [l[k]] by rw [HT.out, if_neg hm])
        clear hA hm HT
        go_wp2_with fail
        refine HA.out.mono ?_
        rintro e w1 ⟨rfl, hb⟩
        have HB1 := Lib.hid hb
        have hc1 : w1.cell? ⟨b, o + k, none⟩ = some (encStr l[k]) := (hb.cell (p := ⟨b, o + k, none⟩) hbl).trans hc
        have HRow1 := Lib.hid (keep0 HRow.out hb)
        clear hb
        have HBB := Lib.hid (b0_then HB.out HB1.out)
        go_wp2_with (first
          | (at_builtin; refine wpList_append_own _ rfl _ _ 44 rfl w.heap.size 9 i0 (.string ⟨#[]⟩) 1 16 Try.underlying44 hi hz0 hz1 hz2 rfl (by decide) _ _ _ rfl (HRow1.out.alloc _) ⟨w1.heap.size, 0, none⟩ 1 1 [encStr l[k]] rfl rfl (cell_one_new _ _ _) (one_cells [l[k]]) (by unfold maxLen; omega) (by omega) (by have := HBB.out.size; simp; omega) ?_; intro v2 w4 hown' hg4 hnil4; clear hnil4; have HO4 := Lib.hid hown'; have HB4 := Lib.hid ((b0_alloc HBB.out _).grown hg4 (b0_alloc HBB.out _).size (fun j hj => (HRow1.out.lt j hj).1)); clear hown' hg4; go_frame)
          | fail)
        go_roundw
        case rel =>
          refine ⟨k + 1, by omega, by go_num, ?_, HB4.out⟩
          rw [HT2.out]
          simpa using HO4.out
        case measure => simp [intOf]; omega
    · have e : l.take k = l := List.take_of_length_le (by rw [HL.out]; omega)
      have HSR2 := Lib.hid (e ▸ HSR.out)
      rw [e]
      have hi2 := inOrder_any A2 (once l).length c2 (once l) wr rfl (by rw [e] at hol; omega) HSR2.out
      have HI := Lib.hid hi2
      clear hi2 e
      go_wp2_with fail
      refine HI.out.mono ?_
      rintro e w1 ⟨v, rfl, hr1, hb1⟩
      have HR1 := Lib.hid hr1
      have HB1 := Lib.hid hb1
      clear hr1 hb1
      go_wp2_with fail
      go_ret
      exact ⟨_, rfl, HR1.out.mono HB.out.size, b0_then HB.out HB1.out⟩

/-- The keys of pairs, each once, rising. -/
def risen (l : List (List UInt8 × List UInt8)) : List (List UInt8) := (once (l.map (·.1))).mergeSort leB
/-- A set of pairs, each key once, with its last value, rising by the keys. -/
def specPairs (l : List (List UInt8 × List UInt8)) : List (List UInt8 × List UInt8) := (risen l).map fun k => (k, findFrom [] l k)
theorem risen_length (l : List (List UInt8 × List UInt8)) : (risen l).length ≤ l.length := by
  have := once_length (l.map (·.1)) []
  simp at this
  simpa [risen, once] using this

set_option maxRecDepth 100000 in
set_option maxHeartbeats 1000000 in
theorem specPairs_any (A : Option Addr) (n c : Nat) (l : List (List UInt8 × List UInt8)) (w : World) (hl : l.length = n) (hn : n ≤ 4294967296) (hr : PairRow w A l) :
    Calls Try.prog 11 #[.slice A n c] w (PairsOwn (specPairs l) w) := by
  obtain ⟨i0, hi, hz0, hz1, hz2⟩ := info_parts Try.info9
  obtain ⟨j0, hj, hy0, hy1, hy2⟩ := info_parts Try.info30
  have HR := Lib.hid hr
  have HL := Lib.hid hl
  clear hr hl
  go_enter Try.func11, Try.ntmps11
  go_wp2_with fail
  go_loopw [3, 4] (fun v i wr => ∃ (k : Nat), k ≤ n ∧ i = .int .i64 k ∧ wr.ownsRow w.heap.size 9 1 v k (((l.take k).map (·.1)).map encStr) ∧ Below w.heap.size w wr) (fun _ i _ => n - (intOf i).toNat)
  case atStart => exact ⟨0, Nat.zero_le _, rfl, World.ownsRow_nil _ _ _ _, b0_refl w⟩
  case round =>
    obtain ⟨k, hk, rfl, hrow, hb⟩ := hrel
    have HB := Lib.hid hb
    have HRow := Lib.hid hrow
    clear hb hrow
    by_cases hlt : k < n
    · have hlt' : k < l.length := by rw [HL.out]; exact hlt
      obtain ⟨b, o, rfl, hbl, hc, hc'⟩ := HR.out.below HB.out k hlt'
      go_wp2_with (first
        | (at_builtin; refine wpList_append_own _ rfl _ _ 44 rfl w.heap.size 9 i0 (.string ⟨#[]⟩) 1 16 Try.underlying44 hi hz0 hz1 hz2 rfl (by decide) _ _ _ rfl (HRow.out.alloc _) ⟨wr.heap.size, 0, none⟩ 1 1 [encStr l[k].1] rfl rfl (cell_one_new _ _ _) (one_cells [l[k].1]) (by unfold maxLen; omega) (by omega) (by have := HB.out.size; simp; omega) ?_; intro v2 w4 hown' hg4 hnil4; clear hnil4; have HO4 := Lib.hid hown'; have HB4 := Lib.hid ((b0_alloc HB.out _).grown hg4 (b0_alloc HB.out _).size (fun j hj => (HRow.out.lt j hj).1)); clear hown' hg4; go_frame)
        | fail)
      go_roundw
      case rel =>
        refine ⟨k + 1, by omega, by go_num, ?_, HB4.out⟩
        rw [List.take_succ_eq_append_getElem hlt', List.map_append, List.map_append]
        exact HO4.out
      case measure => simp [intOf]; omega
    · have e : l.take k = l := List.take_of_length_le (by rw [HL.out]; omega)
      have hrow1 := HRow.out
      rw [e] at hrow1
      have hkl : k = (l.map (·.1)).length := by rw [List.length_map, HL.out]; omega
      rw [hkl] at hrow1
      obtain ⟨A2, c2, hv, hsr⟩ := owns_strRow hrow1
      rw [← hkl, show k = n by omega] at hv
      subst hv
      have hi2 : Calls Try.prog 20 #[.slice A2 n c2] wr (Texts (risen l) wr) := by
        unfold risen
        exact rising_any A2 n c2 (l.map (·.1)) wr (by rw [List.length_map, HL.out]) hn hsr
      have HI := Lib.hid hi2
      clear hi2 e hrow1 hsr hkl
      obtain ⟨w0, hw0⟩ : ∃ w0, w0 = wr := ⟨_, rfl⟩
      subst hw0
      go_wp2_with fail
      refine HI.out.mono ?_
      rintro e w1 ⟨v, rfl, hr1, hb1⟩
      have hkn : (risen l).length ≤ n := by have := risen_length l; rw [HL.out] at this; exact this
      obtain ⟨A3, c3, rfl, hs3⟩ := owns_strRow hr1
      have HR3 := Lib.hid hs3
      have HB1 := Lib.hid (b0_then HB.out hb1)
      clear hr1 hb1 hs3
      generalize hrs : risen l = rs at HR3 hkn
      have HRS := Lib.hid hrs
      clear hrs
      go_wp2_with fail
      go_loopw [5, 6] (fun v i wr => ∃ (k : Nat), k ≤ rs.length ∧ i = .int .i64 k ∧ wr.ownsRow w1.heap.size 30 2 v k (flat ((rs.take k).map fun x => (x, findFrom [] l x))) ∧ Below w1.heap.size w1 wr) (fun _ i _ => rs.length - (intOf i).toNat)
      case atStart => exact ⟨0, Nat.zero_le _, rfl, World.ownsRow_nil _ _ _ _, b0_refl w1⟩
      case round =>
        obtain ⟨k, hk, rfl, hrow, hb⟩ := hrel
        have HB2 := Lib.hid hb
        have HRow := Lib.hid hrow
        clear hb hrow
        by_cases hlt : k < rs.length
        · obtain ⟨b, o, rfl, hbl, hc⟩ := HR3.out.below HB2.out k hlt
          have HF := Lib.hid (find_any A n c l rs[k] wr HL.out hn ((HR.out.below HB1.out).below HB2.out))
          go_wp2_with fail
          refine HF.out.mono ?_
          rintro e w2 ⟨bb, rfl, hb2⟩
          have HB3 := Lib.hid (b0_then HB2.out hb2)
          have HRow2 := Lib.hid (keep0 HRow.out hb2)
          have hc2 : w2.cell? ⟨b, o + k, none⟩ = some (encStr rs[k]) := (hb2.cell (p := ⟨b, o + k, none⟩) hbl).trans hc
          clear hb2
          go_wp2_with (first
            | (at_builtin; refine wpList_append_own _ rfl _ _ 22 rfl w1.heap.size 30 j0 _ 2 32 Try.underlying22 hj hy0 hy1 hy2 rfl (by decide) _ _ _ rfl (HRow2.out.alloc _) ⟨w2.heap.size, 0, none⟩ 1 1 [encStr rs[k], encStr (findFrom [] l rs[k])] rfl rfl (cell_two_new _ _ _ _) (one_cells [rs[k], findFrom [] l rs[k]]) (by unfold maxLen; omega) (by omega) (by have := HB3.out.size; simp; omega) ?_; intro v4 w4 hown' hg4 hnil4; clear hnil4; have HO4 := Lib.hid hown'; have HG4 := Lib.hid hg4; clear hown' hg4; go_frame)
            | fail)
          go_roundw
          case rel =>
            refine ⟨k + 1, by omega, by go_num, ?_, ?_⟩
            · rw [List.take_succ_eq_append_getElem hlt, List.map_append, List.map_singleton, flat_snoc]
              exact HO4.out
            · exact (b0_alloc HB3.out _).grown HG4.out (b0_alloc HB3.out _).size (fun j hj => (HRow2.out.lt j hj).1)
          case measure => simp [intOf]; omega
        · have ek : k = rs.length := by omega
          have hrow1 := HRow.out
          rw [List.take_of_length_le (by omega), ek] at hrow1
          have HR1 := Lib.hid hrow1
          clear hrow1
          go_wp2_with fail
          go_ret
          refine ⟨_, rfl, ?_, b0_then HB1.out HB2.out⟩
          have e : specPairs l = rs.map fun x => (x, findFrom [] l x) := by unfold specPairs; rw [HRS.out]
          rw [e, List.length_map]
          exact HR1.out.mono HB1.out.size

end Go.Proofs.Ytefnfcpekiaenaa
