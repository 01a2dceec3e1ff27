/- Label sets: what fits; the map of pairs; a map's keys, rising; a map as pairs; a selector as data. Condition: the library's sort of texts, as it is called here, is a hypothesis of the walks (laid at this program by YtefnfcpekiaenaaShelf). -/
import Derived.Test.YtefnfcpekiaenaaProg
import Derived.WalkKit
import Derived.WalkSpells
import Derived.WalkLawsBesides
import Derived.BigCall
import Derived.Lib.Hide
import Derived.Laws.OwnMore
import Derived.Deep.AppendLies
import Derived.Laws.AppendOwn
import Derived.OwnWalk
import Derived.Sort.EncStr
import Derived.LoopTactic
import Derived.Lib.Strings
import Derived.Lib.Builder
import Derived.Maps.Ext
import Derived.Maps.RangeWalk
import Derived.Maps.OwnSet
import Derived.Maps.StringElems
import Derived.Sort.KeysCollected
import Derived.StringKeys
import Derived.Sort.OwnSorted
import Derived.Maps.AppendAt
import Derived.Deep.Onto
import Derived.Laws.Rows
namespace Go.Proofs.Ytefnfcpekiaenaa
open Go.RowKit Go.Proofs Go.Maps Go.Sort

theorem b0_refl (w : World) : Below w.heap.size w w := Below.refl _ w
theorem b0_alloc {w a : World} (h : Below w.heap.size w a) (o : Obj) : Below w.heap.size w (a.alloc o) := h.alloc h.size o
theorem b0_drew {w a : World} (h : Below w.heap.size w a) : Below w.heap.size w a.drew := h.drew
theorem b0_drewN {w a : World} (h : Below w.heap.size w a) (n : Nat) : Below w.heap.size w (a.drewN n) := h.trans ⟨rfl, rfl, rfl, Nat.le_refl _, fun _ _ => rfl⟩
theorem b0_then {w a b : World} (h : Below w.heap.size w a) (k : Below a.heap.size a b) : Below w.heap.size w b := h.trans (k.mono h.size)

theorem addBlock (ad : Addr) (k : Nat) : (ad.add k).block = ad.block := by unfold Addr.add; split <;> rfl
theorem addAdd (a : Addr) (i j : Nat) : (a.add i).add j = a.add (i + j) := by
  unfold Addr.add
  by_cases hi : i = 0 <;> by_cases hj : j = 0 <;> simp [hi, hj, Nat.add_assoc]

/-- A slice of pairs: its cells read as they are listed; the slice lies below what is new. -/
def PairRow (w : World) (A : Option Addr) (l : List (List UInt8 × List UInt8)) : Prop :=
  ∀ k (h : k < l.length), ∃ b o, A = some ⟨b, o, none⟩ ∧ b < w.heap.size ∧ w.cell? ⟨b, o + k * 2, none⟩ = some (encStr l[k].1) ∧ w.cell? ⟨b, o + k * 2 + 1, none⟩ = some (encStr l[k].2)
theorem PairRow.keep {w w' : World} {A : Option Addr} {l : List (List UInt8 × List UInt8)} (h : PairRow w A l) (hb : ∀ k, k < w.heap.size → w'.heap[k]? = w.heap[k]?) (hs : w.heap.size ≤ w'.heap.size) : PairRow w' A l := fun k hk => by
  obtain ⟨b, o, rfl, hlt, hc, hc'⟩ := h k hk
  exact ⟨b, o, rfl, Nat.lt_of_lt_of_le hlt hs, by rw [World.cell?_of_block (a := ⟨b, o + k * 2, none⟩) (hb b hlt)]; exact hc, by rw [World.cell?_of_block (a := ⟨b, o + k * 2 + 1, none⟩) (hb b hlt)]; exact hc'⟩
theorem PairRow.below {w w' : World} {A : Option Addr} {l : List (List UInt8 × List UInt8)} (h : PairRow w A l) (hb : Below w.heap.size w w') : PairRow w' A l := h.keep hb.block hb.size

/-- It returns a bool, true only where the list is short enough; nothing that lay has turned. -/
def Short (n : Nat) (w : World) (e : Ending) (w' : World) : Prop := ∃ b, e = .returned (.bool b) ∧ (b = true → n ≤ 2147483647) ∧ Below w.heap.size w w'
theorem Short.no {n : Nat} {w w' : World} (h : Below w.heap.size w w') : Short n w (.returned (.bool false)) w' := ⟨false, rfl, by simp, h⟩
theorem Short.yes {n : Nat} {w w' : World} (hn : n ≤ 2147483647) (h : Below w.heap.size w w') : Short n w (.returned (.bool true)) w' := ⟨true, rfl, fun _ => hn, h⟩
/-- It returns a bool; nothing that lay has turned. -/
def SomeBool (w : World) (e : Ending) (w' : World) : Prop := ∃ b, e = .returned (.bool b) ∧ Below w.heap.size w w'
theorem SomeBool.mk {b : Bool} {w w' : World} (h : Below w.heap.size w w') : SomeBool w (.returned (.bool b)) w' := ⟨b, rfl, h⟩

set_option maxRecDepth 100000 in
theorem fits5_any (k v : ByteArray) (w : World) : Calls Try.prog 16 #[.agg #[.string k, .string v]] w (SomeBool w) := by
  go_enter Try.func16, Try.ntmps16
  go_wp2
  all_goals go_ret
  all_goals exact .mk (b0_alloc (b0_refl w) _)

set_option maxRecDepth 100000 in
theorem fits4_any (A : Option Addr) (n c : Nat) (l : List (List UInt8 × List UInt8)) (w : World) (hl : l.length = n) (hr : PairRow w A l) :
    Calls Try.prog 9 #[.slice A n c] w (Short n w) := by
  have HR := Lib.hid hr
  have HL := Lib.hid hl
  clear hr hl
  by_cases hn : n ≤ 2147483647
  · go_enter Try.func9, Try.ntmps9
    go_wp2_with fail
    go_loopw [10] (fun i wr => (∃ k : Nat, k ≤ n ∧ i = .int .i64 k) ∧ Below w.heap.size w wr) (fun i _ => n - (intOf i).toNat)
    case atStart => exact ⟨⟨0, Nat.zero_le _, rfl⟩, b0_refl w⟩
    case round =>
      obtain ⟨⟨k, hk, rfl⟩, hb⟩ := hrel
      have HB := Lib.hid hb
      clear hb
      by_cases hlt : k < n
      · obtain ⟨b, o, rfl, _, hc, hc'⟩ := (HR.out.below HB.out) k (by rw [HL.out]; exact hlt)
        go_wp2_with fail
        refine (fits5_any _ _ _).mono ?_
        rintro e w1 ⟨r, rfl, hb⟩
        have HB2 := Lib.hid (b0_then (b0_alloc HB.out _) hb)
        clear hb
        cases r
        · go_wp2_with fail
          go_ret
          exact Short.no HB2.out
        · go_wp2_with fail
          go_roundw
          case rel => exact ⟨⟨k + 1, by omega, by go_num⟩, HB2.out⟩
          case measure => simp [intOf]; omega
      · go_wp2_with fail
        go_ret
        exact Short.yes hn HB.out
  · go_enter Try.func9, Try.ntmps9
    go_wp2_with fail
    go_ret
    exact Short.no (b0_refl w)

theorem law9 : Keyed Try.prog 9 := string_keyed Try.underlying9

/-- The map's datum that pairs make, from what was there. -/
def mapFrom (D : DataW Unit) (l : List (List UInt8 × List UInt8)) : DataW Unit := l.foldl (fun D p => D.put (.string p.1) (.lit (.string p.2))) D
theorem mapFrom_snoc (D : DataW Unit) (l : List (List UInt8 × List UInt8)) (p : List UInt8 × List UInt8) : mapFrom D (l ++ [p]) = (mapFrom D l).put (.string p.1) (.lit (.string p.2)) := by simp [mapFrom, List.foldl_append]
/-- Block b is a map of strings that reads as D. -/
def SMap (w : World) (b n : Nat) (D : DataW Unit) : Prop := w.ownsMap Try.prog 9 (plainElem Try.prog 9) b n D
theorem SMap.keep {w w' : World} {b n : Nat} {D : DataW Unit} (h : SMap w b n D) (hb : w'.heap[b]? = w.heap[b]?) : SMap w' b n D := by
  obtain ⟨es, clock, h1, h2⟩ := h
  exact ⟨es, clock, hb.trans h1, h2⟩
theorem SMap.lt {w : World} {b n : Nat} {D : DataW Unit} (h : SMap w b n D) : b < w.heap.size := World.ownsMap.lt h
theorem SMap.below {w w' : World} {b n m : Nat} {D : DataW Unit} (h : SMap w b n D) (hb : Below m w w') (hm : b < m) : SMap w' b n D := h.keep (hb.block b hm)

theorem keyStr {x : List UInt8} (h : x.length ≤ maxLen) : keyOf Try.prog 9 (encStr x) = some (.string x) := by
  simpa [encStr] using WideMaps.keyOf_string_mk (P := Try.prog) Try.underlying9 (s := ⟨x.toArray⟩) (by simpa [ByteArray.size] using h)
theorem elemStr {x : List UInt8} (h : x.length ≤ maxLen) : plainElem (H := Unit) Try.prog 9 (encStr x) = some (.lit (.string x), []) := by
  simpa [encStr] using plainElem_string (H := Unit) (P := Try.prog) Try.underlying9 (s := ⟨x.toArray⟩) (by simpa [ByteArray.size] using h)
def Lens (l : List (List UInt8 × List UInt8)) : Prop := ∀ p ∈ l, p.1.length ≤ maxLen ∧ p.2.length ≤ maxLen

set_option maxRecDepth 100000 in
theorem labelSet_any (A : Option Addr) (n c : Nat) (l : List (List UInt8 × List UInt8)) (w : World) (hl : l.length = n) (hn : n ≤ 2147483647) (hlen : Lens l) (hr : PairRow w A l) :
    Calls Try.prog 19 #[.slice A n c] w fun e w' => ∃ b, e = .returned (.map (some b)) ∧ w.heap.size ≤ b ∧ SMap w' b n (mapFrom (.map []) l) ∧ Below w.heap.size w w' := by
  have HR := Lib.hid hr
  have HL := Lib.hid hl
  have HN := Lib.hid hlen
  clear hr hl hlen
  have hmm := @run_makeMap Try.prog
  go_enter Try.func19, Try.ntmps19
  go_wp2_with fail
  go_loopw [9] (fun i wr => ∃ k : Nat, k ≤ n ∧ i = .int .i64 k ∧ SMap wr w.heap.size k (mapFrom (.map []) (l.take k)) ∧ Below w.heap.size w wr) (fun i _ => n - (intOf i).toNat)
  case atStart => exact ⟨0, Nat.zero_le _, rfl, World.ownsMap_made _ _ _ _, b0_alloc (b0_refl w) _⟩
  case round =>
    obtain ⟨k, hk, rfl, hm, hb⟩ := hrel
    have HB := Lib.hid hb
    have HM := Lib.hid hm
    clear hb hm
    by_cases hlt : k < n
    · have hlt' : k < l.length := by rw [HL.out]; exact hlt
      have hbl : w.heap.size < wr.heap.size := HM.out.lt
      obtain ⟨b, o, rfl, hblt, hc, hc'⟩ := (HR.out.below HB.out) k hlt'
      have hlen1 := (HN.out _ (List.getElem_mem hlt')).1
      have hlen2 := (HN.out _ (List.getElem_mem hlt')).2
      have HK := Lib.hid (keyStr hlen1)
      have HV := Lib.hid (elemStr hlen2)
      clear hlen1 hlen2
      go_wp2_with (first
        | (at_mapUpdate; refine wpList_mapUpdate_own _ rfl _ _ _ 50 rfl 9 9 law9 Try.underlying50 _ w.heap.size k _ rfl (World.ownsMap.alloc HM.out _) (by unfold maxLen; omega) _ _ _ rfl rfl HK.out _ [] HV.out ?_; intro w2 hout2 hg2; have HM2 := Lib.hid hout2; have HB2 := Lib.hid hg2; clear hout2 hg2)
        | fail)
      go_roundw
      case rel =>
        refine ⟨k + 1, by omega, by go_num, ?_, (b0_alloc HB.out _).grown HB2.out (b0_alloc HB.out _).size (fun j hj => by cases hj; exact Nat.le_refl _)⟩
        rw [List.take_succ_eq_append_getElem hlt', mapFrom_snoc]
        exact HM2.out
      case measure => simp [intOf]; omega
    · have e : l.take k = l := List.take_of_length_le (by rw [HL.out]; omega)
      go_wp2_with fail
      go_ret
      refine ⟨_, rfl, Nat.le_refl _, ?_, HB.out⟩
      have h := HM.out
      rw [e, show k = n by omega] at h
      exact h

theorem run_makeMap_hint {t k e : TypeId} (ht : Try.prog.underlying t = some (.map k e)) (n : Int) (w : World) :
    (Instr.makeMap t (some (.int .i64 n))).run Try.prog w = .ok (.map (some w.heap.size)) (w.alloc (.map #[] 0)) := by
  simp [Instr.makeMap, run_underlying ht, asInt, asIntOf]

/-- A selector in memory: its labels' map, its rules' slice. -/
def Sel (w : World) (s m : Nat) (R : Value) : Prop := w.cell? ⟨s, 0, none⟩ = some (.map (some m)) ∧ w.cell? ⟨s, 1, none⟩ = some R ∧ s < w.heap.size
theorem Sel.keep {w w' : World} {s m : Nat} {R : Value} (h : Sel w s m R) (hb : w'.heap[s]? = w.heap[s]?) (hs : w.heap.size ≤ w'.heap.size) : Sel w' s m R :=
  ⟨by rw [World.cell?_of_block (a := ⟨s, 0, none⟩) hb]; exact h.1, by rw [World.cell?_of_block (a := ⟨s, 1, none⟩) hb]; exact h.2.1, Nat.lt_of_lt_of_le h.2.2 hs⟩
theorem Sel.below {w w' : World} {s m n : Nat} {R : Value} (h : Sel w s m R) (hb : Below n w w') (hn : s < n) : Sel w' s m R := h.keep (hb.block s hn) hb.size
theorem Sel.grown {w w' : World} {s m : Nat} {R : Value} {row : Option Nat} (h : Sel w s m R) (hg : w.grownBy w' row) (hn : some s ≠ row) : Sel w' s m R := h.keep (hg.block s h.2.2 hn) hg.size
theorem sel_new (w : World) (m : Nat) (R : Value) (t : TypeId) : Sel (w.alloc (.cells #[.map (some m), R] t)) w.heap.size m R := by
  refine ⟨?_, ?_, by simp⟩ <;> (unfold World.cell?; rw [(MapKept.heap_alloc w _).1]; rfl)
theorem keyLit {key : Value} {kl : Lit} (hk : keyOf Try.prog 9 key = some kl) : WideAt.IsKeyLit kl := by
  obtain ⟨x, _, rfl, _⟩ := Maps.keyOf_str Try.underlying9 hk
  trivial
theorem keyInv (key : Value) (kl : Lit) (hk : keyOf Try.prog 9 key = some kl) : ∃ x, key = encStr x := by obtain ⟨x, hx, _⟩ := Maps.keyOf_str Try.underlying9 hk; exact ⟨x, hx⟩
theorem elemInv (v : Value) (y : DataW Unit × List MemPlace) (hv : plainElem Try.prog 9 v = some y) : ∃ c, v = encStr c := by
  obtain ⟨s, rfl, _⟩ := plainElem_string_inv Try.underlying9 hv
  exact ⟨s.data.toList, by simp [encStr]⟩

set_option maxRecDepth 100000 in
theorem setAs_any (b n : Nat) (D : DataW Unit) (w : World) (hown : SMap w b n D) (hmax : Maps.size D ≤ maxLen) :
    Calls Try.prog 18 #[.map (some b)] w fun e w' => e = .returned (.pointer (some ⟨w.heap.size + 1, 0, none⟩)) ∧ Sel w' (w.heap.size + 1) w.heap.size (.slice none 0 0) ∧ SMap w' w.heap.size (Maps.size D) D ∧ Below w.heap.size w w' := by
  have hmm := @run_makeMap_hint 36 9 9 Try.underlying36
  have qT : ∀ (w : World) (r : Option Nat), (binOp .eql 50 (.map r) (.map none)).run Try.prog w = .ok (.bool r.isNone) w := fun w r => run_eql_map_nil w _ _ _ r Try.underlying50
  have hbl := hown.lt
  have e1 : (w.alloc (.map #[] 0)).heap.size = w.heap.size + 1 := by simp
  have HO := Lib.hid hown
  have HX := Lib.hid hmax
  clear hown hmax
  go_enter Try.func18, Try.ntmps18
  go_wp2_with (first
    | (at_len; refine wpList_len_own _ rfl _ 50 rfl 9 9 Try.underlying50 _ b n _ rfl HO.out ?_)
    | (at_range; refine wpList_range_own _ rfl _ 50 rfl 9 9 law9 Try.underlying50 _ b n _ rfl (World.ownsMap.alloc (World.ownsMap.alloc HO.out _) _) ?_; intro w0 hrg0 hg0 hs0)
    | fail)
  go_frame
  have e2 : ∀ o : Obj, ((w.alloc (.map #[] 0)).alloc o).heap.size = w.heap.size + 2 := by simp
  simp only [e2] at hrg0
  clear hs0
  have hS0 := (sel_new (w.alloc (.map #[] 0)) w.heap.size (.slice none 0 0) 58)
  simp only [e1] at hS0
  simp only [e2]
  have HS0 := Lib.hid (Sel.grown hS0 hg0 (by simp))
  have HM0 : SMap w0 w.heap.size 0 (.map []) := World.ownsMap.kept (World.ownsMap.alloc (World.ownsMap_made w Try.prog 9 (plainElem Try.prog 9)) _) hg0 (by simp)
  have HB0 := Lib.hid ((b0_alloc (b0_alloc (b0_refl w) (.map #[] 0)) (.cells #[.map (some w.heap.size), .slice none 0 0] 58)).grown hg0 (b0_alloc (b0_alloc (b0_refl w) _) _).size (fun j hj => by cases hj))
  clear hS0 hg0
  go_loopw [4] (fun _ wr => ∃ (left : Lit → Bool) (cnt : Nat) (Dout : DataW Unit), wr.ranges Try.prog 9 (plainElem Try.prog 9) b (w.heap.size + 2) n D left cnt ∧ cnt ≤ Maps.size D ∧
      SMap wr w.heap.size (Maps.size D - cnt) Dout ∧ Agree Dout D left ∧ Sel wr (w.heap.size + 1) w.heap.size (.slice none 0 0) ∧ Below w.heap.size w wr)
    (fun _ wr => wr.rangeLeft b (w.heap.size + 2))
  case atStart => exact ⟨_, _, .map [], hrg0, Nat.le_refl _, HM0.mono (Nat.zero_le _), agree_start D, HS0.out, HB0.out⟩
  case round =>
    obtain ⟨left, cnt, Dout, hrg, hcs, hout, hA, hS, hnx⟩ := hrel
    go_wp2_with (first
      | (at_next; refine wpList_next_ranges _ rfl _ rfl 9 law9 (plainElem Try.prog 9) encStr encStr keyInv elemInv b (w.heap.size + 2) n _ _ _ rfl hrg ?_ ?_)
      | fail)
    · intro hc0 hl0
      go_wp2_with fail
      go_ret
      subst hc0
      have e := agree_end hA hl0 (hout.canon law9) (HO.out.canon law9)
      subst e
      exact ⟨rfl, hS, by simpa using hout, hnx⟩
    · intro x c kl yd yp w1 cnt1 hkey hlk hv hat hrg1 hlt hg1 hs1 hen
      clear hs1
      have hout1 := World.ownsMap.kept hout hg1 (by simp)
      have hS1 := hS.grown hg1 (by simp)
      have hcell := hS1.1
      have HNX := Lib.hid (hnx.grown hg1 hnx.size (fun j hj => by cases hj; omega))
      have HG1 := Lib.hid hg1
      have HKey := Lib.hid hkey
      have HV := Lib.hid hv
      have HS1 := Lib.hid hS1
      clear hkey hv hS1 hg1 hnx
      go_wp2_with (first
        | (at_mapUpdate; refine wpList_mapUpdate_own _ rfl _ _ _ 36 rfl 9 9 law9 Try.underlying36 _ w.heap.size _ _ rfl hout1 (by have := HX.out; omega) _ _ _ rfl rfl HKey.out _ _ HV.out ?_; intro w2 hout2 hg2; go_frame)
        | fail)
      have hrg2 := hrg1.kept hg2 (fun e => by have := Option.some.inj e; omega) (fun e => by have := Option.some.inj e; omega)
      go_roundw
      case rel =>
        exact ⟨_, cnt1, _, hrg2, by omega, World.ownsMap.mono hout2 (by omega), agree_step hA (World.ownsMap.isMap hout) (keyLit HKey.out) hat, HS1.out.grown hg2 (by simp), HNX.out.grown hg2 HNX.out.size (fun j hj => by cases hj; exact Nat.le_refl _)⟩
      case measure => rw [hrg2.left_eq, hrg.left_eq]; exact hlt

/-- The library's sort of texts, as it is called here. -/
def SortLaw : Prop := ∀ (blk off cap : Nat) (ss : List (List UInt8)) (w : World), Holds encStr w blk off ss.toArray → blk < w.heap.size → ss.length < 4611686018427387904 →
  Calls Try.prog 30 #[.slice (some ⟨blk, off, none⟩) ss.length cap] w fun e w' => e = .returned (.tuple #[]) ∧ ∃ n os, w' = grow (putRow encStr (Sort.ahead w n) blk off (ss.mergeSort fun x y => decide (x ≤ y)).toArray) os
/-- .. of nothing. -/
def SortNil : Prop := ∀ (p : Option Addr) (cap : Nat) (w : World), Calls Try.prog 30 #[.slice p 0 cap] w fun e w' => e = .returned (.tuple #[]) ∧ w' = w

theorem Try.info9 : (Try.prog.info? 9).map (fun i => (i.zero, i.size, i.bytes)) = some (some (.string ⟨#[]⟩), 1, 16) := by kernel_rfl

/-- A map's keys, rising. -/
def keysOf (D : DataW Unit) : List (List UInt8) := (strKeys D).mergeSort leB
/-- It returns a slice of its own that lists these texts. -/
def Texts (L : List (List UInt8)) (w : World) (e : Ending) (w' : World) : Prop := ∃ v, e = .returned v ∧ w'.ownsRow w.heap.size 9 1 v L.length (L.map encStr) ∧ Below w.heap.size w w'

theorem owns_form {w : World} {base : Nat} {e : TypeId} {size : Nat} {v : Value} {n : Nat} {xs : List Value} (h : w.ownsRow base e size v n xs) : (v = .slice none 0 0 ∧ n = 0) ∨ ∃ g cap, v = .slice (some ⟨g, 0, none⟩) n cap ∧ base ≤ g ∧ g < w.heap.size := by
  rcases h.2 with h0 | ⟨g, cap, cur, rfl, hb, hg, _⟩
  · exact .inl h0
  · exact .inr ⟨g, cap, rfl, hb, (Array.getElem?_eq_some_iff.1 hg).1⟩

set_option maxRecDepth 100000 in
set_option maxHeartbeats 1000000 in
theorem keys_any (hsort : SortLaw) (hnil : SortNil) (b n : Nat) (D : DataW Unit) (w : World) (hown : SMap w b n D) (hmax : Maps.size D ≤ 4294967296) :
    Calls Try.prog 25 #[.map (some b)] w (Texts (keysOf D) w) := by
  obtain ⟨i0, hi, hz0, hz1, hz2⟩ := info_parts Try.info9
  have hbl := hown.lt
  have HO := Lib.hid hown
  have HX := Lib.hid hmax
  have HS := Lib.hid hsort
  have HSN := Lib.hid hnil
  clear hown hmax hsort hnil
  go_enter Try.func25, Try.ntmps25
  go_wp2_with (first
    | (at_range; refine wpList_range_own _ rfl _ 36 rfl 9 9 law9 Try.underlying36 _ b n _ rfl HO.out ?_; intro w0 hrg0 hg0 hs0)
    | fail)
  go_frame
  clear hs0
  have HR0 := Lib.hid ((World.ownsRow_nil w w.heap.size 9 1).kept hg0 (.inl rfl))
  have HB0 := Lib.hid ((b0_refl w).grown hg0 (Nat.le_refl _) (fun j hj => by cases hj))
  clear hg0
  go_loopw [3] (fun v wr => ∃ (left : Lit → Bool) (cnt : Nat) (ss : List (List UInt8)), wr.ranges Try.prog 9 (plainElem Try.prog 9) b w.heap.size n D left cnt ∧ ss.length + cnt ≤ Maps.size D ∧
      wr.ownsRow w.heap.size 9 1 v ss.length (ss.map encStr) ∧ Collected D left ss ∧ Below w.heap.size w wr)
    (fun _ wr => wr.rangeLeft b w.heap.size)
  case atStart => exact ⟨_, _, [], hrg0, by simp, HR0.out, Collected.start D, HB0.out⟩
  case round =>
    obtain ⟨left, cnt, ss, hrg, hcs, hrow, hC, hnx⟩ := hrel
    have HRow := Lib.hid hrow
    have HNX := Lib.hid hnx
    have HCS := Lib.hid hcs
    clear hrow hnx hcs
    go_wp2_with (first
      | (at_next; refine wpList_next_ranges _ rfl _ rfl 9 law9 (plainElem Try.prog 9) encStr encStr keyInv elemInv b w.heap.size n _ _ _ rfl hrg ?_ ?_)
      | fail)
    · intro hc0 hl0
      have hP := hC.perm HO.out law9 Try.underlying9 hl0
      have hE := mergeSort_of_perm hP
      have hL := hP.length_eq
      rcases HRow.out.2 with ⟨hn0, h0⟩ | ⟨g, cap, cur, hv, hbase, hb, h1, h2, h3, h4⟩
      · have hk : keysOf D = [] := by
          have : strKeys D = [] := List.length_eq_zero_iff.1 (by omega)
          simp [keysOf, this]
        subst hn0
        have HHK := Lib.hid hk
        clear hk hE hL hP
        go_wp2_with fail
        refine (HSN.out none 0 _).mono ?_
        rintro e w' ⟨rfl, rfl⟩
        go_wp2_with fail
        go_ret
        refine ⟨_, rfl, ?_, HNX.out⟩
        rw [HHK.out]
        exact World.ownsRow_nil _ _ _ _
      · subst hv
        have hH : Holds encStr wr g 0 ss.toArray := holds_of_block hb (by simpa using h4)
        have hgl : g < wr.heap.size := (Array.getElem?_eq_some_iff.1 hb).1
        have HC := Lib.hid (HS.out g 0 cap ss wr hH hgl (by have := HCS.out; have := HX.out; omega))
        have HFin := Lib.hid (fun (m : Nat) (os : Array Obj) => ownsRow_sorted (n := m) (os := os) (ss := ss) (ts := ss.mergeSort leB) (by simp) hbase hb h1 h2 h3)
        have HHE := Lib.hid hE
        have HHB := Lib.hid hbase
        clear hE hL hP hH hb h4
        go_wp2_with fail
        refine HC.out.mono ?_
        rintro e w' ⟨rfl, nn, os, rfl⟩
        go_wp2_with fail
        go_ret
        refine ⟨_, rfl, ?_, HNX.out.grown (grownBy_sorted _) HNX.out.size (fun j hj => by cases hj; exact HHB.out)⟩
        have := HFin.out nn os
        have hlen : (keysOf D).length = ss.length := by simp [keysOf, ← HHE.out]
        rw [hlen]
        unfold keysOf
        rw [← HHE.out]
        exact this
    · intro x c kl yd yp w2 cnt2 hkey hlk hv hat hrg2 hlt hg2 hs2 hen
      obtain ⟨x', ex, rfl, _⟩ := Maps.keyOf_str Try.underlying9 hkey
      obtain rfl : x = x' := encStr_inj ex
      have HRow2 := Lib.hid (HRow.out.kept hg2 (Or.inr (row_ne_iter HRow.out hrg).symm))
      have HNX2 := Lib.hid (HNX.out.grown hg2 HNX.out.size (fun j hj => by cases hj; exact Nat.le_refl _))
      clear hs2 hg2 hkey hv ex
      go_wp2_with (first
        | (at_builtin; refine wpList_append_own _ rfl _ _ 44 rfl w.heap.size 9 i0 (.string ⟨#[]⟩) 1 16 Try.underlying44 hi hz0 hz1 hz2 rfl (by decide) _ _ _ rfl (HRow2.out.alloc _) ⟨w2.heap.size, 0, none⟩ 1 1 [encStr x] rfl rfl (cell_one_new _ _ _) (by simp [Value.oneCell', encStr]) (by have := HCS.out; have := HX.out; unfold maxLen at *; omega) (by have := HCS.out; have := HX.out; omega) (by have := HNX2.out.size; simp; omega) ?_; intro v' w3 hown' hg3 hnil3; go_frame)
        | fail)
      have hrg3 := (hrg2.alloc _).kept hg3 (row_ne_low HRow2.out hbl) (row_ne_iter HRow2.out hrg2)
      go_roundw
      case rel =>
        refine ⟨_, cnt2, ss ++ [x], hrg3, by have := HCS.out; simp; omega, by simpa using hown', hC.step hlk hat, ?_⟩
        exact (b0_alloc HNX2.out _).grown hg3 (b0_alloc HNX2.out _).size (fun j hj => (HRow2.out.lt j hj).1)
      case measure => rw [hrg3.left_eq, hrg.left_eq]; exact hlt

theorem zero9 (w : World) : (zeroValue 9).run Try.prog w = .ok (.string ⟨#[]⟩) w := by kernel_rfl
theorem Try.info30 : (Try.prog.info? 30).map (fun i => (i.zero, i.size, i.bytes)) = some (some (.agg #[.string ⟨#[]⟩, .string ⟨#[]⟩]), 2, 32) := by kernel_rfl
theorem cell_two_new (w : World) (x y : Value) (t : TypeId) : ∀ j u, [x, y][j]? = some u → (w.alloc (.cells #[x, y] t)).cell? ((⟨w.heap.size, 0, none⟩ : Addr).add j) = some u := by
  intro j u hj
  match j, hj with
  | 0, hj =>
    simp at hj
    subst hj
    unfold World.cell? Addr.add
    rw [if_pos rfl, (MapKept.heap_alloc w _).1]
    rfl
  | 1, hj =>
    simp at hj
    subst hj
    unfold World.cell? Addr.add
    rw [if_neg (by decide)]
    simp only [(MapKept.heap_alloc w _).1]
    rfl

/-- What a map of strings has at a key. -/
def valAt (D : DataW Unit) (k : List UInt8) : List UInt8 :=
  match D.atKey (.string k) (.lit (.string [])) with
  | .lit (.string s) => s
  | _ => []
/-- A map's pairs, rising by the keys. -/
def pairsOf (D : DataW Unit) : List (List UInt8 × List UInt8) := (keysOf D).map fun k => (k, valAt D k)
/-- Pairs, as they lie. -/
def flat (L : List (List UInt8 × List UInt8)) : List Value := L.flatMap fun p => [encStr p.1, encStr p.2]
theorem flat_snoc (L : List (List UInt8 × List UInt8)) (p : List UInt8 × List UInt8) : flat (L ++ [p]) = flat L ++ [encStr p.1, encStr p.2] := by simp [flat]
theorem flat_get (L : List (List UInt8 × List UInt8)) : ∀ k (h : k < L.length), (flat L)[k * 2]? = some (encStr L[k].1) ∧ (flat L)[k * 2 + 1]? = some (encStr L[k].2) := by
  induction L with
  | nil => intro k h; simp at h
  | cons p r ih =>
    intro k h
    cases k with
    | zero => simp [flat]
    | succ k =>
      have h' : k < r.length := by simpa using h
      have e : flat (p :: r) = encStr p.1 :: encStr p.2 :: flat r := by simp [flat]
      rw [e, show (k + 1) * 2 = k * 2 + 1 + 1 by omega]
      simpa using ih k h'

/-- It returns a slice of its own that lists these pairs. -/
def PairsOwn (L : List (List UInt8 × List UInt8)) (w : World) (e : Ending) (w' : World) : Prop := ∃ v, e = .returned v ∧ w'.ownsRow w.heap.size 30 2 v L.length (flat L) ∧ Below w.heap.size w w'

theorem lookup_str {w : World} {b n : Nat} {D : DataW Unit} (h : SMap w b n D) {k : List UInt8} (hk : k.length ≤ maxLen) :
    (Instr.lookup 36 (.map (some b)) (encStr k) false).run Try.prog w = .ok (encStr (valAt D k)) w := by
  obtain ⟨v, ps, hrun, hv⟩ := World.ownsMap.lookup h law9 Try.underlying36 (zero9 w) (zp := []) (zd := .lit (.string [])) (by have := elemStr (x := []) (Nat.zero_le _); simpa [encStr] using this) (keyStr hk)
  obtain ⟨s, rfl, hz⟩ := plainElem_string_inv Try.underlying9 hv
  simp only [Prod.mk.injEq] at hz
  rw [hrun]
  have : encStr (valAt D k) = .string s := by simp [valAt, hz.1, encStr]
  rw [this]
theorem keysOf_le {w : World} {b n : Nat} {D : DataW Unit} (h : SMap w b n D) : ∀ x ∈ keysOf D, x.length ≤ maxLen := fun x hx => strKeys_le h Try.underlying9 x (by simpa [keysOf] using hx)
theorem keysOf_size {w : World} {b n : Nat} {D : DataW Unit} (h : SMap w b n D) : (keysOf D).length = Maps.size D := by
  obtain ⟨es, rfl, _⟩ := World.ownsMap.keysOf h
  simp [keysOf, strKeys, Maps.size]

set_option maxRecDepth 100000 in
set_option maxHeartbeats 1000000 in
theorem pairs_any (hsort : SortLaw) (hnil : SortNil) (b n : Nat) (D : DataW Unit) (w : World) (hown : SMap w b n D) (hmax : Maps.size D ≤ 4294967296) :
    Calls Try.prog 15 #[.map (some b)] w (PairsOwn (pairsOf D) w) := by
  obtain ⟨i0, hi, hz0, hz1, hz2⟩ := info_parts Try.info30
  have hbl := hown.lt
  have hkl := keysOf_le hown
  have hks := keysOf_size hown
  have HO := Lib.hid hown
  have HX := Lib.hid hmax
  have HS := Lib.hid hsort
  have HSN := Lib.hid hnil
  have HKL := Lib.hid hkl
  have HKS := Lib.hid hks
  clear hown hmax hsort hnil hkl hks
  generalize hK : keysOf D = ks at HKL HKS
  have HK := Lib.hid hK
  clear hK
  go_enter Try.func15, Try.ntmps15
  go_wp2_with fail
  refine (keys_any HS.out HSN.out b n D w HO.out HX.out).mono ?_
  rintro e w1 ⟨v, rfl, hr, hb⟩
  rw [HK.out] at hr
  have HF := Lib.hid (owns_form hr)
  have HR := Lib.hid hr
  have HB := Lib.hid hb
  clear hr hb
  rcases HF.out with ⟨rfl, h0⟩ | ⟨g, cap, rfl, hgb, hgl⟩
  · have h0' : ks = [] := List.length_eq_zero_iff.1 h0
    have HE := Lib.hid h0'
    clear h0 h0' HF
    go_wp2_with fail
    refine wp_loop_rounds 1 ?_
    rw [rounds_succ]
    go_wp2_with fail
    go_ret
    have e : pairsOf D = [] := by simp [pairsOf, HK.out, HE.out]
    rw [e]
    exact ⟨_, rfl, World.ownsRow_nil _ _ _ _, HB.out⟩
  · clear HF
    go_wp2_with fail
    go_loopw [3, 9] (fun v i wr => ∃ k : Nat, k ≤ ks.length ∧ i = .int .i64 k ∧ wr.ownsRow w1.heap.size 30 2 v k (flat ((pairsOf D).take k)) ∧ Below w1.heap.size w1 wr) (fun _ i _ => ks.length - (intOf i).toNat)
    case atStart => exact ⟨0, Nat.zero_le _, rfl, World.ownsRow_nil _ _ _ _, b0_refl _⟩
    case round =>
      obtain ⟨k, hk, rfl, hrow, hb⟩ := hrel
      have HRow := Lib.hid hrow
      have HB1 := Lib.hid hb
      clear hrow hb
      by_cases hlt : k < ks.length
      · have hx : ks[k].length ≤ maxLen := HKL.out _ (List.getElem_mem hlt)
        have hcell : wr.cell? ⟨g, k, none⟩ = some (encStr ks[k]) := by
          rw [World.cell?_of_block (a := ⟨g, k, none⟩) (HB1.out.block g hgl), HR.out.cellAt k (by omega)]
          simp [hlt]
        have hlook : (Instr.lookup 36 (.map (some b)) (encStr ks[k]) false).run Try.prog wr = .ok (encStr (valAt D ks[k])) wr := lookup_str ((HO.out.below HB.out hbl).below HB1.out (by have := HB.out.size; omega)) hx
        have hlt' : k < (pairsOf D).length := by simp [pairsOf, HK.out, hlt]
        have HT : Hid (flat ((pairsOf D).take (k + 1)) = flat ((pairsOf D).take k) ++ [encStr ks[k], encStr (valAt D ks[k])]) := Lib.hid (by
          rw [List.take_succ_eq_append_getElem hlt', flat_snoc]
          simp [pairsOf, HK.out])
        have hkb : k < 4294967296 := by have := HKS.out; have := HX.out; omega
        clear hx hlt'
        go_wp2_with (first
          | (at_builtin; refine wpList_append_own _ rfl _ _ 22 rfl w1.heap.size 30 i0 _ 2 32 Try.underlying22 hi hz0 hz1 hz2 rfl (by decide) _ _ _ rfl (HRow.out.alloc _) ⟨wr.heap.size, 0, none⟩ 1 1 [encStr ks[k], encStr (valAt D ks[k])] rfl rfl (cell_two_new _ _ _ _) (by simp [Value.oneCell', encStr]) (by have := HKS.out; have := HX.out; unfold maxLen at *; omega) (by have := HKS.out; have := HX.out; omega) (by have := HB1.out.size; simp; omega) ?_; intro v' w3 hown' hg3 hnil3; go_frame)
          | fail)
        go_roundw
        case rel =>
          have := HKS.out; have := HX.out
          refine ⟨k + 1, by omega, by go_num, ?_, (b0_alloc HB1.out _).grown hg3 (b0_alloc HB1.out _).size (fun j hj => (HRow.out.lt j hj).1)⟩
          rw [HT.out]
          exact hown'
        case measure => have := HKS.out; have := HX.out; simp [intOf]; omega
      · go_wp2_with fail
        go_ret
        refine ⟨_, rfl, ?_, b0_then HB.out HB1.out⟩
        have hl : (pairsOf D).length = ks.length := by simp [pairsOf, HK.out]
        have h := HRow.out
        rw [List.take_of_length_le (by omega), show k = (pairsOf D).length by omega] at h
        exact World.ownsRow.mono h HB.out.size

theorem heap_alloc_new (w : World) (o : Obj) : (w.alloc o).heap[w.heap.size]? = some o := (MapKept.heap_alloc w o).1
theorem heap_alloc_old {w : World} {b : Nat} {x : Obj} (h : w.heap[b]? = some x) (o : Obj) : (w.alloc o).heap[b]? = some x := ((MapKept.heap_alloc w o).2 b (Array.getElem?_eq_some_iff.1 h).1).trans h
theorem blk_cells {w : World} {b : Nat} {u v p : Value} {T : TypeId} (h : w.heap[b]? = some (.cells #[u, v, p] T (0, 0))) :
    w.cell? ⟨b, 0, none⟩ = some u ∧ w.cell? ⟨b, 1, none⟩ = some v ∧ w.cell? ⟨b, 2, none⟩ = some p := by
  refine ⟨?_, ?_, ?_⟩ <;> (unfold World.cell?; rw [h]; rfl)

theorem set3 {w : World} {b : Nat} {u v p u' v' p' : Value} {T : TypeId} (h : w.heap[b]? = some (.cells #[u, v, p] T (0, 0))) :
    (((w.setCell ⟨b, 0, none⟩ u').setCell ⟨b, 1, none⟩ v').setCell ⟨b, 2, none⟩ p').heap[b]? = some (.cells #[u', v', p'] T (0, 0)) :=
  heap_setCell_same _ b 2 _ T p' (heap_setCell_same _ b 1 _ T v' (heap_setCell_same _ b 0 _ T u' h))
theorem Try.size25 : (Try.prog.info? 25).map (·.size) = some 3 := by kernel_rfl

/-- It returns a selector as data: not nil, these labels, no rule. -/
def AskedOwn (L : List (List UInt8 × List UInt8)) (w : World) (e : Ending) (w' : World) : Prop := ∃ v, e = .returned (.agg #[.bool false, v, .slice none 0 0]) ∧ w'.ownsRow w.heap.size 30 2 v L.length (flat L) ∧ Below w.heap.size w w'

set_option maxRecDepth 100000 in
set_option maxHeartbeats 1000000 in
theorem askedOf_any (hsort : SortLaw) (hnil : SortNil) (s m n : Nat) (D : DataW Unit) (w : World) (hs : Sel w s m (.slice none 0 0)) (hown : SMap w m n D) (hmax : Maps.size D ≤ 4294967296) :
    Calls Try.prog 17 #[.pointer (some ⟨s, 0, none⟩)] w (AskedOwn (pairsOf D) w) := by
  have hsl := hs.2.2
  have hml := hown.lt
  have c0 : (w.alloc (.cells #[.bool false, .slice none 0 0, .slice none 0 0] 25)).cell? ⟨s, 0, none⟩ = some (.map (some m)) := (hs.below (b0_alloc (b0_refl w) _) hsl).1
  have HM := Lib.hid (hown.below (b0_alloc (b0_refl w) (.cells #[.bool false, .slice none 0 0, .slice none 0 0] 25)) hml)
  have HSel := Lib.hid hs
  have HX := Lib.hid hmax
  have HS := Lib.hid hsort
  have HSN := Lib.hid hnil
  clear hs hown hmax hsort hnil
  go_enter Try.func17, Try.ntmps17
  go_wp2_with fail
  refine (pairs_any HS.out HSN.out m n D _ HM.out HX.out).mono ?_
  rintro e w1 ⟨v, rfl, hr, hb⟩
  have HF := owns_form hr
  have HR := Lib.hid hr
  have HB := Lib.hid (b0_then (b0_alloc (b0_refl w) _) hb)
  have HB1 := Lib.hid hb
  clear hr hb
  have c1 : ∀ o : Obj, (w1.alloc o).cell? ⟨s, 1, none⟩ = some (.slice none 0 0) := fun o => (HSel.out.below (b0_alloc HB.out o) hsl).2.1
  have z : ∀ o : Obj, (w1.alloc o).heap[w.heap.size]? = some (.cells #[.bool false, .slice none 0 0, .slice none 0 0] 25 (0, 0)) := fun o => heap_alloc_old ((HB1.out.block w.heap.size (by simp)).trans (heap_alloc_new _ _)) o
  have z0 := fun o => (blk_cells (z o)).1
  have z1 := fun o => (blk_cells (z o)).2.1
  have z2 := fun o => (blk_cells (z o)).2.2
  have y0 := fun o => Lib.frozen_of_heap (z o) 0
  have y1 := fun o => Lib.frozen_of_heap (z o) 1
  have y2 := fun o => Lib.frozen_of_heap (z o) 2
  have Z := Lib.hid z
  clear z
  rcases HF with ⟨rfl, h0⟩ | ⟨g, cap, rfl, _, _⟩
  · go_wp2_with fail
    refine wp_loop_rounds 1 ?_
    rw [rounds_succ]
    go_wp2_with fail
    refine bodyPost_ret (results_cell_row rfl _ _ w.heap.size 25 _ (0, 0) _ rfl (set3 (Z.out _)) Try.underlying25 rfl Try.size25) rfl ⟨_, rfl, World.ownsRow.mono (ownsRow_setCell_below (ownsRow_setCell_below (ownsRow_setCell_below (HR.out.alloc _) (by simp) _) (by simp) _) (by simp) _) (by simp), (((b0_alloc HB.out _).setCell (p := ⟨w.heap.size, 0, none⟩) (Nat.le_refl _) _).setCell (p := ⟨w.heap.size, 1, none⟩) (Nat.le_refl _) _).setCell (p := ⟨w.heap.size, 2, none⟩) (Nat.le_refl _) _⟩
  · go_wp2_with fail
    refine wp_loop_rounds 1 ?_
    rw [rounds_succ]
    go_wp2_with fail
    refine bodyPost_ret (results_cell_row rfl _ _ w.heap.size 25 _ (0, 0) _ rfl (set3 (Z.out _)) Try.underlying25 rfl Try.size25) rfl ⟨_, rfl, World.ownsRow.mono (ownsRow_setCell_below (ownsRow_setCell_below (ownsRow_setCell_below (HR.out.alloc _) (by simp) _) (by simp) _) (by simp) _) (by simp), (((b0_alloc HB.out _).setCell (p := ⟨w.heap.size, 0, none⟩) (Nat.le_refl _) _).setCell (p := ⟨w.heap.size, 1, none⟩) (Nat.le_refl _) _).setCell (p := ⟨w.heap.size, 2, none⟩) (Nat.le_refl _) _⟩

end Go.Proofs.Ytefnfcpekiaenaa
