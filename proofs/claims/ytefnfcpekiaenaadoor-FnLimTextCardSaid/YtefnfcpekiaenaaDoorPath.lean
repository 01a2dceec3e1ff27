/- The paths of the package field: NewPath makes a path of one part, and (*Path).String returns a text for a path of one part, or of two. Nothing that lay in memory turns. No condition beyond the paths' own shape. -/
import Derived.Test.YtefnfcpekiaenaaDoorShelf
import Derived.WalkKit
import Derived.WalkSpells
import Derived.WalkLawsBesides
import Derived.BigCall
import Derived.Lib.Buffer
import Derived.Laws.AppendOwn
import Derived.OwnWalk
import Derived.Lib.Hide
import Derived.Laws.OwnMore
import Derived.Lib.BufferWrite
import Derived.Lib.Strings
import Derived.Deep.AppendLies
import Derived.Outline
namespace Go.Proofs.YtefnfcpekiaenaaDoor
open Go.RowKit

set_option maxRecDepth 100000 in
/-- NewPath(s): a path of one part, in a block of its own. -/
theorem newPath_any (s : ByteArray) (w : World) :
    Calls Tryd.prog 22 #[.string s, .slice none 0 0] w fun e w' => e = .returned (.pointer (some ⟨w.heap.size, 0, none⟩)) ∧ w.alloc (.cells #[.string s, .string ⟨#[]⟩, .pointer none] 73) = w' := by
  go_enter Tryd.func22, Tryd.ntmps22
  go_wp2
  refine wp_loop_rounds 1 ?_
  rw [rounds_succ]
  go_wp2
  go_ret
  exact ⟨rfl, rfl⟩
theorem news1 (w : World) (o : Obj) (v : Value) (T : TypeId) : ∀ (j : Nat) (u : Value), [v][j]? = some u → ((w.alloc o).alloc (.cells #[v] T)).cell? ((⟨w.heap.size + 1, 0, none⟩ : Addr).add j) = some u := by
  have h := cell_one_new (w.alloc o) v T
  simpa using h

theorem blk_cells {w : World} {b : Nat} {u v p : Value} {T : TypeId} (h : w.heap[b]? = some (.cells #[u, v, p] T (0, 0))) : w.cell? ⟨b, 0, none⟩ = some u ∧ w.cell? ⟨b, 1, none⟩ = some v ∧ w.cell? ⟨b, 2, none⟩ = some p :=
  ⟨by rw [Lib.cell_of_heap h]; rfl, by rw [Lib.cell_of_heap h]; rfl, by rw [Lib.cell_of_heap h]; rfl⟩

theorem info42 : (Tryd.prog.info? 42).map (fun i => (i.zero, i.size, i.bytes)) = some (some (.pointer none), 1, 8) := by kernel_rfl

set_option maxRecDepth 100000 in
set_option maxHeartbeats 400000 in
theorem string_root (b : Nat) (s t : ByteArray) (w : World) (hb : w.heap[b]? = some (.cells #[.string s, .string t, .pointer none] 73 (0, 0))) (h0 : 0 < s.size) (h1 : s.size ≤ 100) :
    Calls Tryd.prog 54 #[.pointer (some ⟨b, 0, none⟩)] w fun e w' => ∃ u, e = .returned (.string u) ∧ Below w.heap.size w w' := by
  obtain ⟨i0, hi, hz0, hz1, hz2⟩ := info_parts info42
  have hlt : b < w.heap.size := Lib.lt_of_heap hb
  have hown0 : (w.alloc (.cells #[] 42)).ownsRow w.heap.size 42 1 (.slice (some ⟨w.heap.size, 0, none⟩) 0 0) 0 [] :=
    ⟨rfl, .inr ⟨w.heap.size, 0, #[], rfl, Nat.le_refl _, heap_alloc_new w _, Nat.le_refl _, Nat.zero_le _, rfl, rfl⟩⟩
  have hc0 : w.cell? ⟨b, 0, none⟩ = some (.string s) := by rw [Lib.cell_of_heap hb]; rfl
  have hc2 : w.cell? ⟨b, 2, none⟩ = some (.pointer none) := by rw [Lib.cell_of_heap hb]; rfl
  go_enter Tryd.func54, Tryd.ntmps54
  go_wp2_with fail
  refine wp_loop_rounds 2 ?_
  rw [rounds_succ]
  go_wp2_with (at_builtin; refine wpList_append_own _ rfl _ _ 89 rfl w.heap.size 42 i0 (.pointer none) 1 8 Tryd.underlying89 hi hz0 hz1 hz2 rfl (by decide) _ _ _ rfl (hown0.alloc _) ⟨w.heap.size + 1, 0, none⟩ 1 1 [.pointer (some ⟨b, 0, none⟩)] rfl rfl ?c1 ?c2 ?c3 ?c4 ?c5 ?_)
  case c1 => exact news1 _ _ _ _
  case c2 => simp [Value.oneCell']
  case c3 => unfold maxLen; omega
  case c4 => omega
  case c5 => simp; omega
  intro v' w1 hown1 hg1 hnil1
  clear hnil1
  obtain ⟨g, cap, hv', hge, hlt1⟩ := hown1.form (by omega)
  have hcell1 : w1.cell? ⟨g, 0, none⟩ = some (.pointer (some ⟨b, 0, none⟩)) := by
    rw [hv'] at hown1
    have := hown1.cellAt 0 (by omega)
    simpa using this
  have hb1 : w1.heap[b]? = some (.cells #[.string s, .string t, .pointer none] 73 (0, 0)) := by
    rw [hg1.block b (by simp; omega) (by simp [Value.ownBlock]; omega), heap_alloc_old _ _ (by simp; omega), heap_alloc_old _ _ hlt]; exact hb
  obtain ⟨k0, k1, k2⟩ := blk_cells hb1
  have hB1 : Below w.heap.size w w1 := (((Below.refl _ w).alloc (Nat.le_refl _) _).alloc (by simp) _).grown hg1 (by simp; omega) (by simp [Value.ownBlock])
  clear hc0 hc2 hown0 hown1 hg1
  have HB := Lib.hid hb
  have HB1 := Lib.hid hb1
  have HB2 := Lib.hid hB1
  clear hb hb1 hB1
  rw [hv']
  clear hv'
  go_wp2_with fail
  rw [rounds_succ]
  go_wp2_with (first | go_in | fail)
  have hI := Lib.fresh_isBuffer 99 5 w1
  have hb2 : (w1.alloc (.cells #[.slice none 0 0, .int .i64 0, .int .i8 0] 99)).heap[b]? = some (.cells #[.string s, .string t, .pointer none] 73 (0, 0)) := by
    have := HB2.out.size
    rw [heap_alloc_old _ _ (by omega)]; exact HB1.out
  have j0 : (w1.alloc (.cells #[.slice none 0 0, .int .i64 0, .int .i8 0] 99)).cell? ⟨g, 0, none⟩ = some (.pointer (some ⟨b, 0, none⟩)) := by rw [World.cell?_alloc_lt _ _ _ hlt1]; exact hcell1
  have hB2 : Below w.heap.size w (w1.alloc (.cells #[.slice none 0 0, .int .i64 0, .int .i8 0] 99)) := HB2.out.alloc HB2.out.size _
  have hsz2 : (w1.alloc (.cells #[.slice none 0 0, .int .i64 0, .int .i8 0] 99)).heap.size = w1.heap.size + 1 := by simp
  generalize (w1.alloc (.cells #[.slice none 0 0, .int .i64 0, .int .i8 0] 99)) = w2 at *
  obtain ⟨k0', k1', k2'⟩ := blk_cells hb2
  have HI := Lib.hid hI
  have HB3 := Lib.hid hB2
  have HB4 := Lib.hid hb2
  have HSZ := Lib.hid hsz2
  clear hI hB2 hb2 hsz2 k0 k1 k2 hcell1
  refine wp_loop_rounds 2 ?_
  rw [rounds_succ]
  go_wp2_with fail
  refine (Tryd.Buffer_WriteString w1.heap.size w1.heap.size [] s _ HI.out (by have := HSZ.out; omega) (by simp) (by simp; omega)).mono ?_
  rintro e w3 ⟨rfl, hI3, hB3⟩
  have HI3 := Lib.hid hI3
  have HB5 := Lib.hid hB3
  clear hI3 hB3
  go_wp2_with fail
  rw [rounds_succ]
  go_wp2_with fail
  refine (Tryd.Buffer_String w1.heap.size w1.heap.size s.data.toList _ HI3.out).mono ?_
  rintro e w4 ⟨rfl, n, rfl⟩
  go_wp2_with fail
  go_ret
  have h3 : Below w.heap.size w w3 := HB3.out.trans (HB5.out.mono (by have := HB2.out.size; omega))
  exact ⟨_, rfl, h3.trans ⟨rfl, rfl, rfl, Nat.le_refl _, fun _ _ => rfl⟩⟩


set_option maxRecDepth 100000 in
set_option maxHeartbeats 800000 in
theorem string_child (c b : Nat) (s t : ByteArray) (w : World) (hc : w.heap[c]? = some (.cells #[.string s, .string ⟨#[]⟩, .pointer (some ⟨b, 0, none⟩)] 73 (0, 0))) (hb : w.heap[b]? = some (.cells #[.string t, .string ⟨#[]⟩, .pointer none] 73 (0, 0)))
    (h0 : 0 < s.size) (h1 : s.size ≤ 100) (h2 : 0 < t.size) (h3 : t.size ≤ 100) :
    Calls Tryd.prog 54 #[.pointer (some ⟨c, 0, none⟩)] w fun e w' => ∃ u, e = .returned (.string u) ∧ Below w.heap.size w w' := by
  obtain ⟨i0, hi, hz0, hz1, hz2⟩ := info_parts info42
  have hlt : b < w.heap.size := Lib.lt_of_heap hb
  have hlc : c < w.heap.size := Lib.lt_of_heap hc
  have hown0 : (w.alloc (.cells #[] 42)).ownsRow w.heap.size 42 1 (.slice (some ⟨w.heap.size, 0, none⟩) 0 0) 0 [] :=
    ⟨rfl, .inr ⟨w.heap.size, 0, #[], rfl, Nat.le_refl _, heap_alloc_new w _, Nat.le_refl _, Nat.zero_le _, rfl, rfl⟩⟩
  obtain ⟨m0, m1, m2⟩ := blk_cells hc
  go_enter Tryd.func54, Tryd.ntmps54
  go_wp2_with fail
  refine wp_loop_rounds 3 ?_
  rw [rounds_succ]
  go_wp2_with (at_builtin; refine wpList_append_own _ rfl _ _ 89 rfl w.heap.size 42 i0 (.pointer none) 1 8 Tryd.underlying89 hi hz0 hz1 hz2 rfl (by decide) _ _ _ rfl (hown0.alloc _) ⟨w.heap.size + 1, 0, none⟩ 1 1 [.pointer (some ⟨c, 0, none⟩)] rfl rfl ?c1 ?c2 ?c3 ?c4 ?c5 ?_)
  case c1 => exact news1 _ _ _ _
  case c2 => simp [Value.oneCell']
  case c3 => unfold maxLen; omega
  case c4 => omega
  case c5 => simp; omega
  intro v' w1 hown1 hg1 hnil1
  clear hnil1
  obtain ⟨g, cap, hv', hge, hlt1⟩ := hown1.form (by omega)
  have hb1 : w1.heap[b]? = some (.cells #[.string t, .string ⟨#[]⟩, .pointer none] 73 (0, 0)) := by
    rw [hg1.block b (by simp; omega) (by simp [Value.ownBlock]; omega), heap_alloc_old _ _ (by simp; omega), heap_alloc_old _ _ hlt]; exact hb
  have hc1 : w1.heap[c]? = some (.cells #[.string s, .string ⟨#[]⟩, .pointer (some ⟨b, 0, none⟩)] 73 (0, 0)) := by
    rw [hg1.block c (by simp; omega) (by simp [Value.ownBlock]; omega), heap_alloc_old _ _ (by simp; omega), heap_alloc_old _ _ hlc]; exact hc
  have hB1 : Below w.heap.size w w1 := (((Below.refl _ w).alloc (Nat.le_refl _) _).alloc (by simp) _).grown hg1 (by simp; omega) (by simp [Value.ownBlock])
  obtain ⟨k0, k1, k2⟩ := blk_cells hb1
  obtain ⟨n0, n1, n2⟩ := blk_cells hc1
  clear hown0 hg1 m0 m1 m2
  have HB := Lib.hid hb
  have HC := Lib.hid hc
  have HB1 := Lib.hid hb1
  have HC1 := Lib.hid hc1
  have HB2 := Lib.hid hB1
  have HOWN1 := Lib.hid hown1
  clear hb hc hb1 hc1 hB1 hown1
  rw [hv'] at HOWN1 ⊢
  clear hv'
  go_wp2_with fail
  rw [rounds_succ]
  go_wp2_with (at_builtin; refine wpList_append_own _ rfl _ _ 89 rfl w.heap.size 42 i0 (.pointer none) 1 8 Tryd.underlying89 hi hz0 hz1 hz2 rfl (by decide) _ _ _ rfl (HOWN1.out.alloc _) ⟨w1.heap.size, 0, none⟩ 1 1 [.pointer (some ⟨b, 0, none⟩)] rfl rfl ?c1 ?c2 ?c3 ?c4 ?c5 ?_)
  case c1 => exact cell_one_new _ _ _
  case c2 => simp [Value.oneCell']
  case c3 => unfold maxLen; omega
  case c4 => omega
  case c5 => have := HB2.out.size; simp; omega
  intro v2 w2 hown2 hg2 hnil2
  clear hnil2
  obtain ⟨g2, cap2, hv2, hge2, hlt2⟩ := hown2.form (by omega)
  have q0 : w2.cell? ⟨g2, 0, none⟩ = some (.pointer (some ⟨c, 0, none⟩)) := by
    rw [hv2] at hown2
    have := hown2.cellAt 0 (by omega)
    simpa using this
  have q1 : w2.cell? ⟨g2, 1, none⟩ = some (.pointer (some ⟨b, 0, none⟩)) := by
    rw [hv2] at hown2
    have := hown2.cellAt 1 (by omega)
    simpa using this
  have hb2 : w2.heap[b]? = some (.cells #[.string t, .string ⟨#[]⟩, .pointer none] 73 (0, 0)) := by
    have := HB2.out.size
    rw [hg2.block b (by simp; omega) (by simp [Value.ownBlock]; omega), heap_alloc_old _ _ (by omega)]; exact HB1.out
  have hc2 : w2.heap[c]? = some (.cells #[.string s, .string ⟨#[]⟩, .pointer (some ⟨b, 0, none⟩)] 73 (0, 0)) := by
    have := HB2.out.size
    rw [hg2.block c (by simp; omega) (by simp [Value.ownBlock]; omega), heap_alloc_old _ _ (by omega)]; exact HC1.out
  have hB2 : Below w.heap.size w w2 := (HB2.out.alloc HB2.out.size _).grown hg2 (by have := HB2.out.size; simp; omega) (fun j hj => by simp [Value.ownBlock] at hj; omega)
  have HB3 := Lib.hid hB2
  have HB4 := Lib.hid hb2
  have HC4 := Lib.hid hc2
  obtain ⟨r0, r1, r2⟩ := blk_cells hb2
  clear hB2 hb2 hc2 k0 k1 k2 n0 n1 n2 hown2 hg2
  rw [hv2]
  clear hv2
  go_wp2_with fail
  rw [rounds_succ]
  go_wp2_with (first | go_in | fail)
  have hI := Lib.fresh_isBuffer 99 5 w2
  have hb3 : (w2.alloc (.cells #[.slice none 0 0, .int .i64 0, .int .i8 0] 99)).heap[b]? = some (.cells #[.string t, .string ⟨#[]⟩, .pointer none] 73 (0, 0)) := by
    have := HB3.out.size
    rw [heap_alloc_old _ _ (by omega)]; exact HB4.out
  have hc3 : (w2.alloc (.cells #[.slice none 0 0, .int .i64 0, .int .i8 0] 99)).heap[c]? = some (.cells #[.string s, .string ⟨#[]⟩, .pointer (some ⟨b, 0, none⟩)] 73 (0, 0)) := by
    have := HB3.out.size
    rw [heap_alloc_old _ _ (by omega)]; exact HC4.out
  have j0 : (w2.alloc (.cells #[.slice none 0 0, .int .i64 0, .int .i8 0] 99)).cell? ⟨g2, 0, none⟩ = some (.pointer (some ⟨c, 0, none⟩)) := by rw [World.cell?_alloc_lt _ _ _ hlt2]; exact q0
  have j1 : (w2.alloc (.cells #[.slice none 0 0, .int .i64 0, .int .i8 0] 99)).cell? ⟨g2, 1, none⟩ = some (.pointer (some ⟨b, 0, none⟩)) := by rw [World.cell?_alloc_lt _ _ _ hlt2]; exact q1
  have hB3 : Below w.heap.size w (w2.alloc (.cells #[.slice none 0 0, .int .i64 0, .int .i8 0] 99)) := HB3.out.alloc HB3.out.size _
  have hsz3 : (w2.alloc (.cells #[.slice none 0 0, .int .i64 0, .int .i8 0] 99)).heap.size = w2.heap.size + 1 := by simp
  generalize (w2.alloc (.cells #[.slice none 0 0, .int .i64 0, .int .i8 0] 99)) = w3 at *
  obtain ⟨k0', k1', k2'⟩ := blk_cells hb3
  obtain ⟨n0', n1', n2'⟩ := blk_cells hc3
  have HI := Lib.hid hI
  have HB5 := Lib.hid hB3
  have HB6 := Lib.hid hb3
  have HC6 := Lib.hid hc3
  have HSZ := Lib.hid hsz3
  clear hI hB3 hb3 hc3 hsz3 r0 r1 r2 q0 q1
  have hone : ∀ l : List UInt8, ∀ v ∈ Lib.byteCells l, v.oneCell' = true := fun l => Lib.byteCells_one l
  have HONE := Lib.hid hone
  clear hone
  refine wp_loop_rounds 3 ?_
  rw [rounds_succ]
  go_wp2_with fail
  refine (Tryd.Buffer_WriteString w2.heap.size w2.heap.size [] t _ HI.out (by have := HSZ.out; omega) (by simp) (by simp; omega)).mono ?_
  rintro e w4 ⟨rfl, hI4, hB4⟩
  have hsz4 := hB4.size
  have hcc : w4.heap[c]? = some (.cells #[.string s, .string ⟨#[]⟩, .pointer (some ⟨b, 0, none⟩)] 73 (0, 0)) := by
    rw [hB4.block c (by have := HB3.out.size; omega)]; exact HC6.out
  have jj0 : w4.cell? ⟨g2, 0, none⟩ = some (.pointer (some ⟨c, 0, none⟩)) := by rw [hB4.cell (p := ⟨g2, 0, none⟩) hlt2]; exact j0
  obtain ⟨o0, o1, o2⟩ := blk_cells hcc
  have HI4 := Lib.hid hI4
  have HB7 := Lib.hid hB4
  have HC7 := Lib.hid hcc
  clear hI4 hB4 hcc j0 j1 k0' k1' k2' n0' n1' n2'
  go_wp2_with fail
  rw [rounds_succ]
  go_wp2_with fail
  have hdot : (ByteArray.size ⟨#[46]⟩) = 1 := rfl
  refine (Tryd.Buffer_WriteString w2.heap.size w2.heap.size _ _ _ HI4.out (by have := HSZ.out; omega) (by simpa using HONE.out _) (by simp [Lib.byteCells_length]; omega)).mono ?_
  rintro e w5 ⟨rfl, hI5, hB5⟩
  have hsz5 := hB5.size
  have hccc : w5.heap[c]? = some (.cells #[.string s, .string ⟨#[]⟩, .pointer (some ⟨b, 0, none⟩)] 73 (0, 0)) := by
    rw [hB5.block c (by have := HB3.out.size; omega)]; exact HC7.out
  obtain ⟨p0, p1, p2⟩ := blk_cells hccc
  have hI5' : Lib.IsBuffer 99 5 w2.heap.size w2.heap.size (Lib.byteCells (t.data.toList ++ [46])) w5 := by simpa [Lib.byteCells] using hI5
  have HI5 := Lib.hid hI5'
  have HB8 := Lib.hid hB5
  clear hI5 hI5' hB5 hccc o0 o1 o2 jj0 hdot
  go_wp2_with fail
  refine (Tryd.Buffer_WriteString w2.heap.size w2.heap.size _ _ _ HI5.out (by have := HSZ.out; omega) (HONE.out _) (by simp [Lib.byteCells_length]; omega)).mono ?_
  rintro e w6 ⟨rfl, hI6, hB6⟩
  have hI6' : Lib.IsBuffer 99 5 w2.heap.size w2.heap.size (Lib.byteCells ((t.data.toList ++ [46]) ++ s.data.toList)) w6 := by rw [Lib.byteCells_append]; exact hI6
  have HI6 := Lib.hid hI6'
  have HB9 := Lib.hid hB6
  clear hI6 hI6' hB6 p0 p1 p2
  go_wp2_with fail
  rw [rounds_succ]
  go_wp2_with fail
  refine (Tryd.Buffer_String w2.heap.size w2.heap.size _ _ HI6.out).mono ?_
  rintro e w7 ⟨rfl, n, rfl⟩
  go_wp2_with fail
  go_ret
  have hle : w.heap.size ≤ w2.heap.size := HB3.out.size
  have h6 : Below w.heap.size w w6 := HB5.out.trans (((HB7.out.trans HB8.out).trans HB9.out).mono hle)
  exact ⟨_, rfl, h6.trans ⟨rfl, rfl, rfl, Nat.le_refl _, fun _ _ => rfl⟩⟩

/-- A part of a path, in a block of its own. -/
def Node (w : World) (b : Nat) (s : ByteArray) (p : Value) : Prop := w.heap[b]? = some (.cells #[.string s, .string ⟨#[]⟩, p] 73 (0, 0)) ∧ 0 < s.size ∧ s.size ≤ 100
/-- A path of one part, or of two. -/
def PathOk (w : World) (c : Nat) : Prop := (∃ s, Node w c s (.pointer none)) ∨ ∃ s b t, Node w c s (.pointer (some ⟨b, 0, none⟩)) ∧ Node w b t (.pointer none)
theorem Node.lt {w : World} {b : Nat} {s : ByteArray} {p : Value} (h : Node w b s p) : b < w.heap.size := Lib.lt_of_heap h.1
theorem Node.keep {w w' : World} {b : Nat} {s : ByteArray} {p : Value} (h : Node w b s p) (hk : w'.heap[b]? = w.heap[b]?) : Node w' b s p := ⟨hk.trans h.1, h.2⟩
theorem PathOk.lt {w : World} {c : Nat} (h : PathOk w c) : c < w.heap.size := by
  rcases h with ⟨s, h⟩ | ⟨s, b, t, h, _⟩ <;> exact h.lt
theorem PathOk.keep {w w' : World} {c : Nat} (h : PathOk w c) (hk : ∀ k, k < w.heap.size → w'.heap[k]? = w.heap[k]?) : PathOk w' c := by
  rcases h with ⟨s, h⟩ | ⟨s, b, t, h, h'⟩
  · exact .inl ⟨s, h.keep (hk _ h.lt)⟩
  · exact .inr ⟨s, b, t, h.keep (hk _ h.lt), h'.keep (hk _ h'.lt)⟩
theorem PathOk.below {w w' : World} {c B : Nat} (h : PathOk w c) (hb : Below B w w') (hB : w.heap.size ≤ B) : PathOk w' c := h.keep fun k hk => hb.block k (by omega)

/-- It returns a text; nothing that lay has turned. -/
def SomeText (w : World) (e : Ending) (w' : World) : Prop := ∃ u, e = .returned (.string u) ∧ Below w.heap.size w w'
theorem path_string (c : Nat) (w : World) (h : PathOk w c) : Calls Tryd.prog 54 #[.pointer (some ⟨c, 0, none⟩)] w (SomeText w) := by
  rcases h with ⟨s, h⟩ | ⟨s, b, t, h, h'⟩
  · exact string_root c s _ w h.1 h.2.1 h.2.2
  · exact string_child c b s t w h.1 h'.1 h.2.1 h.2.2 h'.2.1 h'.2.2
end Go.Proofs.YtefnfcpekiaenaaDoor
