/- The errors of the package field: each constructor returns a new error, and nothing that lay in memory turns. -/
import Derived.Test.YtefnfcpekiaenaaDoorPath
namespace Go.Proofs.YtefnfcpekiaenaaDoor
open Go.RowKit

/-- It returns a pointer to a new error, whose field Origin may be written; nothing that lay has turned. -/
def NewErr (w : World) (e : Ending) (w' : World) : Prop :=
  ∃ g, e = .returned (.pointer (some ⟨g, 0, none⟩)) ∧ w.heap.size ≤ g ∧ g < w'.heap.size ∧ (∃ c, w'.cell? ⟨g, 4, none⟩ = some c) ∧ w'.frozen? ⟨g, 4, none⟩ = false ∧ Below w.heap.size w w'

theorem newErr_mk {w w1 : World} (hb : Below w.heap.size w w1) (c0 c1 c2 c3 c4 c5 c6 c7 c8 c9 : Value) :
    NewErr w (.returned (.pointer (some ⟨w1.heap.size, 0, none⟩))) (w1.alloc (.cells #[c0, c1, c2, c3, c4, c5, c6, c7, c8, c9] 86)) :=
  ⟨w1.heap.size, rfl, hb.size, by simp, ⟨c4, by rw [Lib.cell_of_heap (heap_alloc_new w1 _)]; rfl⟩, Lib.frozen_of_heap (heap_alloc_new w1 _) 4, hb.alloc hb.size _⟩

set_option maxRecDepth 100000 in
theorem invalid_any (c : Nat) (t : TypeId) (v : Value) (d : ByteArray) (w : World) (h : PathOk w c) : Calls Tryd.prog 39 #[.pointer (some ⟨c, 0, none⟩), .iface t v, .string d] w (NewErr w) := by
  go_enter Tryd.func39, Tryd.ntmps39
  go_wp2_with fail
  refine (path_string c w h).mono ?_
  rintro e w1 ⟨u, rfl, hb⟩
  go_wp2_with fail
  go_ret
  exact newErr_mk hb _ _ _ _ _ _ _ _ _ _

set_option maxRecDepth 100000 in
theorem required_any (c : Nat) (d : ByteArray) (w : World) (h : PathOk w c) : Calls Tryd.prog 41 #[.pointer (some ⟨c, 0, none⟩), .string d] w (NewErr w) := by
  go_enter Tryd.func41, Tryd.ntmps41
  go_wp2_with fail
  refine (path_string c w h).mono ?_
  rintro e w1 ⟨u, rfl, hb⟩
  go_wp2_with fail
  go_ret
  exact newErr_mk hb _ _ _ _ _ _ _ _ _ _

set_option maxRecDepth 100000 in
theorem forbidden_any (c : Nat) (d : ByteArray) (w : World) (h : PathOk w c) : Calls Tryd.prog 43 #[.pointer (some ⟨c, 0, none⟩), .string d] w (NewErr w) := by
  go_enter Tryd.func43, Tryd.ntmps43
  go_wp2_with fail
  refine (path_string c w h).mono ?_
  rintro e w1 ⟨u, rfl, hb⟩
  go_wp2_with fail
  go_ret
  exact newErr_mk hb _ _ _ _ _ _ _ _ _ _

set_option maxRecDepth 100000 in
/-- WithOrigin writes one field of a new error, and returns it. -/
theorem withOrigin_any (g : Nat) (o : ByteArray) (w : World) (hc : ∃ c, w.cell? ⟨g, 4, none⟩ = some c) (hf : w.frozen? ⟨g, 4, none⟩ = false) :
    Calls Tryd.prog 40 #[.pointer (some ⟨g, 0, none⟩), .string o] w fun e w' => e = .returned (.pointer (some ⟨g, 0, none⟩)) ∧ w.setCell ⟨g, 4, none⟩ (.string o) = w' := by
  obtain ⟨c, hc⟩ := hc
  go_enter Tryd.func40, Tryd.ntmps40
  go_wp2
  go_ret
  exact ⟨rfl, rfl⟩

set_option maxRecDepth 100000 in
/-- Root() of a path of one part: itself. -/
theorem root_any (c : Nat) (w : World) (u v : Value) (h : w.heap[c]? = some (.cells #[u, v, .pointer none] 73 (0, 0))) :
    Calls Tryd.prog 55 #[.pointer (some ⟨c, 0, none⟩)] w fun e w' => e = .returned (.pointer (some ⟨c, 0, none⟩)) ∧ w = w' := by
  obtain ⟨k0, k1, k2⟩ := blk_cells h
  go_enter Tryd.func55, Tryd.ntmps55
  go_wp2_with fail
  refine wp_loop_rounds 1 ?_
  rw [rounds_succ]
  go_wp2_with fail
  go_ret
  exact ⟨rfl, rfl⟩

set_option maxRecDepth 100000 in
/-- Child(s): a path of two parts behind one of one part. -/
theorem child_any (c : Nat) (s t : ByteArray) (w : World) (h : Node w c t (.pointer none)) (h0 : 0 < s.size) (h1 : s.size ≤ 100) :
    Calls Tryd.prog 42 #[.pointer (some ⟨c, 0, none⟩), .string s, .slice none 0 0] w fun e w' => e = .returned (.pointer (some ⟨w.heap.size, 0, none⟩)) ∧ PathOk w' w.heap.size ∧ Below w.heap.size w w' := by
  go_enter Tryd.func42, Tryd.ntmps42
  go_wp2_with fail
  refine (newPath_any s w).mono ?_
  rintro e w1 ⟨rfl, rfl⟩
  go_wp2_with fail
  refine (root_any w.heap.size _ (.string s) (.string ⟨#[]⟩) (heap_alloc_new w _)).mono ?_
  rintro e w2 ⟨rfl, rfl⟩
  have H := Lib.hid h
  clear h
  go_wp2_with fail
  go_ret
  refine ⟨rfl, ?_, ?_⟩
  · exact .inr ⟨s, c, t, ⟨heap_alloc_new _ _, h0, h1⟩, H.out.keep (heap_alloc_old _ _ H.out.lt)⟩
  · exact (Below.refl _ w).alloc (Nat.le_refl _) _

set_option maxRecDepth 100000 in
/-- NewPath(s) makes a path of one part. -/
theorem newPath_ok (s : ByteArray) (w : World) (h0 : 0 < s.size) (h1 : s.size ≤ 100) :
    Calls Tryd.prog 22 #[.string s, .slice none 0 0] w fun e w' => e = .returned (.pointer (some ⟨w.heap.size, 0, none⟩)) ∧ Node w' w.heap.size s (.pointer none) ∧ w.heap.size < w'.heap.size ∧ Below w.heap.size w w' := by
  refine (newPath_any s w).mono ?_
  rintro e w1 ⟨rfl, rfl⟩
  exact ⟨rfl, ⟨heap_alloc_new _ _, h0, h1⟩, by simp, (Below.refl _ w).alloc (Nat.le_refl _) _⟩
end Go.Proofs.YtefnfcpekiaenaaDoor
