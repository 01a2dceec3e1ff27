/- What every walk of this seat uses of memory: that nothing which lay when the call began has turned; that the table of the powers of ten still reads as it did; strconv.Itoa returns a short text. Condition of the last: that table. -/
import Derived.Test.YtefnfcpekiaenaaDoorNeg
import Derived.Lib.LaidTab
import Derived.Lib.ItoaLen
import Derived.Lib.AppendIntMem
import Derived.WalkSmall
namespace Go.Proofs.YtefnfcpekiaenaaDoor
open Go.RowKit

theorem b0_refl (w : World) : Below w.heap.size w w := Below.refl _ w
theorem b0_alloc {w a : World} (h : Below w.heap.size w a) (o : Obj) : Below w.heap.size w (a.alloc o) := h.alloc h.size o
theorem b0_drew {w a : World} (h : Below w.heap.size w a) : Below w.heap.size w a.drew := h.drew
theorem b0_drewN {w a : World} (h : Below w.heap.size w a) (n : Nat) : Below w.heap.size w (a.drewN n) := h.trans ⟨rfl, rfl, rfl, Nat.le_refl _, fun _ _ => rfl⟩
theorem b0_then {w a b : World} (h : Below w.heap.size w a) (k : Below a.heap.size a b) : Below w.heap.size w b := h.trans (k.mono h.size)
theorem b0_set {w a b : World} (h : Below w.heap.size w a) (k : Below a.heap.size a b) {g i : Nat} (hg : a.heap.size ≤ g) (v : Value) : Below w.heap.size w (b.setCell ⟨g, i, none⟩ v) :=
  (b0_then h k).setCell (p := ⟨g, i, none⟩) (Nat.le_trans h.size hg) v

theorem path_new {W : World} {k : Nat} {s : ByteArray} (hk : k = W.heap.size) (h0 : 0 < s.size) (h1 : s.size ≤ 100) : PathOk (W.alloc (.cells #[.string s, .string ⟨#[]⟩, .pointer none] 73)) k := by
  subst hk
  exact .inl ⟨s, heap_alloc_new _ _, h0, h1⟩
theorem PathOk.drew {W : World} {k : Nat} (h : PathOk W k) : PathOk W.drew k := h

/-- The table of the powers of ten, as strconv's numerals read it. -/
def Pow10 (w : World) : Prop := Lib.TabIs Tryd.prog w "internal/strconv.uint64pow10" .u64 Lib.pow10Tab
theorem gPow10 : Tryd.prog.globalNamed "internal/strconv.uint64pow10" = some 2 := by kernel_rfl
theorem Pow10.lt {w : World} (h : Pow10 w) : 2 < w.heap.size := by
  unfold Pow10 Lib.TabIs World.var? at h
  rw [gPow10] at h
  rcases Nat.lt_or_ge 2 w.heap.size with h' | h'
  · exact h'
  · simp [Array.getElem?_eq_none h'] at h
theorem Pow10.below {w w' : World} (h : Pow10 w) (hb : Below w.heap.size w w') : Pow10 w' := var?_below hb gPow10 h.lt h

/-- It returns a short text; nothing that lay has turned. -/
def ShortText (w : World) (e : Ending) (w' : World) : Prop := ∃ u : ByteArray, e = .returned (.string u) ∧ u.size ≤ 100 ∧ Below w.heap.size w w'

theorem itoa_any (n : Int) (w : World) (h0 : -9223372036854775808 ≤ n) (h1 : n ≤ 9223372036854775807) (ht : Pow10 w) : Calls Tryd.prog 56 #[.int .i64 n] w (ShortText w) := by
  refine (Tryd.strconv_Itoa n h0 h1 w ht).mono ?_
  rintro e w1 ⟨rfl, k, os, rfl⟩
  refine ⟨_, rfl, ?_, Lib.below_grow _ _ (Nat.le_refl _) _ _⟩
  have := Lib.itoa_length_le n h0 h1
  simp [ByteArray.size]
  omega

end Go.Proofs.YtefnfcpekiaenaaDoor
