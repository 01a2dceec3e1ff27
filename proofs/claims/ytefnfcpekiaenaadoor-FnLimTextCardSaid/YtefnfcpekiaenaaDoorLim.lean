/- The errors of limits (too many, too few, too long, too short), MinItems, MaxItems, Minimum and Maximum, and LimitBad at a number. Conditions: the path's shape; the table of the powers of ten reads as Go's own text lays it. -/
import Derived.Test.YtefnfcpekiaenaaDoorFrame
import Derived.Deep.RegionHeld3
import Derived.Lib.SlBytesConst
namespace Go.Proofs.YtefnfcpekiaenaaDoor
open Go.RowKit

set_option maxRecDepth 100000 in
theorem tooShort_any (c : Nat) (s : ByteArray) (m : Int) (w : World) (h : PathOk w c) (m0 : -9223372036854775808 ≤ m) (m1 : m ≤ 9223372036854775807) (ht : Pow10 w) :
    Calls Tryd.prog 49 #[.pointer (some ⟨c, 0, none⟩), .string s, .int .i64 m] w (NewErr w) := by
  have H := Lib.hid h
  have HT := Lib.hid ht
  have HM := Lib.hid (And.intro m0 m1)
  clear h ht m0 m1
  by_cases h0 : 0 ≤ m
  · by_cases h1 : m = 1
    · have HM1 := Lib.hid h1
      have h2 : (m == 1) = true := by simpa using h1
      clear h1
      go_enter Tryd.func49, Tryd.ntmps49
      go_wp2_with fail
      refine (itoa_any m w HM.out.1 HM.out.2 HT.out).mono ?_
      rintro e w1 ⟨u, rfl, hu, hb⟩
      have HB := Lib.hid hb
      clear hb
      go_wp2_with fail
      refine (path_string c w1 (H.out.below HB.out (Nat.le_refl _))).mono ?_
      rintro e w2 ⟨u2, rfl, hb2⟩
      have HB2 := Lib.hid (b0_then HB.out hb2)
      clear hb2
      go_wp2_with fail
      go_ret
      exact newErr_mk HB2.out _ _ _ _ _ _ _ _ _ _
    · have h2 : (m == 1) = false := by simpa using h1
      clear h1
      go_enter Tryd.func49, Tryd.ntmps49
      go_wp2_with fail
      refine (itoa_any m w HM.out.1 HM.out.2 HT.out).mono ?_
      rintro e w1 ⟨u, rfl, hu, hb⟩
      have HB := Lib.hid hb
      clear hb
      go_wp2_with fail
      refine (path_string c w1 (H.out.below HB.out (Nat.le_refl _))).mono ?_
      rintro e w2 ⟨u2, rfl, hb2⟩
      have HB2 := Lib.hid (b0_then HB.out hb2)
      clear hb2
      go_wp2_with fail
      go_ret
      exact newErr_mk HB2.out _ _ _ _ _ _ _ _ _ _
  · go_enter Tryd.func49, Tryd.ntmps49
    go_wp2_with fail
    refine (path_string c w H.out).mono ?_
    rintro e w2 ⟨u2, rfl, hb2⟩
    have HB2 := Lib.hid hb2
    clear hb2
    go_wp2_with fail
    go_ret
    exact newErr_mk HB2.out _ _ _ _ _ _ _ _ _ _

set_option maxRecDepth 100000 in
theorem tooLongChars_any (c : Nat) (s : ByteArray) (m : Int) (w : World) (h : PathOk w c) (m0 : -9223372036854775808 ≤ m) (m1 : m ≤ 9223372036854775807) (ht : Pow10 w) :
    Calls Tryd.prog 50 #[.pointer (some ⟨c, 0, none⟩), .string s, .int .i64 m] w (NewErr w) := by
  have H := Lib.hid h
  have HT := Lib.hid ht
  have HM := Lib.hid (And.intro m0 m1)
  clear h ht m0 m1
  by_cases h0 : 0 ≤ m
  · by_cases h1 : m = 1
    · have HM1 := Lib.hid h1
      have h2 : (m == 1) = true := by simpa using h1
      clear h1
      go_enter Tryd.func50, Tryd.ntmps50
      go_wp2_with fail
      refine (itoa_any m w HM.out.1 HM.out.2 HT.out).mono ?_
      rintro e w1 ⟨u, rfl, hu, hb⟩
      have HB := Lib.hid hb
      clear hb
      go_wp2_with fail
      refine (path_string c w1 (H.out.below HB.out (Nat.le_refl _))).mono ?_
      rintro e w2 ⟨u2, rfl, hb2⟩
      have HB2 := Lib.hid (b0_then HB.out hb2)
      clear hb2
      go_wp2_with fail
      go_ret
      exact newErr_mk HB2.out _ _ _ _ _ _ _ _ _ _
    · have h2 : (m == 1) = false := by simpa using h1
      clear h1
      go_enter Tryd.func50, Tryd.ntmps50
      go_wp2_with fail
      refine (itoa_any m w HM.out.1 HM.out.2 HT.out).mono ?_
      rintro e w1 ⟨u, rfl, hu, hb⟩
      have HB := Lib.hid hb
      clear hb
      go_wp2_with fail
      refine (path_string c w1 (H.out.below HB.out (Nat.le_refl _))).mono ?_
      rintro e w2 ⟨u2, rfl, hb2⟩
      have HB2 := Lib.hid (b0_then HB.out hb2)
      clear hb2
      go_wp2_with fail
      go_ret
      exact newErr_mk HB2.out _ _ _ _ _ _ _ _ _ _
  · go_enter Tryd.func50, Tryd.ntmps50
    go_wp2_with fail
    refine (path_string c w H.out).mono ?_
    rintro e w2 ⟨u2, rfl, hb2⟩
    have HB2 := Lib.hid hb2
    clear hb2
    go_wp2_with fail
    go_ret
    exact newErr_mk HB2.out _ _ _ _ _ _ _ _ _ _

set_option maxRecDepth 100000 in
theorem tooLong_any (c : Nat) (T : TypeId) (v : Value) (m : Int) (w : World) (h : PathOk w c) (m0 : -9223372036854775808 ≤ m) (m1 : m ≤ 9223372036854775807) (ht : Pow10 w) :
    Calls Tryd.prog 51 #[.pointer (some ⟨c, 0, none⟩), .iface T v, .int .i64 m] w (NewErr w) := by
  have H := Lib.hid h
  have HT := Lib.hid ht
  have HM := Lib.hid (And.intro m0 m1)
  clear h ht m0 m1
  by_cases h0 : 0 ≤ m
  · by_cases h1 : m = 1
    · have HM1 := Lib.hid h1
      have h2 : (m == 1) = true := by simpa using h1
      clear h1
      go_enter Tryd.func51, Tryd.ntmps51
      go_wp2_with fail
      refine (itoa_any m w HM.out.1 HM.out.2 HT.out).mono ?_
      rintro e w1 ⟨u, rfl, hu, hb⟩
      have HB := Lib.hid hb
      clear hb
      go_wp2_with fail
      refine (path_string c w1 (H.out.below HB.out (Nat.le_refl _))).mono ?_
      rintro e w2 ⟨u2, rfl, hb2⟩
      have HB2 := Lib.hid (b0_then HB.out hb2)
      clear hb2
      go_wp2_with fail
      go_ret
      exact newErr_mk HB2.out _ _ _ _ _ _ _ _ _ _
    · have h2 : (m == 1) = false := by simpa using h1
      clear h1
      go_enter Tryd.func51, Tryd.ntmps51
      go_wp2_with fail
      refine (itoa_any m w HM.out.1 HM.out.2 HT.out).mono ?_
      rintro e w1 ⟨u, rfl, hu, hb⟩
      have HB := Lib.hid hb
      clear hb
      go_wp2_with fail
      refine (path_string c w1 (H.out.below HB.out (Nat.le_refl _))).mono ?_
      rintro e w2 ⟨u2, rfl, hb2⟩
      have HB2 := Lib.hid (b0_then HB.out hb2)
      clear hb2
      go_wp2_with fail
      go_ret
      exact newErr_mk HB2.out _ _ _ _ _ _ _ _ _ _
  · go_enter Tryd.func51, Tryd.ntmps51
    go_wp2_with fail
    refine (path_string c w H.out).mono ?_
    rintro e w2 ⟨u2, rfl, hb2⟩
    have HB2 := Lib.hid hb2
    clear hb2
    go_wp2_with fail
    go_ret
    exact newErr_mk HB2.out _ _ _ _ _ _ _ _ _ _

set_option maxRecDepth 100000 in
theorem tooFew_any (c : Nat) (a : Int) (m : Int) (w : World) (h : PathOk w c) (m0 : -9223372036854775808 ≤ m) (m1 : m ≤ 9223372036854775807) (ht : Pow10 w) :
    Calls Tryd.prog 52 #[.pointer (some ⟨c, 0, none⟩), .int .i64 a, .int .i64 m] w (NewErr w) := by
  have H := Lib.hid h
  have HT := Lib.hid ht
  have HM := Lib.hid (And.intro m0 m1)
  clear h ht m0 m1
  by_cases h0 : 0 ≤ m
  · by_cases h1 : m = 1
    · have HM1 := Lib.hid h1
      have h2 : (m == 1) = true := by simpa using h1
      clear h1
      go_enter Tryd.func52, Tryd.ntmps52
      go_wp2_with fail
      refine (itoa_any m w HM.out.1 HM.out.2 HT.out).mono ?_
      rintro e w1 ⟨u, rfl, hu, hb⟩
      have HB := Lib.hid hb
      clear hb
      go_wp2_with fail
      refine (path_string c w1 (H.out.below HB.out (Nat.le_refl _))).mono ?_
      rintro e w2 ⟨u2, rfl, hb2⟩
      have HB2 := Lib.hid (b0_then HB.out hb2)
      clear hb2
      go_wp2_with fail
      go_ret
      exact newErr_mk HB2.out _ _ _ _ _ _ _ _ _ _
    · have h2 : (m == 1) = false := by simpa using h1
      clear h1
      go_enter Tryd.func52, Tryd.ntmps52
      go_wp2_with fail
      refine (itoa_any m w HM.out.1 HM.out.2 HT.out).mono ?_
      rintro e w1 ⟨u, rfl, hu, hb⟩
      have HB := Lib.hid hb
      clear hb
      go_wp2_with fail
      refine (path_string c w1 (H.out.below HB.out (Nat.le_refl _))).mono ?_
      rintro e w2 ⟨u2, rfl, hb2⟩
      have HB2 := Lib.hid (b0_then HB.out hb2)
      clear hb2
      go_wp2_with fail
      go_ret
      exact newErr_mk HB2.out _ _ _ _ _ _ _ _ _ _
  · go_enter Tryd.func52, Tryd.ntmps52
    go_wp2_with fail
    refine (path_string c w H.out).mono ?_
    rintro e w2 ⟨u2, rfl, hb2⟩
    have HB2 := Lib.hid hb2
    clear hb2
    go_wp2_with fail
    go_ret
    exact newErr_mk HB2.out _ _ _ _ _ _ _ _ _ _

set_option maxRecDepth 100000 in
theorem tooMany_any (c : Nat) (a : Int) (m : Int) (w : World) (h : PathOk w c) (m0 : -9223372036854775808 ≤ m) (m1 : m ≤ 9223372036854775807) (ht : Pow10 w) (ha : 0 ≤ a) :
    Calls Tryd.prog 53 #[.pointer (some ⟨c, 0, none⟩), .int .i64 a, .int .i64 m] w (NewErr w) := by
  have H := Lib.hid h
  have HT := Lib.hid ht
  have HM := Lib.hid (And.intro m0 m1)
  clear h ht m0 m1
  by_cases h0 : 0 ≤ m
  · by_cases h1 : m = 1
    · have HM1 := Lib.hid h1
      have h2 : (m == 1) = true := by simpa using h1
      clear h1
      go_enter Tryd.func53, Tryd.ntmps53
      go_wp2_with fail
      refine (itoa_any m w HM.out.1 HM.out.2 HT.out).mono ?_
      rintro e w1 ⟨u, rfl, hu, hb⟩
      have HB := Lib.hid hb
      clear hb
      go_wp2_with fail
      refine (path_string c w1 (H.out.below HB.out (Nat.le_refl _))).mono ?_
      rintro e w2 ⟨u2, rfl, hb2⟩
      have HB2 := Lib.hid (b0_then HB.out hb2)
      clear hb2
      go_wp2_with fail
      go_ret
      exact newErr_mk HB2.out _ _ _ _ _ _ _ _ _ _
    · have h2 : (m == 1) = false := by simpa using h1
      clear h1
      go_enter Tryd.func53, Tryd.ntmps53
      go_wp2_with fail
      refine (itoa_any m w HM.out.1 HM.out.2 HT.out).mono ?_
      rintro e w1 ⟨u, rfl, hu, hb⟩
      have HB := Lib.hid hb
      clear hb
      go_wp2_with fail
      refine (path_string c w1 (H.out.below HB.out (Nat.le_refl _))).mono ?_
      rintro e w2 ⟨u2, rfl, hb2⟩
      have HB2 := Lib.hid (b0_then HB.out hb2)
      clear hb2
      go_wp2_with fail
      go_ret
      exact newErr_mk HB2.out _ _ _ _ _ _ _ _ _ _
  · go_enter Tryd.func53, Tryd.ntmps53
    go_wp2_with fail
    refine (path_string c w H.out).mono ?_
    rintro e w2 ⟨u2, rfl, hb2⟩
    have HB2 := Lib.hid hb2
    clear hb2
    go_wp2_with fail
    go_ret
    exact newErr_mk HB2.out _ _ _ _ _ _ _ _ _ _

/-- A number that an int holds. -/
def Fits (n : Int) : Prop := -9223372036854775808 ≤ n ∧ n ≤ 9223372036854775807

theorem formatInt_any (n : Int) (w : World) (h0 : -9223372036854775808 ≤ n) (h1 : n ≤ 9223372036854775807) (ht : Pow10 w) : Calls Tryd.prog 57 #[.int .i64 n, .int .i64 10] w (ShortText w) := by
  refine (Tryd.strconv_FormatInt_10 n h0 h1 w ht).mono ?_
  rintro e w1 ⟨rfl, k, os, rfl⟩
  refine ⟨_, rfl, ?_, Lib.below_grow _ _ (Nat.le_refl _) _ _⟩
  have := Lib.itoa_length_le n h0 h1
  simp [ByteArray.size]
  omega

set_option maxRecDepth 100000 in
theorem minItems_ok (p : Value) (A : Option Addr) (n cc : Nat) (m : Int) (w : World) (h : m ≤ (n : Int)) : Calls Tryd.prog 37 #[.nilIface, .agg #[.int .u32 0, .map none, .slice none 0 0], p, .slice A n cc, .slice none 0 0, .int .i64 m] w (Errs 0 w) := by
  go_enter Tryd.func37, Tryd.ntmps37
  go_wp2_with fail
  go_ret
  exact ⟨_, _, rfl, b0_alloc (b0_refl w) _⟩

set_option maxRecDepth 100000 in
theorem minItems_bad (c : Nat) (A : Option Addr) (n cc : Nat) (m : Int) (w : World) (h : (n : Int) < m) (hp : PathOk w c) (fm : Fits m) (ht : Pow10 w) : Calls Tryd.prog 37 #[.nilIface, .agg #[.int .u32 0, .map none, .slice none 0 0], .pointer (some ⟨c, 0, none⟩), .slice A n cc, .slice none 0 0, .int .i64 m] w (Errs 1 w) := by
  have HP := Lib.hid hp
  have HT := Lib.hid ht
  have HM := Lib.hid fm
  clear hp ht fm
  go_enter Tryd.func37, Tryd.ntmps37
  go_wp2_with fail
  refine (tooFew_any c _ m _ (HP.out.below (b0_alloc (b0_refl w) _) (Nat.le_refl _)) HM.out.1 HM.out.2 (HT.out.below (b0_alloc (b0_refl w) _))).mono ?_
  rintro e w1 ⟨g1, rfl, hg0, hg1, hc, hf, hb⟩
  have hsz := hb.size
  go_wp2_with fail
  refine (withOrigin_any g1 _ _ hc hf).mono ?_
  rintro e w2 ⟨rfl, rfl⟩
  have hB := b0_set (i := 4) (b0_alloc (b0_refl w) (.cells #[.int .u32 0, .map none, .slice none 0 0] 50)) hb hg0 (.string ⟨#[109, 105, 110, 73, 116, 101, 109, 115]⟩)
  generalize w1.setCell ⟨g1, 4, none⟩ (.string ⟨#[109, 105, 110, 73, 116, 101, 109, 115]⟩) = w2 at *
  have HB := Lib.hid hB
  clear hb hc hf hB hg0 hg1 hsz
  go_wp2_with fail
  go_ret
  exact ⟨_, _, rfl, b0_alloc HB.out _⟩

set_option maxRecDepth 100000 in
theorem maxItems_ok (p : Value) (A : Option Addr) (n cc : Nat) (m : Int) (w : World) (h : (n : Int) ≤ m) : Calls Tryd.prog 38 #[.nilIface, .agg #[.int .u32 0, .map none, .slice none 0 0], p, .slice A n cc, .slice none 0 0, .int .i64 m] w (Errs 0 w) := by
  go_enter Tryd.func38, Tryd.ntmps38
  go_wp2_with fail
  go_ret
  exact ⟨_, _, rfl, b0_alloc (b0_refl w) _⟩

set_option maxRecDepth 100000 in
theorem maxItems_bad (c : Nat) (A : Option Addr) (n cc : Nat) (m : Int) (w : World) (h : m < (n : Int)) (hp : PathOk w c) (fm : Fits m) (ht : Pow10 w) : Calls Tryd.prog 38 #[.nilIface, .agg #[.int .u32 0, .map none, .slice none 0 0], .pointer (some ⟨c, 0, none⟩), .slice A n cc, .slice none 0 0, .int .i64 m] w (Errs 1 w) := by
  have HP := Lib.hid hp
  have HT := Lib.hid ht
  have HM := Lib.hid fm
  clear hp ht fm
  go_enter Tryd.func38, Tryd.ntmps38
  go_wp2_with fail
  refine (tooMany_any c _ m _ (HP.out.below (b0_alloc (b0_refl w) _) (Nat.le_refl _)) HM.out.1 HM.out.2 (HT.out.below (b0_alloc (b0_refl w) _)) (by omega)).mono ?_
  rintro e w1 ⟨g1, rfl, hg0, hg1, hc, hf, hb⟩
  have hsz := hb.size
  go_wp2_with fail
  refine (withOrigin_any g1 _ _ hc hf).mono ?_
  rintro e w2 ⟨rfl, rfl⟩
  have hB := b0_set (i := 4) (b0_alloc (b0_refl w) (.cells #[.int .u32 0, .map none, .slice none 0 0] 50)) hb hg0 (.string ⟨#[109, 97, 120, 73, 116, 101, 109, 115]⟩)
  generalize w1.setCell ⟨g1, 4, none⟩ (.string ⟨#[109, 97, 120, 73, 116, 101, 109, 115]⟩) = w2 at *
  have HB := Lib.hid hB
  clear hb hc hf hB hg0 hg1 hsz
  go_wp2_with fail
  go_ret
  exact ⟨_, _, rfl, b0_alloc HB.out _⟩

set_option maxRecDepth 100000 in
theorem minError_any (m : Int) (w : World) (fm : Fits m) (ht : Pow10 w) : Calls Tryd.prog 45 #[.int .i64 m] w (SomeText w) := by
  have HT := Lib.hid ht
  have HM := Lib.hid fm
  clear ht fm
  go_enter Tryd.func45, Tryd.ntmps45
  go_wp2_with fail
  refine (formatInt_any m w HM.out.1 HM.out.2 HT.out).mono ?_
  rintro e w1 ⟨u, rfl, hu, hb⟩
  have HB := Lib.hid hb
  clear hb
  go_wp2_with fail
  go_ret
  exact ⟨_, rfl, HB.out⟩

set_option maxRecDepth 100000 in
theorem maxError_any (m : Int) (w : World) (fm : Fits m) (ht : Pow10 w) : Calls Tryd.prog 46 #[.int .i64 m] w (SomeText w) := by
  have HT := Lib.hid ht
  have HM := Lib.hid fm
  clear ht fm
  go_enter Tryd.func46, Tryd.ntmps46
  go_wp2_with fail
  refine (formatInt_any m w HM.out.1 HM.out.2 HT.out).mono ?_
  rintro e w1 ⟨u, rfl, hu, hb⟩
  have HB := Lib.hid hb
  clear hb
  go_wp2_with fail
  go_ret
  exact ⟨_, rfl, HB.out⟩

set_option maxRecDepth 100000 in
theorem minimum_ok (p : Value) (g : Nat) (a m : Int) (w : World) (hg : w.cell? ⟨g, 0, none⟩ = some (.int .i64 a)) (h : m ≤ a) :
    Calls Tryd.prog 32 #[.nilIface, .agg #[.int .u32 0, .map none, .slice none 0 0], p, .pointer (some ⟨g, 0, none⟩), .pointer none, .int .i64 m] w (Errs 0 w) := by
  have hlg : g < w.heap.size := World.block_lt_of_cell? w _ hg
  have c1 : (w.alloc (.cells #[.int .u32 0, .map none, .slice none 0 0] 50)).cell? ⟨g, 0, none⟩ = some (.int .i64 a) := by rw [World.cell?_alloc_lt _ _ _ hlg]; exact hg
  go_enter Tryd.func32, Tryd.ntmps32
  go_wp2_with fail
  go_ret
  exact ⟨_, _, rfl, b0_alloc (b0_refl w) _⟩

set_option maxRecDepth 100000 in
theorem minimum_bad (c : Nat) (g : Nat) (a m : Int) (w : World) (hg : w.cell? ⟨g, 0, none⟩ = some (.int .i64 a)) (h : a < m) (hp : PathOk w c) (fm : Fits m) (ht : Pow10 w) :
    Calls Tryd.prog 32 #[.nilIface, .agg #[.int .u32 0, .map none, .slice none 0 0], .pointer (some ⟨c, 0, none⟩), .pointer (some ⟨g, 0, none⟩), .pointer none, .int .i64 m] w (Errs 1 w) := by
  have HP := Lib.hid hp
  have HT := Lib.hid ht
  have HM := Lib.hid fm
  have hlg : g < w.heap.size := World.block_lt_of_cell? w _ hg
  have c1 : (w.alloc (.cells #[.int .u32 0, .map none, .slice none 0 0] 50)).cell? ⟨g, 0, none⟩ = some (.int .i64 a) := by rw [World.cell?_alloc_lt _ _ _ hlg]; exact hg
  have hB0 := Lib.hid (b0_alloc (b0_refl w) (.cells #[.int .u32 0, .map none, .slice none 0 0] 50))
  clear hp ht fm hg
  go_enter Tryd.func32, Tryd.ntmps32
  go_wp2_with fail
  go_region_held3 (fun w' => w'.cell? ⟨g, 0, none⟩ = some (.int .i64 a)) (first | assumption | go_keep)
    (first
      | (go_at_call 45; refine (minError_any m _ HM.out (by exact HT.out.below (b0_drew hB0.out))).mono ?_; rintro e w1 ⟨u, rfl, hb⟩; have HB1 := Lib.hid (b0_then (b0_drew hB0.out) hb); have c2 := (hb.cell (p := ⟨g, 0, none⟩) (by simp; omega)).trans c1; clear hb)
      | (go_at_call 39; refine (invalid_any c _ _ _ w1 (HP.out.below HB1.out (Nat.le_refl _))).mono ?_; rintro e w2 ⟨g1, rfl, hg0, hg1, hc, hf, hb⟩; have HB2 := Lib.hid (b0_then HB1.out hb); have c3 := (hb.cell (p := ⟨g, 0, none⟩) (by have := HB1.out.size; simp; omega)).trans c2; have HSET := Lib.hid (b0_set (i := 4) HB1.out hb hg0 (.string ⟨#[109, 105, 110, 105, 109, 117, 109]⟩)); have hs1 := HB1.out.size; have HC := Lib.hid hc; have HF := Lib.hid hf; clear hb hc hf)
      | (go_at_call 40; refine (withOrigin_any g1 _ _ HC.out HF.out).mono ?_; rintro e w3 ⟨rfl, rfl⟩; have c4 : (w2.setCell ⟨g1, 4, none⟩ (.string ⟨#[109, 105, 110, 105, 109, 117, 109]⟩)).cell? ⟨g, 0, none⟩ = some (.int .i64 a) := (World.cell?_setCell_other _ _ _ _ (by intro e; injection e; omega)).trans c3))
  go_wp2_with fail
  go_ret
  exact ⟨_, _, rfl, b0_alloc HSET.out _⟩

set_option maxRecDepth 100000 in
theorem maximum_ok (p : Value) (g : Nat) (a m : Int) (w : World) (hg : w.cell? ⟨g, 0, none⟩ = some (.int .i64 a)) (h : a ≤ m) :
    Calls Tryd.prog 33 #[.nilIface, .agg #[.int .u32 0, .map none, .slice none 0 0], p, .pointer (some ⟨g, 0, none⟩), .pointer none, .int .i64 m] w (Errs 0 w) := by
  have hlg : g < w.heap.size := World.block_lt_of_cell? w _ hg
  have c1 : (w.alloc (.cells #[.int .u32 0, .map none, .slice none 0 0] 50)).cell? ⟨g, 0, none⟩ = some (.int .i64 a) := by rw [World.cell?_alloc_lt _ _ _ hlg]; exact hg
  go_enter Tryd.func33, Tryd.ntmps33
  go_wp2_with fail
  go_ret
  exact ⟨_, _, rfl, b0_alloc (b0_refl w) _⟩

set_option maxRecDepth 100000 in
theorem maximum_bad (c : Nat) (g : Nat) (a m : Int) (w : World) (hg : w.cell? ⟨g, 0, none⟩ = some (.int .i64 a)) (h : m < a) (hp : PathOk w c) (fm : Fits m) (ht : Pow10 w) :
    Calls Tryd.prog 33 #[.nilIface, .agg #[.int .u32 0, .map none, .slice none 0 0], .pointer (some ⟨c, 0, none⟩), .pointer (some ⟨g, 0, none⟩), .pointer none, .int .i64 m] w (Errs 1 w) := by
  have HP := Lib.hid hp
  have HT := Lib.hid ht
  have HM := Lib.hid fm
  have hlg : g < w.heap.size := World.block_lt_of_cell? w _ hg
  have c1 : (w.alloc (.cells #[.int .u32 0, .map none, .slice none 0 0] 50)).cell? ⟨g, 0, none⟩ = some (.int .i64 a) := by rw [World.cell?_alloc_lt _ _ _ hlg]; exact hg
  have hB0 := Lib.hid (b0_alloc (b0_refl w) (.cells #[.int .u32 0, .map none, .slice none 0 0] 50))
  clear hp ht fm hg
  go_enter Tryd.func33, Tryd.ntmps33
  go_wp2_with fail
  go_region_held3 (fun w' => w'.cell? ⟨g, 0, none⟩ = some (.int .i64 a)) (first | assumption | go_keep)
    (first
      | (go_at_call 46; refine (maxError_any m _ HM.out (by exact HT.out.below (b0_drew hB0.out))).mono ?_; rintro e w1 ⟨u, rfl, hb⟩; have HB1 := Lib.hid (b0_then (b0_drew hB0.out) hb); have c2 := (hb.cell (p := ⟨g, 0, none⟩) (by simp; omega)).trans c1; clear hb)
      | (go_at_call 39; refine (invalid_any c _ _ _ w1 (HP.out.below HB1.out (Nat.le_refl _))).mono ?_; rintro e w2 ⟨g1, rfl, hg0, hg1, hc, hf, hb⟩; have HB2 := Lib.hid (b0_then HB1.out hb); have c3 := (hb.cell (p := ⟨g, 0, none⟩) (by have := HB1.out.size; simp; omega)).trans c2; have HSET := Lib.hid (b0_set (i := 4) HB1.out hb hg0 (.string ⟨#[109, 97, 120, 105, 109, 117, 109]⟩)); have hs1 := HB1.out.size; have HC := Lib.hid hc; have HF := Lib.hid hf; clear hb hc hf)
      | (go_at_call 40; refine (withOrigin_any g1 _ _ HC.out HF.out).mono ?_; rintro e w3 ⟨rfl, rfl⟩; have c4 : (w2.setCell ⟨g1, 4, none⟩ (.string ⟨#[109, 97, 120, 105, 109, 117, 109]⟩)).cell? ⟨g, 0, none⟩ = some (.int .i64 a) := (World.cell?_setCell_other _ _ _ _ (by intro e; injection e; omega)).trans c3))
  go_wp2_with fail
  go_ret
  exact ⟨_, _, rfl, b0_alloc HSET.out _⟩

/-- The world in which LimitBad calls its check: the two boxes, the operation, the path. -/
def Called (w : World) (s : ByteArray) (n : Int) : World := (((w.alloc (.cells #[.string s] 9)).alloc (.cells #[.int .i64 n] 3)).alloc (.cells #[.int .u32 0, .map none, .slice none 0 0] 50)).alloc (.cells #[.string ⟨#[120]⟩, .string ⟨#[]⟩, .pointer none] 73)
theorem Called.below (w : World) (s : ByteArray) (n : Int) : Below w.heap.size w (Called w s n) := b0_alloc (b0_alloc (b0_alloc (b0_alloc (b0_refl w) _) _) _) _
theorem Called.path (w : World) (s : ByteArray) (n : Int) : PathOk (Called w s n) (w.heap.size + 1 + 1 + 1) := path_new (by simp) (by decide) (by decide)

set_option maxRecDepth 100000 in
theorem limitBad_0_ok (s : ByteArray) (n m : Int) (w : World) (h : m ≤ n) : Calls Tryd.prog 19 #[.int .i64 0, .string s, .int .i64 n, .int .i64 m] w (Bads 0 w) := by
  go_enter Tryd.func19, Tryd.ntmps19
  go_wp2_with fail
  refine (newPath_any _ _).mono ?_
  rintro e w1 ⟨rfl, rfl⟩
  go_wp2_with fail
  refine (minimum_ok _ _ n m _ (by go_simp) h).mono ?_
  rintro e w2 ⟨a2, c2, rfl, hb⟩
  have HB := Lib.hid (b0_then (Called.below w s n) hb)
  clear hb
  go_wp2_with fail
  go_ret
  exact ⟨rfl, HB.out⟩

set_option maxRecDepth 100000 in
theorem limitBad_0_bad (s : ByteArray) (n m : Int) (w : World) (h : n < m) (fm : Fits m) (ht : Pow10 w) : Calls Tryd.prog 19 #[.int .i64 0, .string s, .int .i64 n, .int .i64 m] w (Bads 1 w) := by
  have HT := Lib.hid ht
  have HM := Lib.hid fm
  clear ht fm
  go_enter Tryd.func19, Tryd.ntmps19
  go_wp2_with fail
  refine (newPath_any _ _).mono ?_
  rintro e w1 ⟨rfl, rfl⟩
  go_wp2_with fail
  refine (minimum_bad _ _ n m _ (by go_simp) h (by exact Called.path w s n) HM.out (by exact HT.out.below (Called.below w s n))).mono ?_
  rintro e w2 ⟨a2, c2, rfl, hb⟩
  have HB := Lib.hid (b0_then (Called.below w s n) hb)
  clear hb
  go_wp2_with fail
  go_ret
  exact ⟨rfl, HB.out⟩

set_option maxRecDepth 100000 in
theorem limitBad_1_ok (s : ByteArray) (n m : Int) (w : World) (h : n ≤ m) : Calls Tryd.prog 19 #[.int .i64 1, .string s, .int .i64 n, .int .i64 m] w (Bads 0 w) := by
  go_enter Tryd.func19, Tryd.ntmps19
  go_wp2_with fail
  refine (newPath_any _ _).mono ?_
  rintro e w1 ⟨rfl, rfl⟩
  go_wp2_with fail
  refine (maximum_ok _ _ n m _ (by go_simp) h).mono ?_
  rintro e w2 ⟨a2, c2, rfl, hb⟩
  have HB := Lib.hid (b0_then (Called.below w s n) hb)
  clear hb
  go_wp2_with fail
  go_ret
  exact ⟨rfl, HB.out⟩

set_option maxRecDepth 100000 in
theorem limitBad_1_bad (s : ByteArray) (n m : Int) (w : World) (h : m < n) (fm : Fits m) (ht : Pow10 w) : Calls Tryd.prog 19 #[.int .i64 1, .string s, .int .i64 n, .int .i64 m] w (Bads 1 w) := by
  have HT := Lib.hid ht
  have HM := Lib.hid fm
  clear ht fm
  go_enter Tryd.func19, Tryd.ntmps19
  go_wp2_with fail
  refine (newPath_any _ _).mono ?_
  rintro e w1 ⟨rfl, rfl⟩
  go_wp2_with fail
  refine (maximum_bad _ _ n m _ (by go_simp) h (by exact Called.path w s n) HM.out (by exact HT.out.below (Called.below w s n))).mono ?_
  rintro e w2 ⟨a2, c2, rfl, hb⟩
  have HB := Lib.hid (b0_then (Called.below w s n) hb)
  clear hb
  go_wp2_with fail
  go_ret
  exact ⟨rfl, HB.out⟩

end Go.Proofs.YtefnfcpekiaenaaDoor
