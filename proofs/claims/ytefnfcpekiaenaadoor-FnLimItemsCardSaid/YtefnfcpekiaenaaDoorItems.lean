/- The law FnLimItems returns true for every input: MinItems and MaxItems at a list of bytes. Condition: the table of the powers of ten reads as Go's own text lays it. -/
import Derived.Test.YtefnfcpekiaenaaDoorLim
import Derived.Lib.ConvBytes
import Derived.Lib.SmallJoins
namespace Go.Proofs.YtefnfcpekiaenaaDoor
open Go.RowKit

theorem b0_bytes {w a : World} (h : Below w.heap.size w a) (s : ByteArray) : Below w.heap.size w (Lib.bytesWorld a 5 s) := h.trans (Joins.below_bytesWorld _ a 5 s h.size)
theorem cvBytes (s : ByteArray) (W : World) : (convert 9 68 (.string s)).run Tryd.prog W = .ok (.slice (some ⟨W.heap.size, 0, none⟩) s.size (grownCap W s.size 0 5)) (Lib.bytesWorld W 5 s) :=
  Lib.run_convert_string_bytes W 9 68 5 s Tryd.underlying9 Tryd.underlying68 Tryd.underlying5

set_option maxRecDepth 100000 in
theorem limitBad_5_ok (s : ByteArray) (n m : Int) (w : World) (h : m ≤ (s.size : Int)) : Calls Tryd.prog 19 #[.int .i64 5, .string s, .int .i64 n, .int .i64 m] w (Bads 0 w) := by
  have hcv := cvBytes s
  go_enter Tryd.func19, Tryd.ntmps19
  go_wp2_with fail
  refine (newPath_any _ _).mono ?_
  rintro e w1 ⟨rfl, rfl⟩
  go_wp2_with fail
  refine (minItems_ok _ _ _ _ m _ h).mono ?_
  rintro e w2 ⟨a2, c2, rfl, hb⟩
  have HB := Lib.hid (b0_then (b0_bytes (Called.below w s n) s) hb)
  clear hb
  go_wp2_with fail
  go_ret
  exact ⟨rfl, HB.out⟩

set_option maxRecDepth 100000 in
theorem limitBad_5_bad (s : ByteArray) (n m : Int) (w : World) (h : (s.size : Int) < m) (fm : Fits m) (ht : Pow10 w) : Calls Tryd.prog 19 #[.int .i64 5, .string s, .int .i64 n, .int .i64 m] w (Bads 1 w) := by
  have HT := Lib.hid ht
  have HM := Lib.hid fm
  clear ht fm
  have hcv := cvBytes s
  go_enter Tryd.func19, Tryd.ntmps19
  go_wp2_with fail
  refine (newPath_any _ _).mono ?_
  rintro e w1 ⟨rfl, rfl⟩
  go_wp2_with fail
  refine (minItems_bad _ _ _ _ m _ h (by exact (Called.path w s n).below (b0_bytes (b0_refl _) s) (Nat.le_refl _)) HM.out (by exact HT.out.below (b0_bytes (Called.below w s n) s))).mono ?_
  rintro e w2 ⟨a2, c2, rfl, hb⟩
  have HB := Lib.hid (b0_then (b0_bytes (Called.below w s n) s) hb)
  clear hb
  go_wp2_with fail
  go_ret
  exact ⟨rfl, HB.out⟩

set_option maxRecDepth 100000 in
theorem limitBad_6_ok (s : ByteArray) (n m : Int) (w : World) (h : (s.size : Int) ≤ m) : Calls Tryd.prog 19 #[.int .i64 6, .string s, .int .i64 n, .int .i64 m] w (Bads 0 w) := by
  have hcv := cvBytes s
  go_enter Tryd.func19, Tryd.ntmps19
  go_wp2_with fail
  refine (newPath_any _ _).mono ?_
  rintro e w1 ⟨rfl, rfl⟩
  go_wp2_with fail
  refine (maxItems_ok _ _ _ _ m _ h).mono ?_
  rintro e w2 ⟨a2, c2, rfl, hb⟩
  have HB := Lib.hid (b0_then (b0_bytes (Called.below w s n) s) hb)
  clear hb
  go_wp2_with fail
  go_ret
  exact ⟨rfl, HB.out⟩

set_option maxRecDepth 100000 in
theorem limitBad_6_bad (s : ByteArray) (n m : Int) (w : World) (h : m < (s.size : Int)) (fm : Fits m) (ht : Pow10 w) : Calls Tryd.prog 19 #[.int .i64 6, .string s, .int .i64 n, .int .i64 m] w (Bads 1 w) := by
  have HT := Lib.hid ht
  have HM := Lib.hid fm
  clear ht fm
  have hcv := cvBytes s
  go_enter Tryd.func19, Tryd.ntmps19
  go_wp2_with fail
  refine (newPath_any _ _).mono ?_
  rintro e w1 ⟨rfl, rfl⟩
  go_wp2_with fail
  refine (maxItems_bad _ _ _ _ m _ h (by exact (Called.path w s n).below (b0_bytes (b0_refl _) s) (Nat.le_refl _)) HM.out (by exact HT.out.below (b0_bytes (Called.below w s n) s))).mono ?_
  rintro e w2 ⟨a2, c2, rfl, hb⟩
  have HB := Lib.hid (b0_then (b0_bytes (Called.below w s n) s) hb)
  clear hb
  go_wp2_with fail
  go_ret
  exact ⟨rfl, HB.out⟩

/-- LimitBad at a list, 5: at least so many items, others: at most. -/
theorem limitBad_5 (s : ByteArray) (n m : Int) (w : World) (fm : Fits m) (ht : Pow10 w) : Calls Tryd.prog 19 #[.int .i64 5, .string s, .int .i64 n, .int .i64 m] w (Bads (if m ≤ (s.size : Int) then 0 else 1) w) := by
  by_cases h : m ≤ (s.size : Int)
  · rw [if_pos h]; exact limitBad_5_ok s n m w h
  · rw [if_neg h]; exact limitBad_5_bad s n m w (by omega) fm ht
theorem limitBad_6 (s : ByteArray) (n m : Int) (w : World) (fm : Fits m) (ht : Pow10 w) : Calls Tryd.prog 19 #[.int .i64 6, .string s, .int .i64 n, .int .i64 m] w (Bads (if (s.size : Int) ≤ m then 0 else 1) w) := by
  by_cases h : (s.size : Int) ≤ m
  · rw [if_pos h]; exact limitBad_6_ok s n m w h
  · rw [if_neg h]; exact limitBad_6_bad s n m w (by omega) fm ht

set_option maxRecDepth 100000 in
theorem fnLimItems_walk (s : ByteArray) (m : Int) (w : World) (fm : Fits m) (ht : Pow10 w) : Calls Tryd.prog 9 #[.string s, .int .i64 m] w (SaysTrue w) := by
  have HT := Lib.hid ht
  have HM := Lib.hid fm
  clear ht fm
  by_cases hs : s.size ≤ 2147483647
  · by_cases h0 : m ≤ (s.size : Int)
    · by_cases h1 : (s.size : Int) ≤ m
      · have d0 : decide (m ≤ (s.size : Int)) = true := by simp; omega
        have d1 : decide ((s.size : Int) ≤ m) = true := by simp; omega
        go_enter Tryd.func9, Tryd.ntmps9
        go_wp2_with fail
        refine (limitBad_5 s _ m w HM.out HT.out).mono ?_
        rintro e w1 ⟨rfl, hb⟩
        have HB := Lib.hid hb
        clear hb
        rw [if_pos (by omega)]
        go_wp2_with fail
        refine (limitBad_6 s _ m w1 HM.out (HT.out.below HB.out)).mono ?_
        rintro e w2 ⟨rfl, hb⟩
        have HB2 := Lib.hid (b0_then HB.out hb)
        clear hb
        rw [if_pos (by omega)]
        go_wp2_with fail
        go_ret
        exact ⟨rfl, HB2.out⟩
      · have d0 : decide (m ≤ (s.size : Int)) = true := by simp; omega
        have d1 : decide ((s.size : Int) ≤ m) = false := by simp; omega
        go_enter Tryd.func9, Tryd.ntmps9
        go_wp2_with fail
        refine (limitBad_5 s _ m w HM.out HT.out).mono ?_
        rintro e w1 ⟨rfl, hb⟩
        have HB := Lib.hid hb
        clear hb
        rw [if_pos (by omega)]
        go_wp2_with fail
        refine (limitBad_6 s _ m w1 HM.out (HT.out.below HB.out)).mono ?_
        rintro e w2 ⟨rfl, hb⟩
        have HB2 := Lib.hid (b0_then HB.out hb)
        clear hb
        rw [if_neg (by omega)]
        go_wp2_with fail
        go_ret
        exact ⟨rfl, HB2.out⟩
    · have d0 : decide (m ≤ (s.size : Int)) = false := by simp; omega
      have d1 : decide ((s.size : Int) ≤ m) = true := by simp; omega
      go_enter Tryd.func9, Tryd.ntmps9
      go_wp2_with fail
      refine (limitBad_5 s _ m w HM.out HT.out).mono ?_
      rintro e w1 ⟨rfl, hb⟩
      have HB := Lib.hid hb
      clear hb
      rw [if_neg (by omega)]
      go_wp2_with fail
      refine (limitBad_6 s _ m w1 HM.out (HT.out.below HB.out)).mono ?_
      rintro e w2 ⟨rfl, hb⟩
      have HB2 := Lib.hid (b0_then HB.out hb)
      clear hb
      rw [if_pos (by omega)]
      go_wp2_with fail
      go_ret
      exact ⟨rfl, HB2.out⟩
  · go_enter Tryd.func9, Tryd.ntmps9
    go_wp2_with fail
    go_ret
    exact ⟨rfl, b0_refl w⟩

end Go.Proofs.YtefnfcpekiaenaaDoor
