/- The law FnLimNumber returns true for every input. Condition: the table of the powers of ten. -/
import Derived.Test.YtefnfcpekiaenaaDoorLim
namespace Go.Proofs.YtefnfcpekiaenaaDoor
open Go.RowKit

/-- LimitBad at a number, 0: the least one, 1: the greatest one. -/
theorem limitBad_0 (s : ByteArray) (n m : Int) (w : World) (fm : Fits m) (ht : Pow10 w) : Calls Tryd.prog 19 #[.int .i64 0, .string s, .int .i64 n, .int .i64 m] w (Bads (if m ≤ n then 0 else 1) w) := by
  by_cases h : m ≤ n
  · rw [if_pos h]; exact limitBad_0_ok s n m w h
  · rw [if_neg h]; exact limitBad_0_bad s n m w (by omega) fm ht
theorem limitBad_1 (s : ByteArray) (n m : Int) (w : World) (fm : Fits m) (ht : Pow10 w) : Calls Tryd.prog 19 #[.int .i64 1, .string s, .int .i64 n, .int .i64 m] w (Bads (if n ≤ m then 0 else 1) w) := by
  by_cases h : n ≤ m
  · rw [if_pos h]; exact limitBad_1_ok s n m w h
  · rw [if_neg h]; exact limitBad_1_bad s n m w (by omega) fm ht

set_option maxRecDepth 100000 in
theorem fnLimNumber_walk (n m : Int) (w : World) (fm : Fits m) (ht : Pow10 w) : Calls Tryd.prog 10 #[.int .i64 n, .int .i64 m] w (SaysTrue w) := by
  have HT := Lib.hid ht
  have HM := Lib.hid fm
  clear ht fm
  by_cases h0 : m ≤ n
  · by_cases h1 : n ≤ m
    · have d0 : decide (m ≤ n) = true := by simp; omega
      have d1 : decide (n ≤ m) = true := by simp; omega
      go_enter Tryd.func10, Tryd.ntmps10
      go_wp2_with fail
      refine (limitBad_0 _ n m w HM.out HT.out).mono ?_
      rintro e w1 ⟨rfl, hb⟩
      have HB := Lib.hid hb
      clear hb
      rw [if_pos (by omega)]
      go_wp2_with fail
      refine (limitBad_1 _ n m w1 HM.out (HT.out.below HB.out)).mono ?_
      rintro e w2 ⟨rfl, hb⟩
      have HB2 := Lib.hid (b0_then HB.out hb)
      clear hb
      rw [if_pos (by omega)]
      go_wp2_with fail
      go_ret
      exact ⟨rfl, HB2.out⟩
    · have d0 : decide (m ≤ n) = true := by simp; omega
      have d1 : decide (n ≤ m) = false := by simp; omega
      go_enter Tryd.func10, Tryd.ntmps10
      go_wp2_with fail
      refine (limitBad_0 _ n m w HM.out HT.out).mono ?_
      rintro e w1 ⟨rfl, hb⟩
      have HB := Lib.hid hb
      clear hb
      rw [if_pos (by omega)]
      go_wp2_with fail
      refine (limitBad_1 _ n m w1 HM.out (HT.out.below HB.out)).mono ?_
      rintro e w2 ⟨rfl, hb⟩
      have HB2 := Lib.hid (b0_then HB.out hb)
      clear hb
      rw [if_neg (by omega)]
      go_wp2_with fail
      go_ret
      exact ⟨rfl, HB2.out⟩
  · have d0 : decide (m ≤ n) = false := by simp; omega
    have d1 : decide (n ≤ m) = true := by simp; omega
    go_enter Tryd.func10, Tryd.ntmps10
    go_wp2_with fail
    refine (limitBad_0 _ n m w HM.out HT.out).mono ?_
    rintro e w1 ⟨rfl, hb⟩
    have HB := Lib.hid hb
    clear hb
    rw [if_neg (by omega)]
    go_wp2_with fail
    refine (limitBad_1 _ n m w1 HM.out (HT.out.below HB.out)).mono ?_
    rintro e w2 ⟨rfl, hb⟩
    have HB2 := Lib.hid (b0_then HB.out hb)
    clear hb
    rw [if_pos (by omega)]
    go_wp2_with fail
    go_ret
    exact ⟨rfl, HB2.out⟩

end Go.Proofs.YtefnfcpekiaenaaDoor
