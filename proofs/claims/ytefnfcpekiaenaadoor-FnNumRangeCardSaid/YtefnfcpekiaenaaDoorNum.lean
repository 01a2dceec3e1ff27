/- IsInRange, IsValidPortNum, IsValidUserID and IsValidGroupID have no message just for the numbers that are said, and the laws FnNumRange, FnNumPort and FnNumUser return true for every input. Condition: the table of the powers of ten reads as Go's own text lays it. -/
import Derived.Test.YtefnfcpekiaenaaDoorFrame
namespace Go.Proofs.YtefnfcpekiaenaaDoor
open Go.RowKit

set_option maxRecDepth 100000 in
theorem rangeError_any (a b : Int) (w : World) (a0 : -9223372036854775808 ≤ a) (a1 : a ≤ 9223372036854775807) (b0 : -9223372036854775808 ≤ b) (b1 : b ≤ 9223372036854775807) (ht : Pow10 w) :
    Calls Tryd.prog 44 #[.int .i64 a, .int .i64 b] w (SomeText w) := by
  have HT := Lib.hid ht
  have HA := Lib.hid (And.intro a0 a1)
  have HB := Lib.hid (And.intro b0 b1)
  clear ht a0 a1 b0 b1
  go_enter Tryd.func44, Tryd.ntmps44
  go_wp2_with fail
  refine (itoa_any a w HA.out.1 HA.out.2 HT.out).mono ?_
  rintro e w1 ⟨u, rfl, hu, hb⟩
  have HW := Lib.hid hb
  clear hb
  go_wp2_with fail
  refine (itoa_any b w1 HB.out.1 HB.out.2 (HT.out.below HW.out)).mono ?_
  rintro e w2 ⟨v, rfl, hv, hb2⟩
  have HW2 := Lib.hid hb2
  clear hb2
  go_wp2_with fail
  go_ret
  exact ⟨_, rfl, b0_then HW.out HW2.out⟩
set_option maxRecDepth 100000 in
theorem inRange_ok (n a b : Int) (w : World) (h0 : a ≤ n) (h1 : n ≤ b) : Calls Tryd.prog 28 #[.int .i64 n, .int .i64 a, .int .i64 b] w (Errs 0 w) := by
  go_enter Tryd.func28, Tryd.ntmps28
  go_wp2_with fail
  go_ret
  exact ⟨_, _, rfl, b0_refl w⟩

/-- A number that an int holds. -/
def Fits (n : Int) : Prop := -9223372036854775808 ≤ n ∧ n ≤ 9223372036854775807

set_option maxRecDepth 100000 in
theorem inRange_bad (n a b : Int) (w : World) (h : n < a ∨ b < n) (fa : Fits a) (fb : Fits b) (ht : Pow10 w) : Calls Tryd.prog 28 #[.int .i64 n, .int .i64 a, .int .i64 b] w (Errs 1 w) := by
  have HA := Lib.hid fa
  have HB := Lib.hid fb
  have HT := Lib.hid ht
  clear fa fb ht
  rcases h with h | h
  · go_enter Tryd.func28, Tryd.ntmps28
    go_wp2_with fail
    refine (rangeError_any a b w HA.out.1 HA.out.2 HB.out.1 HB.out.2 HT.out).mono ?_
    rintro e w1 ⟨u, rfl, hb⟩
    have HW := Lib.hid hb
    clear hb
    go_wp2_with fail
    go_ret
    exact ⟨_, _, rfl, b0_alloc HW.out _⟩
  · by_cases h2 : a ≤ n
    all_goals
      go_enter Tryd.func28, Tryd.ntmps28
      go_wp2_with fail
      refine (rangeError_any a b w HA.out.1 HA.out.2 HB.out.1 HB.out.2 HT.out).mono ?_
      rintro e w1 ⟨u, rfl, hb⟩
      have HW := Lib.hid hb
      clear hb
      go_wp2_with fail
      go_ret
      exact ⟨_, _, rfl, b0_alloc HW.out _⟩

set_option maxRecDepth 100000 in
theorem inRangeBad_any (n a b : Int) (w : World) (fa : Fits a) (fb : Fits b) (ht : Pow10 w) : Calls Tryd.prog 17 #[.int .i64 n, .int .i64 a, .int .i64 b] w (Bads (if a ≤ n ∧ n ≤ b then 0 else 1) w) := by
  have HA := Lib.hid fa
  have HB := Lib.hid fb
  have HT := Lib.hid ht
  clear fa fb ht
  by_cases h : a ≤ n ∧ n ≤ b
  · rw [if_pos h]
    obtain ⟨h1, h2⟩ := h
    go_enter Tryd.func17, Tryd.ntmps17
    go_wp2_with fail
    refine (inRange_ok n a b w h1 h2).mono ?_
    rintro e w1 ⟨u, c, rfl, hb⟩
    have HW := Lib.hid hb
    clear hb
    go_wp2_with fail
    go_ret
    exact ⟨rfl, HW.out⟩
  · rw [if_neg h]
    have h3 : n < a ∨ b < n := by omega
    clear h
    have H3 := Lib.hid h3
    clear h3
    go_enter Tryd.func17, Tryd.ntmps17
    go_wp2_with fail
    refine (inRange_bad n a b w H3.out HA.out HB.out HT.out).mono ?_
    rintro e w1 ⟨u, c, rfl, hb⟩
    have HW := Lib.hid hb
    clear hb
    go_wp2_with fail
    go_ret
    exact ⟨rfl, HW.out⟩

set_option maxRecDepth 100000 in
theorem fnNumRange_walk (n a b : Int) (w : World) (fa : Fits a) (fb : Fits b) (ht : Pow10 w) : Calls Tryd.prog 6 #[.int .i64 n, .int .i64 a, .int .i64 b] w (SaysTrue w) := by
  have HA := Lib.hid fa
  have HB := Lib.hid fb
  have HT := Lib.hid ht
  clear fa fb ht
  by_cases h1 : a ≤ n
  · have d1 : decide (a ≤ n) = true := by simpa using h1
    by_cases h2 : n ≤ b
    · have d2 : decide (n ≤ b) = true := by simpa using h2
      go_enter Tryd.func6, Tryd.ntmps6
      go_wp2_with fail
      refine (inRangeBad_any n a b w HA.out HB.out HT.out).mono ?_
      rintro e w1 ⟨rfl, hb⟩
      have HW := Lib.hid hb
      clear hb
      rw [if_pos ⟨h1, h2⟩]
      go_wp2_with fail
      go_ret
      exact ⟨rfl, HW.out⟩
    · have d2 : decide (n ≤ b) = false := by simpa using h2
      go_enter Tryd.func6, Tryd.ntmps6
      go_wp2_with fail
      refine (inRangeBad_any n a b w HA.out HB.out HT.out).mono ?_
      rintro e w1 ⟨rfl, hb⟩
      have HW := Lib.hid hb
      clear hb
      rw [if_neg (by omega)]
      go_wp2_with fail
      go_ret
      exact ⟨rfl, HW.out⟩
  · have d1 : decide (a ≤ n) = false := by simpa using h1
    go_enter Tryd.func6, Tryd.ntmps6
    go_wp2_with fail
    refine (inRangeBad_any n a b w HA.out HB.out HT.out).mono ?_
    rintro e w1 ⟨rfl, hb⟩
    have HW := Lib.hid hb
    clear hb
    rw [if_neg (by omega)]
    go_wp2_with fail
    go_ret
    exact ⟨rfl, HW.out⟩

set_option maxRecDepth 100000 in
theorem port_ok (n : Int) (w : World) (h0 : 1 ≤ n) (h1 : n ≤ 65535) : Calls Tryd.prog 29 #[.int .i64 n] w (Errs 0 w) := by
  go_enter Tryd.func29, Tryd.ntmps29
  go_wp2_with fail
  go_ret
  exact ⟨_, _, rfl, b0_refl w⟩

set_option maxRecDepth 100000 in
theorem port_bad (n : Int) (w : World) (h : n < 1 ∨ 65535 < n) (ht : Pow10 w) : Calls Tryd.prog 29 #[.int .i64 n] w (Errs 1 w) := by
  have HT := Lib.hid ht
  clear ht
  rcases h with h | h
  all_goals
    go_enter Tryd.func29, Tryd.ntmps29
    go_wp2_with fail
    refine (rangeError_any _ _ w (by omega) (by omega) (by omega) (by omega) HT.out).mono ?_
    rintro e w1 ⟨u, rfl, hb⟩
    have HW := Lib.hid hb
    clear hb
    go_wp2_with fail
    go_ret
    exact ⟨_, _, rfl, b0_alloc HW.out _⟩

set_option maxRecDepth 100000 in
theorem user_ok (n : Int) (w : World) (h0 : 0 ≤ n) (h1 : n ≤ 2147483647) : Calls Tryd.prog 30 #[.int .i64 n] w (Errs 0 w) := by
  go_enter Tryd.func30, Tryd.ntmps30
  go_wp2_with fail
  go_ret
  exact ⟨_, _, rfl, b0_refl w⟩

set_option maxRecDepth 100000 in
theorem user_bad (n : Int) (w : World) (h : n < 0 ∨ 2147483647 < n) (ht : Pow10 w) : Calls Tryd.prog 30 #[.int .i64 n] w (Errs 1 w) := by
  have HT := Lib.hid ht
  clear ht
  rcases h with h | h
  all_goals
    go_enter Tryd.func30, Tryd.ntmps30
    go_wp2_with fail
    refine (rangeError_any _ _ w (by omega) (by omega) (by omega) (by omega) HT.out).mono ?_
    rintro e w1 ⟨u, rfl, hb⟩
    have HW := Lib.hid hb
    clear hb
    go_wp2_with fail
    go_ret
    exact ⟨_, _, rfl, b0_alloc HW.out _⟩

set_option maxRecDepth 100000 in
theorem group_ok (n : Int) (w : World) (h0 : 0 ≤ n) (h1 : n ≤ 2147483647) : Calls Tryd.prog 31 #[.int .i64 n] w (Errs 0 w) := by
  go_enter Tryd.func31, Tryd.ntmps31
  go_wp2_with fail
  go_ret
  exact ⟨_, _, rfl, b0_refl w⟩

set_option maxRecDepth 100000 in
theorem group_bad (n : Int) (w : World) (h : n < 0 ∨ 2147483647 < n) (ht : Pow10 w) : Calls Tryd.prog 31 #[.int .i64 n] w (Errs 1 w) := by
  have HT := Lib.hid ht
  clear ht
  rcases h with h | h
  all_goals
    go_enter Tryd.func31, Tryd.ntmps31
    go_wp2_with fail
    refine (rangeError_any _ _ w (by omega) (by omega) (by omega) (by omega) HT.out).mono ?_
    rintro e w1 ⟨u, rfl, hb⟩
    have HW := Lib.hid hb
    clear hb
    go_wp2_with fail
    go_ret
    exact ⟨_, _, rfl, b0_alloc HW.out _⟩

set_option maxRecDepth 100000 in
theorem numBad_port (n : Int) (w : World) (ht : Pow10 w) : Calls Tryd.prog 18 #[.int .i64 0, .int .i64 n] w (Bads (if 1 ≤ n ∧ n ≤ 65535 then 0 else 1) w) := by
  have HT := Lib.hid ht
  clear ht
  by_cases h : 1 ≤ n ∧ n ≤ 65535
  · rw [if_pos h]
    obtain ⟨h1, h2⟩ := h
    go_enter Tryd.func18, Tryd.ntmps18
    go_wp2_with fail
    refine (port_ok n w h1 h2).mono ?_
    rintro e w1 ⟨u, c, rfl, hb⟩
    have HW := Lib.hid hb
    clear hb
    go_wp2_with fail
    go_ret
    exact ⟨rfl, HW.out⟩
  · rw [if_neg h]
    have h3 : n < 1 ∨ 65535 < n := by omega
    clear h
    have H3 := Lib.hid h3
    clear h3
    go_enter Tryd.func18, Tryd.ntmps18
    go_wp2_with fail
    refine (port_bad n w H3.out HT.out).mono ?_
    rintro e w1 ⟨u, c, rfl, hb⟩
    have HW := Lib.hid hb
    clear hb
    go_wp2_with fail
    go_ret
    exact ⟨rfl, HW.out⟩

set_option maxRecDepth 100000 in
theorem numBad_user (n : Int) (w : World) (ht : Pow10 w) : Calls Tryd.prog 18 #[.int .i64 1, .int .i64 n] w (Bads (if 0 ≤ n ∧ n ≤ 2147483647 then 0 else 1) w) := by
  have HT := Lib.hid ht
  clear ht
  by_cases h : 0 ≤ n ∧ n ≤ 2147483647
  · rw [if_pos h]
    obtain ⟨h1, h2⟩ := h
    go_enter Tryd.func18, Tryd.ntmps18
    go_wp2_with fail
    refine (user_ok n w h1 h2).mono ?_
    rintro e w1 ⟨u, c, rfl, hb⟩
    have HW := Lib.hid hb
    clear hb
    go_wp2_with fail
    go_ret
    exact ⟨rfl, HW.out⟩
  · rw [if_neg h]
    have h3 : n < 0 ∨ 2147483647 < n := by omega
    clear h
    have H3 := Lib.hid h3
    clear h3
    go_enter Tryd.func18, Tryd.ntmps18
    go_wp2_with fail
    refine (user_bad n w H3.out HT.out).mono ?_
    rintro e w1 ⟨u, c, rfl, hb⟩
    have HW := Lib.hid hb
    clear hb
    go_wp2_with fail
    go_ret
    exact ⟨rfl, HW.out⟩

set_option maxRecDepth 100000 in
theorem numBad_group (n : Int) (w : World) (ht : Pow10 w) : Calls Tryd.prog 18 #[.int .i64 2, .int .i64 n] w (Bads (if 0 ≤ n ∧ n ≤ 2147483647 then 0 else 1) w) := by
  have HT := Lib.hid ht
  clear ht
  by_cases h : 0 ≤ n ∧ n ≤ 2147483647
  · rw [if_pos h]
    obtain ⟨h1, h2⟩ := h
    go_enter Tryd.func18, Tryd.ntmps18
    go_wp2_with fail
    refine (group_ok n w h1 h2).mono ?_
    rintro e w1 ⟨u, c, rfl, hb⟩
    have HW := Lib.hid hb
    clear hb
    go_wp2_with fail
    go_ret
    exact ⟨rfl, HW.out⟩
  · rw [if_neg h]
    have h3 : n < 0 ∨ 2147483647 < n := by omega
    clear h
    have H3 := Lib.hid h3
    clear h3
    go_enter Tryd.func18, Tryd.ntmps18
    go_wp2_with fail
    refine (group_bad n w H3.out HT.out).mono ?_
    rintro e w1 ⟨u, c, rfl, hb⟩
    have HW := Lib.hid hb
    clear hb
    go_wp2_with fail
    go_ret
    exact ⟨rfl, HW.out⟩

set_option maxRecDepth 100000 in
theorem fnNumPort_walk (n : Int) (w : World) (ht : Pow10 w) : Calls Tryd.prog 7 #[.int .i64 n] w (SaysTrue w) := by
  have HT := Lib.hid ht
  clear ht
  by_cases h1 : 1 ≤ n
  · by_cases h2 : n ≤ 65535
    · have h3 : decide (1 ≤ n) = true := by simpa using h1
      have h4 : decide (n ≤ 65535) = true := by simpa using h2
      go_enter Tryd.func7, Tryd.ntmps7
      go_wp2_with fail
      refine (numBad_port n w HT.out).mono ?_
      rintro e w1 ⟨rfl, hb1⟩
      have HW1 := Lib.hid hb1
      clear hb1
      rw [if_pos ⟨by omega, by omega⟩]
      go_wp2_with fail
      go_ret
      exact ⟨rfl, HW1.out⟩
    · have h3 : decide (1 ≤ n) = true := by simpa using h1
      have h4 : decide (n ≤ 65535) = false := by simpa using h2
      go_enter Tryd.func7, Tryd.ntmps7
      go_wp2_with fail
      refine (numBad_port n w HT.out).mono ?_
      rintro e w1 ⟨rfl, hb1⟩
      have HW1 := Lib.hid hb1
      clear hb1
      rw [if_neg (by omega)]
      go_wp2_with fail
      go_ret
      exact ⟨rfl, HW1.out⟩
  · have h3 : decide (1 ≤ n) = false := by simpa using h1
    go_enter Tryd.func7, Tryd.ntmps7
    go_wp2_with fail
    refine (numBad_port n w HT.out).mono ?_
    rintro e w1 ⟨rfl, hb1⟩
    have HW1 := Lib.hid hb1
    clear hb1
    rw [if_neg (by omega)]
    go_wp2_with fail
    go_ret
    exact ⟨rfl, HW1.out⟩

set_option maxRecDepth 100000 in
theorem fnNumUser_walk (n : Int) (w : World) (ht : Pow10 w) : Calls Tryd.prog 8 #[.int .i64 n] w (SaysTrue w) := by
  have HT := Lib.hid ht
  clear ht
  by_cases h1 : 0 ≤ n
  · by_cases h2 : n ≤ 2147483647
    · have h3 : decide (0 ≤ n) = true := by simpa using h1
      have h4 : decide (n ≤ 2147483647) = true := by simpa using h2
      go_enter Tryd.func8, Tryd.ntmps8
      go_wp2_with fail
      refine (numBad_user n w HT.out).mono ?_
      rintro e w1 ⟨rfl, hb1⟩
      have HW1 := Lib.hid hb1
      clear hb1
      rw [if_pos ⟨by omega, by omega⟩]
      go_wp2_with fail
      refine (numBad_group n w1 (HT.out.below HW1.out)).mono ?_
      rintro e w2 ⟨rfl, hb2⟩
      have HW2 := Lib.hid hb2
      clear hb2
      rw [if_pos ⟨by omega, by omega⟩]
      go_wp2_with fail
      go_ret
      exact ⟨rfl, (b0_then HW1.out HW2.out)⟩
    · have h3 : decide (0 ≤ n) = true := by simpa using h1
      have h4 : decide (n ≤ 2147483647) = false := by simpa using h2
      go_enter Tryd.func8, Tryd.ntmps8
      go_wp2_with fail
      refine (numBad_user n w HT.out).mono ?_
      rintro e w1 ⟨rfl, hb1⟩
      have HW1 := Lib.hid hb1
      clear hb1
      rw [if_neg (by omega)]
      go_wp2_with fail
      refine (numBad_group n w1 (HT.out.below HW1.out)).mono ?_
      rintro e w2 ⟨rfl, hb2⟩
      have HW2 := Lib.hid hb2
      clear hb2
      rw [if_neg (by omega)]
      go_wp2_with fail
      go_ret
      exact ⟨rfl, (b0_then HW1.out HW2.out)⟩
  · have h3 : decide (0 ≤ n) = false := by simpa using h1
    go_enter Tryd.func8, Tryd.ntmps8
    go_wp2_with fail
    refine (numBad_user n w HT.out).mono ?_
    rintro e w1 ⟨rfl, hb1⟩
    have HW1 := Lib.hid hb1
    clear hb1
    rw [if_neg (by omega)]
    go_wp2_with fail
    refine (numBad_group n w1 (HT.out.below HW1.out)).mono ?_
    rintro e w2 ⟨rfl, hb2⟩
    have HW2 := Lib.hid hb2
    clear hb2
    rw [if_neg (by omega)]
    go_wp2_with fail
    go_ret
    exact ⟨rfl, (b0_then HW1.out HW2.out)⟩

end Go.Proofs.YtefnfcpekiaenaaDoor
