/- A quarter of a whole number below 2^53, by way of floats (float64, division by 4.0, math.Ceil's entry, int), is the quarter rounded up: plain Lean over the words of the floats. No condition but the bound. -/
import Derived.Laws.FloatArith
namespace Go.Proofs.YtefnfcpekiaenaaDoor.Ceil4
open Ieee

theorem least_double : Ieee.double.leastPlace = -1074 := by decide
theorem binade_double : Ieee.double.binade = 4503599627370496 := by decide
theorem inf_double : Ieee.double.infRung = 2047 * 4503599627370496 := by decide
theorem sign_double : Ieee.double.signWeight = 2048 * 4503599627370496 := by decide
theorem frac_double : Ieee.double.fractionBits = 52 := rfl

/-- A word whose rung lies in a binade: what it stands for. -/
theorem read_rung (k s : Nat) (hk : k ≤ 2044) (h1 : 4503599627370496 ≤ s) (h2 : s < 9007199254740992) :
    Ieee.double.read (k * 4503599627370496 + s) = .number false s (-1074 + (k : Int)) := by
  unfold Format.read
  rw [least_double, binade_double, inf_double, sign_double]
  have e1 : (k * 4503599627370496 + s) % (2048 * 4503599627370496) = k * 4503599627370496 + s := Nat.mod_eq_of_lt (by omega)
  have e2 : (k * 4503599627370496 + s) / (2048 * 4503599627370496) = 0 := Nat.div_eq_of_lt (by omega)
  have e3 : (k * 4503599627370496 + s) / 4503599627370496 = k + 1 := by omega
  have e4 : (k * 4503599627370496 + s) % 4503599627370496 = s - 4503599627370496 := by omega
  dsimp only
  rw [e1, e2, e3, e4, if_neg (by omega), if_pos (by omega)]
  have e5 : 4503599627370496 + (s - 4503599627370496) = s := by omega
  rw [e5, Nat.add_sub_cancel]
  rfl

/-- A number with 53 digits at most left of what is kept, rounded: drop digits that are 0. -/
theorem nearest_at (s d : Nat) (p : Int) (k : Nat) (h1 : 4503599627370496 ≤ s) (h2 : s < 9007199254740992) (hk : k ≤ 2044) (hp : p + (d : Int) = -1074 + (k : Int)) :
    Ieee.double.nearest false (s * 2 ^ d) p = k * 4503599627370496 + s := by
  have hd : 0 < 2 ^ d := Nat.two_pow_pos d
  have hs0 : s * 2 ^ d ≠ 0 := by
    have := Nat.mul_pos (show 0 < s by omega) hd
    omega
  have hlog : (s * 2 ^ d).log2 = 52 + d := by
    have e : s.log2 = 52 := by
      rw [Nat.log2_eq_iff (by omega)]
      constructor
      · exact h1
      · exact h2
    rw [Nat.log2_eq_iff hs0]
    rw [Nat.pow_add, show 52 + d + 1 = 53 + d by omega, Nat.pow_add]
    exact ⟨Nat.mul_le_mul_right _ h1, Nat.mul_lt_mul_of_pos_right h2 hd⟩
  unfold Format.nearest
  rw [if_neg hs0, hlog, least_double, binade_double, inf_double, frac_double]
  have el : max (p + ((52 + d : Nat) : Int) - ((52 : Nat) : Int)) (-1074) = p + (d : Int) := by omega
  dsimp only
  rw [el]
  have e1 : (p - (p + (d : Int))).toNat = 0 := by omega
  have e2 : (p + (d : Int) - p).toNat = d := by omega
  have e3 : (p + (d : Int) - -1074).toNat = k := by omega
  rw [e1, e2, e3, Nat.shiftLeft_zero]
  have ec : Toward.even.cut false (s * 2 ^ d) d = s := by
    unfold Toward.cut
    rw [hlog, Nat.min_eq_left (by omega), Nat.shiftLeft_eq, Nat.one_mul]
    dsimp only
    rw [Nat.mul_div_cancel _ hd, Nat.mul_mod_left]
    simp
  rw [ec]
  unfold Format.word
  rw [if_neg (by decide), Nat.min_eq_left (by omega)]

/-- A whole number's word: its significand and its rung. -/
theorem word_int (n : Nat) (h0 : n ≠ 0) (hL : n.log2 ≤ 52) :
    ∃ s, s = n * 2 ^ (52 - n.log2) ∧ 4503599627370496 ≤ s ∧ s < 9007199254740992 ∧ Ieee.double.nearest false n 0 = (n.log2 + 1022) * 4503599627370496 + s := by
  have hle := Nat.log2_self_le h0
  have hlt := @Nat.lt_log2_self n
  have hlt : n < 2 ^ (n.log2 + 1) := by simpa using hlt
  have hd : 0 < 2 ^ (52 - n.log2) := Nat.two_pow_pos _
  have h1 : 4503599627370496 ≤ n * 2 ^ (52 - n.log2) := by
    have h := Nat.mul_le_mul_right (2 ^ (52 - n.log2)) hle
    rw [← Nat.pow_add, show n.log2 + (52 - n.log2) = 52 by omega] at h
    exact h
  have h2 : n * 2 ^ (52 - n.log2) < 9007199254740992 := by
    have h := Nat.mul_lt_mul_of_pos_right hlt hd
    rw [← Nat.pow_add, show n.log2 + 1 + (52 - n.log2) = 53 by omega] at h
    exact h
  refine ⟨_, rfl, h1, h2, ?_⟩
  generalize hL' : n.log2 = L at *
  unfold Format.nearest
  rw [if_neg h0, hL', least_double, binade_double, inf_double, frac_double]
  have el : max (0 + (L : Int) - ((52 : Nat) : Int)) (-1074) = (L : Int) - 52 := by omega
  dsimp only
  rw [el]
  have e1 : (0 - ((L : Int) - 52)).toNat = 52 - L := by omega
  have e2 : ((L : Int) - 52 - 0).toNat = 0 := by omega
  have e3 : ((L : Int) - 52 - -1074).toNat = L + 1022 := by omega
  rw [e1, e2, e3, Nat.shiftLeft_eq]
  have ec : Toward.even.cut false (n * 2 ^ (52 - L)) 0 = n * 2 ^ (52 - L) := by
    unfold Toward.cut
    simp [Nat.mod_one]
  rw [ec]
  unfold Format.word
  rw [if_neg (by decide), Nat.min_eq_left (by omega)]

theorem read_int (n : Nat) (h0 : n ≠ 0) (hL : n.log2 ≤ 52) :
    Ieee.double.read (Ieee.double.nearest false n 0) = .number false (n * 2 ^ (52 - n.log2)) ((n.log2 : Int) - 52) := by
  obtain ⟨s, rfl, h1, h2, e⟩ := word_int n h0 hL
  have ep : (-1074 + ((n.log2 + 1022 : Nat) : Int)) = (n.log2 : Int) - 52 := by omega
  rw [e, read_rung _ _ (by omega) h1 h2, ep]

theorem read_four : Ieee.double.read 4616189618054758400 = .number false 4503599627370496 (-50) := by decide

theorem log2_le (n : Nat) (h : n < 2 ^ 53) : n.log2 ≤ 52 := by
  by_cases h0 : n = 0
  · subst h0; decide
  · have := (Nat.log2_lt h0).2 h
    omega

/-- n / 4, exactly. -/
theorem quo_four (n : Nat) (h0 : n ≠ 0) (hn : n < 2 ^ 53) :
    ∃ q, floatBits .quo .f64 (Ieee.double.nearest false n 0) 4616189618054758400 = some q ∧ Ieee.double.read q = .number false (n * 2 ^ (52 - n.log2)) ((n.log2 : Int) - 54) := by
  have hL := log2_le n hn
  obtain ⟨s, es, h1, h2, e⟩ := word_int n h0 hL
  refine ⟨(n.log2 + 1020) * 4503599627370496 + s, ?_, ?_⟩
  · show Ieee.double.div _ _ = _
    unfold Format.div
    rw [read_int n h0 hL, read_four, ← es]
    have hlog : s.log2 = 52 := by
      rw [Nat.log2_eq_iff (by omega)]
      exact ⟨h1, h2⟩
    have hl4 : Nat.log2 4503599627370496 = 52 := by decide
    unfold Datum.quotient
    dsimp only
    rw [if_neg (by decide), hlog, hl4, frac_double]
    have ed : s <<< (52 + 2 + 52 - 52) = s * 4 * 4503599627370496 := by
      rw [Nat.shiftLeft_eq]; omega
    rw [ed, Nat.mul_div_cancel _ (by decide), Nat.mul_mod_left]
    have em : 2 * (s * 4) + (0 != 0 : Bool).toNat = s * 2 ^ 3 := by
      simp; omega
    rw [em]
    show some (Ieee.double.nearest _ _ _) = _
    rw [show (false ^^ false) = false from rfl, nearest_at s 3 _ (n.log2 + 1020) h1 h2 (by omega) (by omega)]
  · have ep : (-1074 + ((n.log2 + 1020 : Nat) : Int)) = (n.log2 : Int) - 54 := by omega
    rw [read_rung _ _ (by omega) h1 h2, ← es, ep]

/-- Rounded up: (n + 3) / 4. -/
theorem ceil_four (n : Nat) (h0 : n ≠ 0) (hn : n < 2 ^ 53) :
    Datum.integral .up (.number false (n * 2 ^ (52 - n.log2)) ((n.log2 : Int) - 54)) = .number false ((n + 3) / 4) 0 := by
  have hL := log2_le n hn
  unfold Datum.integral
  dsimp only
  have e1 : ((n.log2 : Int) - 54).toNat = 0 := by omega
  have e2 : (-((n.log2 : Int) - 54)).toNat = 54 - n.log2 := by omega
  rw [e1, e2, Nat.shiftLeft_zero]
  congr 1
  obtain ⟨s, es, h1, h2, _⟩ := word_int n h0 hL
  have hlog : (n * 2 ^ (52 - n.log2)).log2 = 52 := by
    rw [← es, Nat.log2_eq_iff (by omega)]
    exact ⟨h1, h2⟩
  unfold Toward.cut
  rw [hlog, Nat.min_eq_left (by omega), Nat.shiftLeft_eq, Nat.one_mul]
  have e54 : 2 ^ (54 - n.log2) = 4 * 2 ^ (52 - n.log2) := by
    rw [show 54 - n.log2 = 2 + (52 - n.log2) by omega, Nat.pow_add]
  have hd : 0 < 2 ^ (52 - n.log2) := Nat.two_pow_pos _
  rw [e54]
  dsimp only
  rw [Nat.mul_div_mul_right _ _ hd, Nat.mul_mod_mul_right]
  by_cases hm : n % 4 = 0
  · rw [hm]; simp; omega
  · have : n % 4 * 2 ^ (52 - n.log2) ≠ 0 := Nat.mul_ne_zero hm (by omega)
    have hb : (n % 4 * 2 ^ (52 - n.log2) != 0) = true := by rw [bne_iff_ne]; exact this
    rw [hb]; simp; omega

/-- A whole number's word, cut to an int: the number. -/
theorem to_int (n : Nat) (hn : n < 2 ^ 53) : floatToIntVal .f64 (Ieee.double.nearest false n 0) .i64 = some (n : Int) := by
  unfold floatToIntVal
  show (match (Ieee.double.read (Ieee.double.nearest false n 0)).toInt .zero with | some n => if IntKind.i64.min ≤ n ∧ n ≤ IntKind.i64.max then some n else none | none => none) = _
  have ht : (Ieee.double.read (Ieee.double.nearest false n 0)).toInt .zero = some (n : Int) := by
    by_cases h0 : n = 0
    · subst h0; decide
    · have hL := log2_le n hn
      rw [read_int n h0 hL]
      unfold Datum.toInt Datum.integral
      dsimp only
      have e1 : ((n.log2 : Int) - 52).toNat = 0 := by omega
      have e2 : (-((n.log2 : Int) - 52)).toNat = 52 - n.log2 := by omega
      rw [e1, e2, Nat.shiftLeft_zero]
      obtain ⟨s, es, h1, h2, _⟩ := word_int n h0 hL
      have hlog : (n * 2 ^ (52 - n.log2)).log2 = 52 := by
        rw [← es, Nat.log2_eq_iff (by omega)]
        exact ⟨h1, h2⟩
      have ec : Toward.zero.cut false (n * 2 ^ (52 - n.log2)) (52 - n.log2) = n := by
        unfold Toward.cut
        rw [hlog, Nat.min_eq_left (by omega), Nat.shiftLeft_eq, Nat.one_mul]
        dsimp only
        rw [Nat.mul_div_cancel _ (Nat.two_pow_pos _)]
        rfl
      rw [ec]
      simp [signed]
  rw [ht]
  dsimp only
  rw [if_pos]
  have a : IntKind.i64.min = -9223372036854775808 := by decide
  have b : IntKind.i64.max = 9223372036854775807 := by decide
  omega

/-- math.Ceil's entry, at a quarter of a whole number. -/
theorem arch_ceil (P : Program) (n q : Nat) (h0 : n ≠ 0) (hn : n < 2 ^ 53) (hq : Ieee.double.read q = .number false (n * 2 ^ (52 - n.log2)) ((n.log2 : Int) - 54)) (w : World) :
    (Extern.MathFloor.toIntegral "math.archCeil" .up #[.float .f64 q]).run P w = .ok (.float .f64 (Ieee.double.nearest false ((n + 3) / 4) 0)) w := by
  have hd : FloatKind.f64.decode q = .number false (n * 2 ^ (52 - n.log2)) ((n.log2 : Int) - 54) := hq
  have e : ∀ d, FloatKind.f64.decode q = d → d.isNaN = false → Extern.MathFloor.toIntegral "math.archCeil" .up #[.float .f64 q] = pure (.float .f64 (FloatKind.f64.encode (d.integral .up))) := by
    intro d hq hn
    show (match FloatKind.f64.decode q with | .nan s t => _ | d => _) = _
    rw [hq]
    cases d <;> first | rfl | (cases hn)
  rw [e _ hd rfl, ceil_four n h0 hn]
  rfl
end Go.Proofs.YtefnfcpekiaenaaDoor.Ceil4
