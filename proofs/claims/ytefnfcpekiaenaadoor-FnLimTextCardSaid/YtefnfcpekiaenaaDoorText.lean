/- The law FnLimText returns true for every input: MinLength and MaxLength count characters (a byte that is no UTF-8 is one), MaxBytes bytes. Condition: the table of the powers of ten reads as Go's own text lays it. -/
import Derived.Test.YtefnfcpekiaenaaDoorLim
import Derived.Test.YtefnfcpekiaenaaDoorCeil
import Derived.Laws.Externs
import Derived.Laws.FloatArith
import Derived.Lib.RuneCount
import Derived.Laws.RangeString
import Derived.Laws.RangeAny
import Derived.LoopTactic
namespace Go.Proofs.YtefnfcpekiaenaaDoor
open Go.RowKit

/-! ### A quarter of a length, rounded up, by way of floats -/

theorem find58 : Extern.find Tryd.f58 = some (Extern.MathFloor.toIntegral "math.archCeil" .up) := by kernel_rfl

/-- What the four operations give at a length: its float x, a quarter of it, that rounded up, and the whole number. -/
structure Quarter (n : Nat) (x q r : Nat) : Prop where
  conv : floatOfInt .f64 (n : Int) = x
  quo : floatBits .quo .f64 x 4616189618054758400 = some q
  ceil : ∀ w : World, (callFunc 58 #[.float .f64 q]).run Tryd.prog w = .ok (.value (.float .f64 r)) w
  back : floatToIntVal .f64 r .i64 = some (((n + 3) / 4 : Nat) : Int)

theorem call58 (q r : Nat) (w : World) (h : (Extern.MathFloor.toIntegral "math.archCeil" .up #[.float .f64 q]).run Tryd.prog w = .ok (.float .f64 r) w) : (callFunc 58 #[.float .f64 q]).run Tryd.prog w = .ok (.value (.float .f64 r)) w := by
  rw [run_callFunc_extern Tryd.func58 (by kernel_rfl) (by kernel_rfl) (by kernel_rfl) find58, h]
  rfl

theorem floatOfInt_nat (n : Nat) : floatOfInt .f64 (n : Int) = Ieee.double.nearest false n 0 := by
  have h : decide ((n : Int) < 0) = false := by simp
  show Ieee.double.write (.number (decide ((n : Int) < 0)) (n : Int).natAbs 0) = _
  rw [h]
  rfl

theorem quarter (n : Nat) (hn : n < 2 ^ 53) : ∃ x q r, Quarter n x q r := by
  by_cases h0 : n = 0
  · subst h0
    refine ⟨0, 0, 0, by kernel_rfl, by kernel_rfl, fun w => call58 0 0 w ?_, by kernel_rfl⟩
    have e : Extern.MathFloor.toIntegral "math.archCeil" .up #[.float .f64 0] = pure (.float .f64 0) := by kernel_rfl
    rw [e]
    rfl
  · obtain ⟨q, hq, hr⟩ := Ceil4.quo_four n h0 hn
    exact ⟨_, q, _, floatOfInt_nat n, hq, fun w => call58 _ _ w (Ceil4.arch_ceil Tryd.prog n q h0 hn hr w), Ceil4.to_int _ (by omega)⟩

set_option maxRecDepth 100000 in
theorem mathCeil_any (q r : Nat) (w : World) (h : ∀ w : World, (callFunc 58 #[.float .f64 q]).run Tryd.prog w = .ok (.value (.float .f64 r)) w) :
    Calls Tryd.prog 47 #[.float .f64 q] w fun e w' => e = .returned (.float .f64 r) ∧ w = w' := by
  go_enter Tryd.func47, Tryd.ntmps47
  go_wp2
  go_ret
  exact ⟨rfl, rfl⟩

/-! ### Runes -/

theorem width_le (s : ByteArray) (i : Nat) : (Utf8.decode s i).2 ≤ 4 := by
  unfold Utf8.decode
  dsimp only
  repeat' split
  all_goals simp

theorem size_le_four (s : ByteArray) : ∀ fuel pos, s.size - pos ≤ fuel → s.size - pos ≤ 4 * Lib.runeCountFrom s fuel pos
  | 0, pos, h => by omega
  | f + 1, pos, h => by
    unfold Lib.runeCountFrom
    by_cases hp : pos < s.size
    · rw [if_pos hp]
      have h1 := width_le s pos
      have h2 := Lib.decode_width_pos s pos hp
      have ih := size_le_four s f (pos + (Utf8.decode s pos).2) (by omega)
      omega
    · omega

theorem quarter_le (s : ByteArray) : (s.size + 3) / 4 ≤ Lib.runeCount s := by
  have h := size_le_four s s.size 0 (by omega)
  have e : Lib.runeCountFrom s s.size 0 = Lib.runeCount s := rfl
  rw [e] at h
  omega

theorem runes_any (s : ByteArray) (w : World) (hs : s.size < 9223372036854775807) : Calls Tryd.prog 48 #[.string s] w (Bads (Lib.runeCount s) w) := by
  refine (Tryd.utf8_RuneCountInString s w hs).mono ?_
  rintro e w1 ⟨rfl, pos, rfl⟩
  exact ⟨rfl, b0_alloc (b0_refl w) _⟩

set_option maxRecDepth 100000 in
/-- DnsCharacters: the runes of a text. -/
theorem characters_any (s : ByteArray) (w : World) (hs : s.size < 9223372036854775807) :
    Calls Tryd.prog 20 #[.string s] w (Bads (Lib.runeCount s) w) := by
  go_enter Tryd.func20, Tryd.ntmps20
  go_wp2
  go_loopw [3] (fun n w' => ∃ (pos b acc : Nat), w' = w.iter s pos ∧ n = .int .i64 acc ∧ acc + Lib.runeCountFrom s b pos = Lib.runeCount s ∧ s.size ≤ pos + b ∧ acc ≤ pos) (fun _ w' => s.size - w'.iterPos w.heap.size)
  case atStart => exact ⟨0, s.size, 0, rfl, rfl, by simp [Lib.runeCount], by omega, Nat.le_refl _⟩
  case round =>
    obtain ⟨pos, b, acc, rfl, rfl, hc, hb, ha⟩ := hrel
    by_cases hp : pos < s.size
    · have hnx : ∀ ty, (Instr.next (.pointer (some ⟨w.heap.size, 0, none⟩)) true ty).run Tryd.prog (w.iter s pos) = _ := fun ty => run_next_any w s pos ty hp
      have hwd := Lib.decode_width_pos s pos hp
      go_wp2
      go_roundw
      case rel =>
        cases b with
        | zero => omega
        | succ b =>
          refine ⟨pos + (Utf8.decode s pos).2, b, acc + 1, rfl, by go_num, ?_, by omega, by omega⟩
          rw [← hc]
          simp [Lib.runeCountFrom, hp]
          omega
      case measure =>
        simp
        omega
    · have hnx : ∀ ty, (Instr.next (.pointer (some ⟨w.heap.size, 0, none⟩)) true ty).run Tryd.prog (w.iter s pos) = _ := fun ty => run_next_end w s pos ty hp
      go_wp2
      go_ret
      rw [Lib.runeCountFrom_end s b pos hp, Nat.add_zero] at hc
      subst hc
      exact ⟨rfl, b0_alloc (b0_refl w) _⟩

/-- The operations on floats, as the walk meets them. -/
structure Floats (n x q r k : Nat) : Prop where
  conv : ∀ W : World, (convert 3 77 (.int .i64 (n : Int))).run Tryd.prog W = .ok (.float .f64 x) W
  quo : ∀ W : World, (binOp .quo 77 (.float .f64 x) (.float .f64 4616189618054758400)).run Tryd.prog W = .ok (.float .f64 q) W
  ceil : ∀ w : World, Calls Tryd.prog 47 #[.float .f64 q] w fun e w' => e = .returned (.float .f64 r) ∧ w = w'
  back : ∀ W : World, (convert 77 3 (.float .f64 r)).run Tryd.prog W = .ok (.int .i64 (k : Int)) W
theorem floats (n : Nat) (hn : n < 2 ^ 53) : ∃ x q r k, k = (n + 3) / 4 ∧ Floats n x q r k := by
  obtain ⟨x, q, r, h⟩ := quarter n hn
  refine ⟨x, q, r, _, rfl, fun W => ?_, fun W => run_float_arith W .quo 77 .f64 x _ q h.quo, fun w => mathCeil_any q r w h.ceil, fun W => ?_⟩
  · rw [← h.conv]
    exact run_convert_int_float W 3 77 .i64 .f64 n (by rw [Tryd.underlying3]; rfl) Tryd.underlying77
  · exact run_convert_float_int W 77 3 .f64 .i64 r _ (by rw [Tryd.underlying77]; rfl) Tryd.underlying3 h.back

set_option maxRecDepth 100000 in
set_option maxHeartbeats 400000 in
theorem maxBytes_ok (c : Nat) (g : Nat) (s : ByteArray) (m : Int) (w : World) (hg : w.cell? ⟨g, 0, none⟩ = some (.string s)) (_hs : s.size ≤ 2147483647) (h : (s.size : Int) ≤ m) (_hp : PathOk w c) (_fm : Fits m) (_ht : Pow10 w) :
    Calls Tryd.prog 36 #[.nilIface, .agg #[.int .u32 0, .map none, .slice none 0 0], .pointer (some ⟨c, 0, none⟩), .pointer (some ⟨g, 0, none⟩), .pointer none, .int .i64 m] w (Errs 0 w) := by
  have hlg : g < w.heap.size := World.block_lt_of_cell? w _ hg
  have c1 : (w.alloc (.cells #[.int .u32 0, .map none, .slice none 0 0] 50)).cell? ⟨g, 0, none⟩ = some (.string s) := by rw [World.cell?_alloc_lt _ _ _ hlg]; exact hg
  go_enter Tryd.func36, Tryd.ntmps36
  go_wp2_with fail
  go_ret
  exact ⟨_, _, rfl, b0_alloc (b0_refl w) _⟩

set_option maxRecDepth 100000 in
set_option maxHeartbeats 400000 in
theorem maxBytes_bad (c : Nat) (g : Nat) (s : ByteArray) (m : Int) (w : World) (hg : w.cell? ⟨g, 0, none⟩ = some (.string s)) (_hs : s.size ≤ 2147483647) (h : m < (s.size : Int)) (hp : PathOk w c) (fm : Fits m) (ht : Pow10 w) :
    Calls Tryd.prog 36 #[.nilIface, .agg #[.int .u32 0, .map none, .slice none 0 0], .pointer (some ⟨c, 0, none⟩), .pointer (some ⟨g, 0, none⟩), .pointer none, .int .i64 m] w (Errs 1 w) := by
  have HP := Lib.hid hp
  have HT := Lib.hid ht
  have HM := Lib.hid fm
  clear hp ht fm
  have hlg : g < w.heap.size := World.block_lt_of_cell? w _ hg
  have c1 : (w.alloc (.cells #[.int .u32 0, .map none, .slice none 0 0] 50)).cell? ⟨g, 0, none⟩ = some (.string s) := by rw [World.cell?_alloc_lt _ _ _ hlg]; exact hg
  go_enter Tryd.func36, Tryd.ntmps36
  go_wp2_with fail
  refine (tooLong_any c _ _ m _ (HP.out.below (b0_alloc (b0_refl w) (.cells #[.int .u32 0, .map none, .slice none 0 0] 50)) (Nat.le_refl _)) HM.out.1 HM.out.2 (HT.out.below (b0_alloc (b0_refl w) (.cells #[.int .u32 0, .map none, .slice none 0 0] 50)))).mono ?_
  rintro e w1 ⟨g1, rfl, hg0, hg1, hc, hf, hb⟩
  have hsz := hb.size
  go_wp2_with fail
  refine (withOrigin_any g1 _ _ hc hf).mono ?_
  rintro e w2 ⟨rfl, rfl⟩
  have hB := b0_set (i := 4) (b0_alloc (b0_refl w) (.cells #[.int .u32 0, .map none, .slice none 0 0] 50)) hb hg0 (.string ⟨#[109, 97, 120, 66, 121, 116, 101, 115]⟩)
  generalize w1.setCell ⟨g1, 4, none⟩ (.string ⟨#[109, 97, 120, 66, 121, 116, 101, 115]⟩) = w2 at *
  have HB := Lib.hid hB
  clear hb hc hf hB hg0 hg1 hsz
  go_wp2_with fail
  go_ret
  exact ⟨_, _, rfl, b0_alloc HB.out _⟩

set_option maxRecDepth 100000 in
set_option maxHeartbeats 400000 in
theorem minLength_ok (c : Nat) (g : Nat) (s : ByteArray) (m : Int) (w : World) (hg : w.cell? ⟨g, 0, none⟩ = some (.string s)) (hs : s.size ≤ 2147483647) (h : m ≤ (Lib.runeCount s : Int)) (hp : PathOk w c) (fm : Fits m) (ht : Pow10 w) :
    Calls Tryd.prog 34 #[.nilIface, .agg #[.int .u32 0, .map none, .slice none 0 0], .pointer (some ⟨c, 0, none⟩), .pointer (some ⟨g, 0, none⟩), .pointer none, .int .i64 m] w (Errs 0 w) := by
  have HP := Lib.hid hp
  have HT := Lib.hid ht
  have HM := Lib.hid fm
  clear hp ht fm
  have hlg : g < w.heap.size := World.block_lt_of_cell? w _ hg
  have c1 : (w.alloc (.cells #[.int .u32 0, .map none, .slice none 0 0] 50)).cell? ⟨g, 0, none⟩ = some (.string s) := by rw [World.cell?_alloc_lt _ _ _ hlg]; exact hg
  obtain ⟨x, q, r, k, hk, hf⟩ := floats s.size (by omega)
  have hr1 := Lib.runeCount_le s
  have hr2 := quarter_le s
  have hkr : k ≤ Lib.runeCount s := by omega
  have hks : k ≤ s.size := by omega
  generalize hrc : Lib.runeCount s = rc at *
  have HK := Lib.hid hk
  have hf1 := hf.conv
  have hf2 := hf.quo
  have hf4 := hf.back
  have HC := Lib.hid hf.ceil
  have hruns : ∀ W : World, Calls Tryd.prog 48 #[.string s] W (Bads rc W) := fun W => by rw [← hrc]; exact runes_any s W (by omega)
  have HR := Lib.hid hruns
  have HRC := Lib.hid hrc
  clear hk hf hruns hrc hr2
  by_cases h4 : m ≤ (k : Int)
  · go_enter Tryd.func34, Tryd.ntmps34
    go_wp2_with fail
    refine (HC.out _).mono ?_
    rintro e wz ⟨rfl, rfl⟩
    go_wp2_with fail
    go_ret
    exact ⟨_, _, rfl, b0_alloc (b0_refl w) _⟩
  · go_enter Tryd.func34, Tryd.ntmps34
    go_wp2_with fail
    refine (HC.out _).mono ?_
    rintro e wz ⟨rfl, rfl⟩
    go_wp2_with fail
    refine (HR.out _).mono ?_
    rintro e wr ⟨rfl, hbr⟩
    have cr := (hbr.cell (p := ⟨g, 0, none⟩) (by simp; omega)).trans c1
    have HBR := Lib.hid (b0_then (b0_alloc (b0_refl w) (.cells #[.int .u32 0, .map none, .slice none 0 0] 50)) hbr)
    clear hbr
    go_wp2_with fail
    go_ret
    exact ⟨_, _, rfl, HBR.out⟩

set_option maxRecDepth 100000 in
set_option maxHeartbeats 400000 in
theorem minLength_bad (c : Nat) (g : Nat) (s : ByteArray) (m : Int) (w : World) (hg : w.cell? ⟨g, 0, none⟩ = some (.string s)) (hs : s.size ≤ 2147483647) (h : (Lib.runeCount s : Int) < m) (hp : PathOk w c) (fm : Fits m) (ht : Pow10 w) :
    Calls Tryd.prog 34 #[.nilIface, .agg #[.int .u32 0, .map none, .slice none 0 0], .pointer (some ⟨c, 0, none⟩), .pointer (some ⟨g, 0, none⟩), .pointer none, .int .i64 m] w (Errs 1 w) := by
  have HP := Lib.hid hp
  have HT := Lib.hid ht
  have HM := Lib.hid fm
  clear hp ht fm
  have hlg : g < w.heap.size := World.block_lt_of_cell? w _ hg
  have c1 : (w.alloc (.cells #[.int .u32 0, .map none, .slice none 0 0] 50)).cell? ⟨g, 0, none⟩ = some (.string s) := by rw [World.cell?_alloc_lt _ _ _ hlg]; exact hg
  obtain ⟨x, q, r, k, hk, hf⟩ := floats s.size (by omega)
  have hr1 := Lib.runeCount_le s
  have hr2 := quarter_le s
  have hkr : k ≤ Lib.runeCount s := by omega
  have hks : k ≤ s.size := by omega
  generalize hrc : Lib.runeCount s = rc at *
  have HK := Lib.hid hk
  have hf1 := hf.conv
  have hf2 := hf.quo
  have hf4 := hf.back
  have HC := Lib.hid hf.ceil
  have hruns : ∀ W : World, Calls Tryd.prog 48 #[.string s] W (Bads rc W) := fun W => by rw [← hrc]; exact runes_any s W (by omega)
  have HR := Lib.hid hruns
  have HRC := Lib.hid hrc
  clear hk hf hruns hrc hr2
  by_cases h4 : (s.size : Int) < m
  · go_enter Tryd.func34, Tryd.ntmps34
    go_wp2_with fail
    refine (HC.out _).mono ?_
    rintro e wz ⟨rfl, rfl⟩
    go_wp2_with fail
    refine (tooShort_any c s m _ (HP.out.below (b0_alloc (b0_refl w) (.cells #[.int .u32 0, .map none, .slice none 0 0] 50)) (Nat.le_refl _)) HM.out.1 HM.out.2 (HT.out.below (b0_alloc (b0_refl w) (.cells #[.int .u32 0, .map none, .slice none 0 0] 50)))).mono ?_
    rintro e w1 ⟨g1, rfl, hg0, hg1, hc, hf, hb⟩
    have hsz := hb.size
    go_wp2_with fail
    refine (withOrigin_any g1 _ _ hc hf).mono ?_
    rintro e w2 ⟨rfl, rfl⟩
    have hB := b0_set (i := 4) (b0_alloc (b0_refl w) (.cells #[.int .u32 0, .map none, .slice none 0 0] 50)) hb hg0 (.string ⟨#[109, 105, 110, 76, 101, 110, 103, 116, 104]⟩)
    generalize w1.setCell ⟨g1, 4, none⟩ (.string ⟨#[109, 105, 110, 76, 101, 110, 103, 116, 104]⟩) = w2 at *
    have HB := Lib.hid hB
    clear hb hc hf hB hg0 hg1 hsz
    go_wp2_with fail
    go_ret
    exact ⟨_, _, rfl, b0_alloc HB.out _⟩
  · go_enter Tryd.func34, Tryd.ntmps34
    go_wp2_with fail
    refine (HC.out _).mono ?_
    rintro e wz ⟨rfl, rfl⟩
    go_wp2_with fail
    refine (HR.out _).mono ?_
    rintro e wr ⟨rfl, hbr⟩
    have cr := (hbr.cell (p := ⟨g, 0, none⟩) (by simp; omega)).trans c1
    have HBR := Lib.hid (b0_then (b0_alloc (b0_refl w) (.cells #[.int .u32 0, .map none, .slice none 0 0] 50)) hbr)
    clear hbr
    go_wp2_with fail
    refine (tooShort_any c s m _ (HP.out.below HBR.out (Nat.le_refl _)) HM.out.1 HM.out.2 (HT.out.below HBR.out)).mono ?_
    rintro e w1 ⟨g1, rfl, hg0, hg1, hc, hf, hb⟩
    have hsz := hb.size
    go_wp2_with fail
    refine (withOrigin_any g1 _ _ hc hf).mono ?_
    rintro e w2 ⟨rfl, rfl⟩
    have hB := b0_set (i := 4) HBR.out hb hg0 (.string ⟨#[109, 105, 110, 76, 101, 110, 103, 116, 104]⟩)
    generalize w1.setCell ⟨g1, 4, none⟩ (.string ⟨#[109, 105, 110, 76, 101, 110, 103, 116, 104]⟩) = w2 at *
    have HB := Lib.hid hB
    clear hb hc hf hB hg0 hg1 hsz
    go_wp2_with fail
    go_ret
    exact ⟨_, _, rfl, b0_alloc HB.out _⟩

set_option maxRecDepth 100000 in
set_option maxHeartbeats 400000 in
theorem maxLength_ok (c : Nat) (g : Nat) (s : ByteArray) (m : Int) (w : World) (hg : w.cell? ⟨g, 0, none⟩ = some (.string s)) (hs : s.size ≤ 2147483647) (h : (Lib.runeCount s : Int) ≤ m) (hp : PathOk w c) (fm : Fits m) (ht : Pow10 w) :
    Calls Tryd.prog 35 #[.nilIface, .agg #[.int .u32 0, .map none, .slice none 0 0], .pointer (some ⟨c, 0, none⟩), .pointer (some ⟨g, 0, none⟩), .pointer none, .int .i64 m] w (Errs 0 w) := by
  have HP := Lib.hid hp
  have HT := Lib.hid ht
  have HM := Lib.hid fm
  clear hp ht fm
  have hlg : g < w.heap.size := World.block_lt_of_cell? w _ hg
  have c1 : (w.alloc (.cells #[.int .u32 0, .map none, .slice none 0 0] 50)).cell? ⟨g, 0, none⟩ = some (.string s) := by rw [World.cell?_alloc_lt _ _ _ hlg]; exact hg
  obtain ⟨x, q, r, k, hk, hf⟩ := floats s.size (by omega)
  have hr1 := Lib.runeCount_le s
  have hr2 := quarter_le s
  have hkr : k ≤ Lib.runeCount s := by omega
  have hks : k ≤ s.size := by omega
  generalize hrc : Lib.runeCount s = rc at *
  have HK := Lib.hid hk
  have hf1 := hf.conv
  have hf2 := hf.quo
  have hf4 := hf.back
  have HC := Lib.hid hf.ceil
  have hruns : ∀ W : World, Calls Tryd.prog 48 #[.string s] W (Bads rc W) := fun W => by rw [← hrc]; exact runes_any s W (by omega)
  have HR := Lib.hid hruns
  have HRC := Lib.hid hrc
  clear hk hf hruns hrc hr2
  by_cases h4 : (s.size : Int) ≤ m
  · go_enter Tryd.func35, Tryd.ntmps35
    go_wp2_with fail
    go_ret
    exact ⟨_, _, rfl, b0_alloc (b0_refl w) _⟩
  · go_enter Tryd.func35, Tryd.ntmps35
    go_wp2_with fail
    refine (HC.out _).mono ?_
    rintro e wz ⟨rfl, rfl⟩
    go_wp2_with fail
    refine (HR.out _).mono ?_
    rintro e wr ⟨rfl, hbr⟩
    have cr := (hbr.cell (p := ⟨g, 0, none⟩) (by simp; omega)).trans c1
    have HBR := Lib.hid (b0_then (b0_alloc (b0_refl w) (.cells #[.int .u32 0, .map none, .slice none 0 0] 50)) hbr)
    clear hbr
    go_wp2_with fail
    go_ret
    exact ⟨_, _, rfl, HBR.out⟩

set_option maxRecDepth 100000 in
set_option maxHeartbeats 400000 in
theorem maxLength_bad (c : Nat) (g : Nat) (s : ByteArray) (m : Int) (w : World) (hg : w.cell? ⟨g, 0, none⟩ = some (.string s)) (hs : s.size ≤ 2147483647) (h : m < (Lib.runeCount s : Int)) (hp : PathOk w c) (fm : Fits m) (ht : Pow10 w) :
    Calls Tryd.prog 35 #[.nilIface, .agg #[.int .u32 0, .map none, .slice none 0 0], .pointer (some ⟨c, 0, none⟩), .pointer (some ⟨g, 0, none⟩), .pointer none, .int .i64 m] w (Errs 1 w) := by
  have HP := Lib.hid hp
  have HT := Lib.hid ht
  have HM := Lib.hid fm
  clear hp ht fm
  have hlg : g < w.heap.size := World.block_lt_of_cell? w _ hg
  have c1 : (w.alloc (.cells #[.int .u32 0, .map none, .slice none 0 0] 50)).cell? ⟨g, 0, none⟩ = some (.string s) := by rw [World.cell?_alloc_lt _ _ _ hlg]; exact hg
  obtain ⟨x, q, r, k, hk, hf⟩ := floats s.size (by omega)
  have hr1 := Lib.runeCount_le s
  have hr2 := quarter_le s
  have hkr : k ≤ Lib.runeCount s := by omega
  have hks : k ≤ s.size := by omega
  generalize hrc : Lib.runeCount s = rc at *
  have HK := Lib.hid hk
  have hf1 := hf.conv
  have hf2 := hf.quo
  have hf4 := hf.back
  have HC := Lib.hid hf.ceil
  have hruns : ∀ W : World, Calls Tryd.prog 48 #[.string s] W (Bads rc W) := fun W => by rw [← hrc]; exact runes_any s W (by omega)
  have HR := Lib.hid hruns
  have HRC := Lib.hid hrc
  clear hk hf hruns hrc hr2
  by_cases h4 : m < (k : Int)
  · go_enter Tryd.func35, Tryd.ntmps35
    go_wp2_with fail
    refine (HC.out _).mono ?_
    rintro e wz ⟨rfl, rfl⟩
    go_wp2_with fail
    refine (tooLongChars_any c s m _ (HP.out.below (b0_alloc (b0_refl w) (.cells #[.int .u32 0, .map none, .slice none 0 0] 50)) (Nat.le_refl _)) HM.out.1 HM.out.2 (HT.out.below (b0_alloc (b0_refl w) (.cells #[.int .u32 0, .map none, .slice none 0 0] 50)))).mono ?_
    rintro e w1 ⟨g1, rfl, hg0, hg1, hc, hf, hb⟩
    have hsz := hb.size
    go_wp2_with fail
    refine (withOrigin_any g1 _ _ hc hf).mono ?_
    rintro e w2 ⟨rfl, rfl⟩
    have hB := b0_set (i := 4) (b0_alloc (b0_refl w) (.cells #[.int .u32 0, .map none, .slice none 0 0] 50)) hb hg0 (.string ⟨#[109, 97, 120, 76, 101, 110, 103, 116, 104]⟩)
    generalize w1.setCell ⟨g1, 4, none⟩ (.string ⟨#[109, 97, 120, 76, 101, 110, 103, 116, 104]⟩) = w2 at *
    have HB := Lib.hid hB
    clear hb hc hf hB hg0 hg1 hsz
    go_wp2_with fail
    go_ret
    exact ⟨_, _, rfl, b0_alloc HB.out _⟩
  · go_enter Tryd.func35, Tryd.ntmps35
    go_wp2_with fail
    refine (HC.out _).mono ?_
    rintro e wz ⟨rfl, rfl⟩
    go_wp2_with fail
    refine (HR.out _).mono ?_
    rintro e wr ⟨rfl, hbr⟩
    have cr := (hbr.cell (p := ⟨g, 0, none⟩) (by simp; omega)).trans c1
    have HBR := Lib.hid (b0_then (b0_alloc (b0_refl w) (.cells #[.int .u32 0, .map none, .slice none 0 0] 50)) hbr)
    clear hbr
    go_wp2_with fail
    refine (tooLongChars_any c s m _ (HP.out.below HBR.out (Nat.le_refl _)) HM.out.1 HM.out.2 (HT.out.below HBR.out)).mono ?_
    rintro e w1 ⟨g1, rfl, hg0, hg1, hc, hf, hb⟩
    have hsz := hb.size
    go_wp2_with fail
    refine (withOrigin_any g1 _ _ hc hf).mono ?_
    rintro e w2 ⟨rfl, rfl⟩
    have hB := b0_set (i := 4) HBR.out hb hg0 (.string ⟨#[109, 97, 120, 76, 101, 110, 103, 116, 104]⟩)
    generalize w1.setCell ⟨g1, 4, none⟩ (.string ⟨#[109, 97, 120, 76, 101, 110, 103, 116, 104]⟩) = w2 at *
    have HB := Lib.hid hB
    clear hb hc hf hB hg0 hg1 hsz
    go_wp2_with fail
    go_ret
    exact ⟨_, _, rfl, b0_alloc HB.out _⟩

set_option maxRecDepth 100000 in
theorem limitBad_2_ok (s : ByteArray) (n m : Int) (w : World) (h : m ≤ (Lib.runeCount s : Int)) (hs : s.size ≤ 2147483647) (fm : Fits m) (ht : Pow10 w) : Calls Tryd.prog 19 #[.int .i64 2, .string s, .int .i64 n, .int .i64 m] w (Bads 0 w) := by
  have HT := Lib.hid ht
  have HM := Lib.hid fm
  clear ht fm
  go_enter Tryd.func19, Tryd.ntmps19
  go_wp2_with fail
  refine (newPath_any _ _).mono ?_
  rintro e w1 ⟨rfl, rfl⟩
  go_wp2_with fail
  refine (minLength_ok _ _ s m _ (by go_simp) hs h (by exact Called.path w s n) HM.out (by exact HT.out.below (Called.below w s n))).mono ?_
  rintro e w2 ⟨a2, c2, rfl, hb⟩
  have HB := Lib.hid (b0_then (Called.below w s n) hb)
  clear hb
  go_wp2_with fail
  go_ret
  exact ⟨rfl, HB.out⟩

set_option maxRecDepth 100000 in
theorem limitBad_2_bad (s : ByteArray) (n m : Int) (w : World) (h : (Lib.runeCount s : Int) < m) (hs : s.size ≤ 2147483647) (fm : Fits m) (ht : Pow10 w) : Calls Tryd.prog 19 #[.int .i64 2, .string s, .int .i64 n, .int .i64 m] w (Bads 1 w) := by
  have HT := Lib.hid ht
  have HM := Lib.hid fm
  clear ht fm
  go_enter Tryd.func19, Tryd.ntmps19
  go_wp2_with fail
  refine (newPath_any _ _).mono ?_
  rintro e w1 ⟨rfl, rfl⟩
  go_wp2_with fail
  refine (minLength_bad _ _ s m _ (by go_simp) hs h (by exact Called.path w s n) HM.out (by exact HT.out.below (Called.below w s n))).mono ?_
  rintro e w2 ⟨a2, c2, rfl, hb⟩
  have HB := Lib.hid (b0_then (Called.below w s n) hb)
  clear hb
  go_wp2_with fail
  go_ret
  exact ⟨rfl, HB.out⟩

theorem limitBad_2 (s : ByteArray) (n m : Int) (w : World) (hs : s.size ≤ 2147483647) (fm : Fits m) (ht : Pow10 w) : Calls Tryd.prog 19 #[.int .i64 2, .string s, .int .i64 n, .int .i64 m] w (Bads (if m ≤ (Lib.runeCount s : Int) then 0 else 1) w) := by
  by_cases h : m ≤ (Lib.runeCount s : Int)
  · rw [if_pos h]; exact limitBad_2_ok s n m w h hs fm ht
  · rw [if_neg h]; exact limitBad_2_bad s n m w (by omega) hs fm ht

set_option maxRecDepth 100000 in
theorem limitBad_3_ok (s : ByteArray) (n m : Int) (w : World) (h : (Lib.runeCount s : Int) ≤ m) (hs : s.size ≤ 2147483647) (fm : Fits m) (ht : Pow10 w) : Calls Tryd.prog 19 #[.int .i64 3, .string s, .int .i64 n, .int .i64 m] w (Bads 0 w) := by
  have HT := Lib.hid ht
  have HM := Lib.hid fm
  clear ht fm
  go_enter Tryd.func19, Tryd.ntmps19
  go_wp2_with fail
  refine (newPath_any _ _).mono ?_
  rintro e w1 ⟨rfl, rfl⟩
  go_wp2_with fail
  refine (maxLength_ok _ _ s m _ (by go_simp) hs h (by exact Called.path w s n) HM.out (by exact HT.out.below (Called.below w s n))).mono ?_
  rintro e w2 ⟨a2, c2, rfl, hb⟩
  have HB := Lib.hid (b0_then (Called.below w s n) hb)
  clear hb
  go_wp2_with fail
  go_ret
  exact ⟨rfl, HB.out⟩

set_option maxRecDepth 100000 in
theorem limitBad_3_bad (s : ByteArray) (n m : Int) (w : World) (h : m < (Lib.runeCount s : Int)) (hs : s.size ≤ 2147483647) (fm : Fits m) (ht : Pow10 w) : Calls Tryd.prog 19 #[.int .i64 3, .string s, .int .i64 n, .int .i64 m] w (Bads 1 w) := by
  have HT := Lib.hid ht
  have HM := Lib.hid fm
  clear ht fm
  go_enter Tryd.func19, Tryd.ntmps19
  go_wp2_with fail
  refine (newPath_any _ _).mono ?_
  rintro e w1 ⟨rfl, rfl⟩
  go_wp2_with fail
  refine (maxLength_bad _ _ s m _ (by go_simp) hs h (by exact Called.path w s n) HM.out (by exact HT.out.below (Called.below w s n))).mono ?_
  rintro e w2 ⟨a2, c2, rfl, hb⟩
  have HB := Lib.hid (b0_then (Called.below w s n) hb)
  clear hb
  go_wp2_with fail
  go_ret
  exact ⟨rfl, HB.out⟩

theorem limitBad_3 (s : ByteArray) (n m : Int) (w : World) (hs : s.size ≤ 2147483647) (fm : Fits m) (ht : Pow10 w) : Calls Tryd.prog 19 #[.int .i64 3, .string s, .int .i64 n, .int .i64 m] w (Bads (if (Lib.runeCount s : Int) ≤ m then 0 else 1) w) := by
  by_cases h : (Lib.runeCount s : Int) ≤ m
  · rw [if_pos h]; exact limitBad_3_ok s n m w h hs fm ht
  · rw [if_neg h]; exact limitBad_3_bad s n m w (by omega) hs fm ht

set_option maxRecDepth 100000 in
theorem limitBad_4_ok (s : ByteArray) (n m : Int) (w : World) (h : (s.size : Int) ≤ m) (hs : s.size ≤ 2147483647) (fm : Fits m) (ht : Pow10 w) : Calls Tryd.prog 19 #[.int .i64 4, .string s, .int .i64 n, .int .i64 m] w (Bads 0 w) := by
  have HT := Lib.hid ht
  have HM := Lib.hid fm
  clear ht fm
  go_enter Tryd.func19, Tryd.ntmps19
  go_wp2_with fail
  refine (newPath_any _ _).mono ?_
  rintro e w1 ⟨rfl, rfl⟩
  go_wp2_with fail
  refine (maxBytes_ok _ _ s m _ (by go_simp) hs h (by exact Called.path w s n) HM.out (by exact HT.out.below (Called.below w s n))).mono ?_
  rintro e w2 ⟨a2, c2, rfl, hb⟩
  have HB := Lib.hid (b0_then (Called.below w s n) hb)
  clear hb
  go_wp2_with fail
  go_ret
  exact ⟨rfl, HB.out⟩

set_option maxRecDepth 100000 in
theorem limitBad_4_bad (s : ByteArray) (n m : Int) (w : World) (h : m < (s.size : Int)) (hs : s.size ≤ 2147483647) (fm : Fits m) (ht : Pow10 w) : Calls Tryd.prog 19 #[.int .i64 4, .string s, .int .i64 n, .int .i64 m] w (Bads 1 w) := by
  have HT := Lib.hid ht
  have HM := Lib.hid fm
  clear ht fm
  go_enter Tryd.func19, Tryd.ntmps19
  go_wp2_with fail
  refine (newPath_any _ _).mono ?_
  rintro e w1 ⟨rfl, rfl⟩
  go_wp2_with fail
  refine (maxBytes_bad _ _ s m _ (by go_simp) hs h (by exact Called.path w s n) HM.out (by exact HT.out.below (Called.below w s n))).mono ?_
  rintro e w2 ⟨a2, c2, rfl, hb⟩
  have HB := Lib.hid (b0_then (Called.below w s n) hb)
  clear hb
  go_wp2_with fail
  go_ret
  exact ⟨rfl, HB.out⟩

theorem limitBad_4 (s : ByteArray) (n m : Int) (w : World) (hs : s.size ≤ 2147483647) (fm : Fits m) (ht : Pow10 w) : Calls Tryd.prog 19 #[.int .i64 4, .string s, .int .i64 n, .int .i64 m] w (Bads (if (s.size : Int) ≤ m then 0 else 1) w) := by
  by_cases h : (s.size : Int) ≤ m
  · rw [if_pos h]; exact limitBad_4_ok s n m w h hs fm ht
  · rw [if_neg h]; exact limitBad_4_bad s n m w (by omega) hs fm ht

set_option maxRecDepth 100000 in
set_option maxHeartbeats 800000 in
theorem fnLimText_walk (s : ByteArray) (m : Int) (w : World) (fm : Fits m) (ht : Pow10 w) : Calls Tryd.prog 11 #[.string s, .int .i64 m] w (SaysTrue w) := by
  have HT := Lib.hid ht
  have HM := Lib.hid fm
  clear ht fm
  by_cases hs : s.size ≤ 2147483647
  · have hr1 := Lib.runeCount_le s
    have h2 := fun W (h : Pow10 W) => limitBad_2 s 0 m W hs HM.out h
    have h3 := fun W (h : Pow10 W) => limitBad_3 s 0 m W hs HM.out h
    have h4 := fun W (h : Pow10 W) => limitBad_4 s 0 m W hs HM.out h
    have hch := fun W => characters_any s W (by omega)
    have H2 := Lib.hid h2
    have H3 := Lib.hid h3
    have H4 := Lib.hid h4
    have HCH := Lib.hid hch
    clear h2 h3 h4 hch
    generalize Lib.runeCount s = rc at *
    by_cases e2 : m ≤ (rc : Int)
    · by_cases e3 : (rc : Int) ≤ m
      · by_cases e4 : (s.size : Int) ≤ m
        · have d2 : decide (m ≤ (rc : Int)) = true := by simp; omega
          have d3 : decide ((rc : Int) ≤ m) = true := by simp; omega
          have d4 : decide ((s.size : Int) ≤ m) = true := by simp; omega
          go_enter Tryd.func11, Tryd.ntmps11
          go_wp2_with fail
          refine (HCH.out _).mono ?_
          rintro e w0 ⟨rfl, hb⟩
          have HB0 := Lib.hid hb
          clear hb
          go_wp2_with fail
          refine (H2.out _ (HT.out.below HB0.out)).mono ?_
          rintro e w1 ⟨rfl, hb⟩
          have HB1 := Lib.hid (b0_then HB0.out hb)
          clear hb
          rw [if_pos (by omega)]
          go_wp2_with fail
          refine (H3.out _ (HT.out.below HB1.out)).mono ?_
          rintro e w2 ⟨rfl, hb⟩
          have HB2 := Lib.hid (b0_then HB1.out hb)
          clear hb
          rw [if_pos (by omega)]
          go_wp2_with fail
          refine (H4.out _ (HT.out.below HB2.out)).mono ?_
          rintro e w3 ⟨rfl, hb⟩
          have HB3 := Lib.hid (b0_then HB2.out hb)
          clear hb
          rw [if_pos (by omega)]
          go_wp2_with fail
          go_ret
          exact ⟨rfl, HB3.out⟩
        · have d2 : decide (m ≤ (rc : Int)) = true := by simp; omega
          have d3 : decide ((rc : Int) ≤ m) = true := by simp; omega
          have d4 : decide ((s.size : Int) ≤ m) = false := by simp; omega
          go_enter Tryd.func11, Tryd.ntmps11
          go_wp2_with fail
          refine (HCH.out _).mono ?_
          rintro e w0 ⟨rfl, hb⟩
          have HB0 := Lib.hid hb
          clear hb
          go_wp2_with fail
          refine (H2.out _ (HT.out.below HB0.out)).mono ?_
          rintro e w1 ⟨rfl, hb⟩
          have HB1 := Lib.hid (b0_then HB0.out hb)
          clear hb
          rw [if_pos (by omega)]
          go_wp2_with fail
          refine (H3.out _ (HT.out.below HB1.out)).mono ?_
          rintro e w2 ⟨rfl, hb⟩
          have HB2 := Lib.hid (b0_then HB1.out hb)
          clear hb
          rw [if_pos (by omega)]
          go_wp2_with fail
          refine (H4.out _ (HT.out.below HB2.out)).mono ?_
          rintro e w3 ⟨rfl, hb⟩
          have HB3 := Lib.hid (b0_then HB2.out hb)
          clear hb
          rw [if_neg (by omega)]
          go_wp2_with fail
          go_ret
          exact ⟨rfl, HB3.out⟩
      · have d2 : decide (m ≤ (rc : Int)) = true := by simp; omega
        have d3 : decide ((rc : Int) ≤ m) = false := by simp; omega
        have d4 : decide ((s.size : Int) ≤ m) = false := by simp; omega
        go_enter Tryd.func11, Tryd.ntmps11
        go_wp2_with fail
        refine (HCH.out _).mono ?_
        rintro e w0 ⟨rfl, hb⟩
        have HB0 := Lib.hid hb
        clear hb
        go_wp2_with fail
        refine (H2.out _ (HT.out.below HB0.out)).mono ?_
        rintro e w1 ⟨rfl, hb⟩
        have HB1 := Lib.hid (b0_then HB0.out hb)
        clear hb
        rw [if_pos (by omega)]
        go_wp2_with fail
        refine (H3.out _ (HT.out.below HB1.out)).mono ?_
        rintro e w2 ⟨rfl, hb⟩
        have HB2 := Lib.hid (b0_then HB1.out hb)
        clear hb
        rw [if_neg (by omega)]
        go_wp2_with fail
        refine (H4.out _ (HT.out.below HB2.out)).mono ?_
        rintro e w3 ⟨rfl, hb⟩
        have HB3 := Lib.hid (b0_then HB2.out hb)
        clear hb
        rw [if_neg (by omega)]
        go_wp2_with fail
        go_ret
        exact ⟨rfl, HB3.out⟩
    · by_cases e4 : (s.size : Int) ≤ m
      · have d2 : decide (m ≤ (rc : Int)) = false := by simp; omega
        have d3 : decide ((rc : Int) ≤ m) = true := by simp; omega
        have d4 : decide ((s.size : Int) ≤ m) = true := by simp; omega
        go_enter Tryd.func11, Tryd.ntmps11
        go_wp2_with fail
        refine (HCH.out _).mono ?_
        rintro e w0 ⟨rfl, hb⟩
        have HB0 := Lib.hid hb
        clear hb
        go_wp2_with fail
        refine (H2.out _ (HT.out.below HB0.out)).mono ?_
        rintro e w1 ⟨rfl, hb⟩
        have HB1 := Lib.hid (b0_then HB0.out hb)
        clear hb
        rw [if_neg (by omega)]
        go_wp2_with fail
        refine (H3.out _ (HT.out.below HB1.out)).mono ?_
        rintro e w2 ⟨rfl, hb⟩
        have HB2 := Lib.hid (b0_then HB1.out hb)
        clear hb
        rw [if_pos (by omega)]
        go_wp2_with fail
        refine (H4.out _ (HT.out.below HB2.out)).mono ?_
        rintro e w3 ⟨rfl, hb⟩
        have HB3 := Lib.hid (b0_then HB2.out hb)
        clear hb
        rw [if_pos (by omega)]
        go_wp2_with fail
        go_ret
        exact ⟨rfl, HB3.out⟩
      · have d2 : decide (m ≤ (rc : Int)) = false := by simp; omega
        have d3 : decide ((rc : Int) ≤ m) = true := by simp; omega
        have d4 : decide ((s.size : Int) ≤ m) = false := by simp; omega
        go_enter Tryd.func11, Tryd.ntmps11
        go_wp2_with fail
        refine (HCH.out _).mono ?_
        rintro e w0 ⟨rfl, hb⟩
        have HB0 := Lib.hid hb
        clear hb
        go_wp2_with fail
        refine (H2.out _ (HT.out.below HB0.out)).mono ?_
        rintro e w1 ⟨rfl, hb⟩
        have HB1 := Lib.hid (b0_then HB0.out hb)
        clear hb
        rw [if_neg (by omega)]
        go_wp2_with fail
        refine (H3.out _ (HT.out.below HB1.out)).mono ?_
        rintro e w2 ⟨rfl, hb⟩
        have HB2 := Lib.hid (b0_then HB1.out hb)
        clear hb
        rw [if_pos (by omega)]
        go_wp2_with fail
        refine (H4.out _ (HT.out.below HB2.out)).mono ?_
        rintro e w3 ⟨rfl, hb⟩
        have HB3 := Lib.hid (b0_then HB2.out hb)
        clear hb
        rw [if_neg (by omega)]
        go_wp2_with fail
        go_ret
        exact ⟨rfl, HB3.out⟩
  · go_enter Tryd.func11, Tryd.ntmps11
    go_wp2_with fail
    go_ret
    exact ⟨rfl, b0_refl w⟩

end Go.Proofs.YtefnfcpekiaenaaDoor
