/- Monotonic has an error just if an update makes a number less than it had been, and the law FnLimMonotonic returns true for every input. -/
import Derived.Test.YtefnfcpekiaenaaDoorFrame
import Derived.Deep.RegionWith
import Derived.RegionTactic
import Derived.BigQuiet
import Derived.Deep.QuietTactic
namespace Go.Proofs.YtefnfcpekiaenaaDoor
open Go.RowKit

/-- The operation that is handed on: its type's number, no options, no subresources. -/
def opOf (t : Int) : Value := .agg #[.int .u32 t, .map none, .slice none 0 0]

set_option maxRecDepth 100000 in
theorem mono_create (p now old : Value) (w : World) : Calls Tryd.prog 23 #[.nilIface, .agg #[.int .u32 0, .map none, .slice none 0 0], p, now, old] w (Errs 0 w) := by
  go_enter Tryd.func23, Tryd.ntmps23
  go_wp2_with fail
  go_ret
  exact ⟨_, _, rfl, (Below.refl _ w).alloc (Nat.le_refl _) _⟩

set_option maxRecDepth 100000 in
theorem mono_first (p : Value) (a : Addr) (w : World) : Calls Tryd.prog 23 #[.nilIface, .agg #[.int .u32 1, .map none, .slice none 0 0], p, .pointer (some a), .pointer none] w (Errs 0 w) := by
  go_enter Tryd.func23, Tryd.ntmps23
  go_wp2_with fail
  go_ret
  exact ⟨_, _, rfl, (Below.refl _ w).alloc (Nat.le_refl _) _⟩

set_option maxRecDepth 100000 in
theorem mono_ok (p : Value) (g h : Nat) (a b : Int) (w : World) (hg : w.cell? ⟨g, 0, none⟩ = some (.int .i64 a)) (hh : w.cell? ⟨h, 0, none⟩ = some (.int .i64 b)) (hab : b ≤ a) :
    Calls Tryd.prog 23 #[.nilIface, .agg #[.int .u32 1, .map none, .slice none 0 0], p, .pointer (some ⟨g, 0, none⟩), .pointer (some ⟨h, 0, none⟩)] w (Errs 0 w) := by
  have hlg : g < w.heap.size := World.block_lt_of_cell? w _ hg
  have hlh : h < w.heap.size := World.block_lt_of_cell? w _ hh
  have c1 : (w.alloc (.cells #[.int .u32 1, .map none, .slice none 0 0] 50)).cell? ⟨g, 0, none⟩ = some (.int .i64 a) := by rw [World.cell?_alloc_lt _ _ _ hlg]; exact hg
  have c2 : (w.alloc (.cells #[.int .u32 1, .map none, .slice none 0 0] 50)).cell? ⟨h, 0, none⟩ = some (.int .i64 b) := by rw [World.cell?_alloc_lt _ _ _ hlh]; exact hh
  go_enter Tryd.func23, Tryd.ntmps23
  go_wp2_with fail
  go_quiet (fail)
  go_wp2_with fail
  go_ret
  exact ⟨_, _, rfl, ((Below.refl _ w).alloc (Nat.le_refl _) _).trans ⟨rfl, rfl, rfl, Nat.le_refl _, fun _ _ => rfl⟩⟩

set_option maxRecDepth 100000 in
theorem mono_bad (c : Nat) (g h : Nat) (a b : Int) (w : World) (hp : PathOk w c) (hg : w.cell? ⟨g, 0, none⟩ = some (.int .i64 a)) (hh : w.cell? ⟨h, 0, none⟩ = some (.int .i64 b)) (hab : a < b) :
    Calls Tryd.prog 23 #[.nilIface, .agg #[.int .u32 1, .map none, .slice none 0 0], .pointer (some ⟨c, 0, none⟩), .pointer (some ⟨g, 0, none⟩), .pointer (some ⟨h, 0, none⟩)] w (Errs 1 w) := by
  have hlg : g < w.heap.size := World.block_lt_of_cell? w _ hg
  have hlh : h < w.heap.size := World.block_lt_of_cell? w _ hh
  have c1 : (w.alloc (.cells #[.int .u32 1, .map none, .slice none 0 0] 50)).cell? ⟨g, 0, none⟩ = some (.int .i64 a) := by rw [World.cell?_alloc_lt _ _ _ hlg]; exact hg
  have c2 : (w.alloc (.cells #[.int .u32 1, .map none, .slice none 0 0] 50)).cell? ⟨h, 0, none⟩ = some (.int .i64 b) := by rw [World.cell?_alloc_lt _ _ _ hlh]; exact hh
  have hp1 : PathOk (w.alloc (.cells #[.int .u32 1, .map none, .slice none 0 0] 50)) c := hp.keep fun k hk => heap_alloc_old _ _ hk
  have HP := Lib.hid hp1
  clear hp hp1
  go_enter Tryd.func23, Tryd.ntmps23
  go_wp2_with fail
  go_quiet (fail)
  go_wp2_with fail
  refine (invalid_any c _ _ _ _ (by exact HP.out.keep fun k _ => rfl)).mono ?_
  rintro e w1 ⟨g1, rfl, hg0, hg1, hc, hf, hb⟩
  have hsz := hb.size
  go_wp2_with fail
  refine (withOrigin_any g1 _ _ hc hf).mono ?_
  rintro e w2 ⟨rfl, rfl⟩
  have hB := b0_set (i := 4) (b0_drewN (b0_alloc (b0_refl w) (.cells #[.int .u32 1, .map none, .slice none 0 0] 50)) nq) hb hg0 (.string ⟨#[109, 111, 110, 111, 116, 111, 110, 105, 99]⟩)
  generalize w1.setCell ⟨g1, 4, none⟩ (.string ⟨#[109, 111, 110, 111, 116, 111, 110, 105, 99]⟩) = w2 at *
  have HB := Lib.hid hB
  clear hb hc hf hB hg0 hg1 hsz
  go_wp2_with fail
  go_ret
  exact ⟨_, _, rfl, HB.out.alloc HB.out.size _⟩

set_option maxRecDepth 100000 in
theorem monotonicBad_create0 (a b : Int) (w : World) : Calls Tryd.prog 13 #[.bool false, .int .i64 a, .int .i64 b, .bool false] w (Bads 0 w) := by
  go_enter Tryd.func13, Tryd.ntmps13
  go_wp2_with fail
  go_region_with (first | (go_at_call 22; refine (newPath_any _ _).mono ?_; rintro e w1 ⟨rfl, rfl⟩) | (go_at_call 23; refine (mono_create _ _ _ _).mono ?_; rintro e w1 ⟨a, c, rfl, hb⟩))
  all_goals
    have hB : Below w.heap.size w w1 := b0_then (by repeat (first | exact b0_refl w | refine b0_alloc ?_ _ | refine b0_drew ?_ | refine b0_drewN ?_ _)) hb
    have HB := Lib.hid hB
    clear hB hb
    go_wp2_with fail
    go_ret
    exact ⟨rfl, HB.out⟩

set_option maxRecDepth 100000 in
theorem monotonicBad_create1 (a b : Int) (w : World) : Calls Tryd.prog 13 #[.bool false, .int .i64 a, .int .i64 b, .bool true] w (Bads 0 w) := by
  go_enter Tryd.func13, Tryd.ntmps13
  go_wp2_with fail
  go_region_with (first | (go_at_call 22; refine (newPath_any _ _).mono ?_; rintro e w1 ⟨rfl, rfl⟩) | (go_at_call 23; refine (mono_create _ _ _ _).mono ?_; rintro e w1 ⟨a, c, rfl, hb⟩))
  all_goals
    have hB : Below w.heap.size w w1 := b0_then (by repeat (first | exact b0_refl w | refine b0_alloc ?_ _ | refine b0_drew ?_ | refine b0_drewN ?_ _)) hb
    have HB := Lib.hid hB
    clear hB hb
    go_wp2_with fail
    go_ret
    exact ⟨rfl, HB.out⟩

set_option maxRecDepth 100000 in
theorem monotonicBad_first (a b : Int) (w : World) : Calls Tryd.prog 13 #[.bool true, .int .i64 a, .int .i64 b, .bool false] w (Bads 0 w) := by
  go_enter Tryd.func13, Tryd.ntmps13
  go_wp2_with fail
  go_region_with (first | (go_at_call 22; refine (newPath_any _ _).mono ?_; rintro e w1 ⟨rfl, rfl⟩) | (go_at_call 23; refine (mono_first _ _ _).mono ?_; rintro e w1 ⟨a, c, rfl, hb⟩))
  all_goals
    have hB : Below w.heap.size w w1 := b0_then (by repeat (first | exact b0_refl w | refine b0_alloc ?_ _ | refine b0_drew ?_ | refine b0_drewN ?_ _)) hb
    have HB := Lib.hid hB
    clear hB hb
    go_wp2_with fail
    go_ret
    exact ⟨rfl, HB.out⟩

set_option maxRecDepth 100000 in
theorem monotonicBad_ok (a b : Int) (w : World) (h : b ≤ a) : Calls Tryd.prog 13 #[.bool true, .int .i64 a, .int .i64 b, .bool true] w (Bads 0 w) := by
  go_enter Tryd.func13, Tryd.ntmps13
  go_wp2_with fail
  go_region_with (first | (go_at_call 22; refine (newPath_any _ _).mono ?_; rintro e w1 ⟨rfl, rfl⟩) | (go_at_call 23; refine (mono_ok _ _ _ a b _ ?_ ?_ h).mono ?_; (· go_simp); (· go_simp); rintro e w1 ⟨a, c, rfl, hb⟩))
  all_goals
    have hB : Below w.heap.size w w1 := b0_then (by repeat (first | exact b0_refl w | refine b0_alloc ?_ _ | refine b0_drew ?_ | refine b0_drewN ?_ _)) hb
    have HB := Lib.hid hB
    clear hB hb
    go_wp2_with fail
    go_ret
    exact ⟨rfl, HB.out⟩

set_option maxRecDepth 100000 in
theorem monotonicBad_bad (a b : Int) (w : World) (h : a < b) : Calls Tryd.prog 13 #[.bool true, .int .i64 a, .int .i64 b, .bool true] w (Bads 1 w) := by
  go_enter Tryd.func13, Tryd.ntmps13
  go_wp2_with fail
  go_region_with (first | (go_at_call 22; refine (newPath_any _ _).mono ?_; rintro e w1 ⟨rfl, rfl⟩) | (go_at_call 23; refine (mono_bad _ _ _ a b _ ?_ ?_ ?_ h).mono ?_; (· exact (path_new (by simp) (by decide) (by decide)).drew); (· go_simp); (· go_simp); rintro e w1 ⟨a, c, rfl, hb⟩))
  all_goals
    have hB : Below w.heap.size w w1 := b0_then (by repeat (first | exact b0_refl w | refine b0_alloc ?_ _ | refine b0_drew ?_ | refine b0_drewN ?_ _)) hb
    have HB := Lib.hid hB
    clear hB hb
    go_wp2_with fail
    go_ret
    exact ⟨rfl, HB.out⟩
/-- What the law asks of a number's change. -/
theorem monotonicBad_any (u h : Bool) (a b : Int) (w : World) : Calls Tryd.prog 13 #[.bool u, .int .i64 a, .int .i64 b, .bool h] w (Bads (if u = true ∧ h = true ∧ a < b then 1 else 0) w) := by
  cases u
  · rw [if_neg (by simp)]
    cases h
    · exact monotonicBad_create0 a b w
    · exact monotonicBad_create1 a b w
  · cases h
    · rw [if_neg (by simp)]
      exact monotonicBad_first a b w
    · by_cases hab : a < b
      · rw [if_pos ⟨rfl, rfl, hab⟩]
        exact monotonicBad_bad a b w hab
      · rw [if_neg (by simp; omega)]
        exact monotonicBad_ok a b w (by omega)

set_option maxRecDepth 100000 in
theorem fnLimMonotonic_walk (u h : Bool) (a b : Int) (w : World) : Calls Tryd.prog 4 #[.bool u, .int .i64 a, .int .i64 b, .bool h] w (SaysTrue w) := by
  cases u
  · go_enter Tryd.func4, Tryd.ntmps4
    go_wp2_with fail
    refine (monotonicBad_any _ _ _ _ w).mono ?_
    rintro e w1 ⟨rfl, hb⟩
    have HB := Lib.hid hb
    clear hb
    rw [if_neg (by simp)]
    go_wp2_with fail
    refine (monotonicBad_any _ _ _ _ w1).mono ?_
    rintro e w2 ⟨rfl, hb2⟩
    have HB2 := Lib.hid hb2
    clear hb2
    rw [if_pos (by simp)]
    go_wp2_with fail
    go_ret
    exact ⟨rfl, b0_then HB.out HB2.out⟩
  · cases h
    · go_enter Tryd.func4, Tryd.ntmps4
      go_wp2_with fail
      refine (monotonicBad_any _ _ _ _ w).mono ?_
      rintro e w1 ⟨rfl, hb⟩
      have HB := Lib.hid hb
      clear hb
      rw [if_neg (by simp)]
      go_wp2_with fail
      refine (monotonicBad_any _ _ _ _ w1).mono ?_
      rintro e w2 ⟨rfl, hb2⟩
      have HB2 := Lib.hid hb2
      clear hb2
      rw [if_pos (by simp)]
      go_wp2_with fail
      go_ret
      exact ⟨rfl, b0_then HB.out HB2.out⟩
    · by_cases hab : a < b
      · have hd : decide (a < b) = true := by simpa using hab
        go_enter Tryd.func4, Tryd.ntmps4
        go_wp2_with fail
        refine (monotonicBad_any _ _ _ _ w).mono ?_
        rintro e w1 ⟨rfl, hb⟩
        have HB := Lib.hid hb
        clear hb
        rw [if_pos ⟨rfl, rfl, hab⟩]
        go_wp2_with fail
        refine (monotonicBad_any _ _ _ _ w1).mono ?_
        rintro e w2 ⟨rfl, hb2⟩
        have HB2 := Lib.hid hb2
        clear hb2
        rw [if_pos (by simp)]
        go_wp2_with fail
        go_ret
        exact ⟨rfl, b0_then HB.out HB2.out⟩
      · have hd : decide (a < b) = false := by simpa using hab
        go_enter Tryd.func4, Tryd.ntmps4
        go_wp2_with fail
        refine (monotonicBad_any _ _ _ _ w).mono ?_
        rintro e w1 ⟨rfl, hb⟩
        have HB := Lib.hid hb
        clear hb
        rw [if_neg (by simp; omega)]
        go_wp2_with fail
        refine (monotonicBad_any _ _ _ _ w1).mono ?_
        rintro e w2 ⟨rfl, hb2⟩
        have HB2 := Lib.hid hb2
        clear hb2
        rw [if_pos (by simp)]
        go_wp2_with fail
        go_ret
        exact ⟨rfl, b0_then HB.out HB2.out⟩
end Go.Proofs.YtefnfcpekiaenaaDoor
