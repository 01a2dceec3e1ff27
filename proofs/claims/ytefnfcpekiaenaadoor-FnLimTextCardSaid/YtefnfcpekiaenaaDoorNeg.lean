/- ValidateNonnegativeField has an error just if the number is below 0, and the law FnLimNegative returns true for every number. -/
import Derived.Test.YtefnfcpekiaenaaDoorErr
namespace Go.Proofs.YtefnfcpekiaenaaDoor
open Go.RowKit

/-- It returns a list of k errors; nothing that lay has turned. -/
def Errs (k : Nat) (w : World) (e : Ending) (w' : World) : Prop := ∃ a c, e = .returned (.slice a k c) ∧ Below w.heap.size w w'
/-- It returns a number of errors. -/
def Bads (k : Int) (w : World) (e : Ending) (w' : World) : Prop := e = .returned (.int .i64 k) ∧ Below w.heap.size w w'

theorem info69 : (Tryd.prog.info? 69).map (fun i => (i.zero, i.size, i.bytes)) = some (some (.pointer none), 1, 8) := by kernel_rfl

theorem own_empty (w : World) : (w.alloc (.cells #[] 69)).ownsRow w.heap.size 69 1 (.slice (some ⟨w.heap.size, 0, none⟩) 0 0) 0 [] :=
  ⟨rfl, .inr ⟨w.heap.size, 0, #[], rfl, Nat.le_refl _, heap_alloc_new w _, Nat.le_refl _, Nat.zero_le _, rfl, rfl⟩⟩

set_option maxRecDepth 100000 in
theorem nonneg_ok (n : Int) (p : Value) (w : World) (h : 0 ≤ n) : Calls Tryd.prog 21 #[.int .i64 n, p] w (Errs 0 w) := by
  go_enter Tryd.func21, Tryd.ntmps21
  go_wp2_with fail
  go_ret
  exact ⟨_, _, rfl, (Below.refl _ w).alloc (Nat.le_refl _) _⟩

set_option maxRecDepth 100000 in
theorem nonneg_bad (n : Int) (c : Nat) (w : World) (h : n < 0) (hp : PathOk w c) : Calls Tryd.prog 21 #[.int .i64 n, .pointer (some ⟨c, 0, none⟩)] w (Errs 1 w) := by
  obtain ⟨i0, hi, hz0, hz1, hz2⟩ := info_parts info69
  have hp1 : PathOk (w.alloc (.cells #[] 69)) c := hp.keep fun k hk => heap_alloc_old _ _ hk
  have HO := Lib.hid (own_empty w)
  go_enter Tryd.func21, Tryd.ntmps21
  go_wp2_with fail
  refine (invalid_any c _ _ _ _ hp1).mono ?_
  rintro e w1 ⟨g, rfl, hg0, hg1, hc, hf, hb⟩
  have hsz := hb.size
  go_wp2_with fail
  refine (withOrigin_any g _ _ hc hf).mono ?_
  rintro e w2 ⟨rfl, rfl⟩
  have hb2 : Below (w.heap.size + 1) (w.alloc (.cells #[] 69)) (w1.setCell ⟨g, 4, none⟩ (.string ⟨#[109, 105, 110, 105, 109, 117, 109]⟩)) := by
    have := hb.setCell (p := ⟨g, 4, none⟩) hg0 (.string ⟨#[109, 105, 110, 105, 109, 117, 109]⟩)
    simpa using this
  have hlt2 : g < (w1.setCell ⟨g, 4, none⟩ (.string ⟨#[109, 105, 110, 105, 109, 117, 109]⟩)).heap.size := by simpa using hg1
  generalize w1.setCell ⟨g, 4, none⟩ (.string ⟨#[109, 105, 110, 105, 109, 117, 109]⟩) = w2 at *
  have hown : w2.ownsRow w.heap.size 69 1 (.slice (some ⟨w.heap.size, 0, none⟩) 0 0) 0 [] :=
    ⟨rfl, .inr ⟨w.heap.size, 0, #[], rfl, Nat.le_refl _, (hb2.block w.heap.size (by omega)).trans (heap_alloc_new w _), Nat.le_refl _, Nat.zero_le _, rfl, rfl⟩⟩
  have hs2 := hb2.size
  have hB2 : Below w.heap.size w w2 := ((Below.refl _ w).alloc (Nat.le_refl _) _).trans (hb2.mono (by simp))
  have HB2 := Lib.hid hB2
  clear hb2 hb hc hf hsz HO hp1 hp hB2 hg0 hg1
  go_wp2_with (at_builtin; refine wpList_append_own _ rfl _ _ 40 rfl w.heap.size 69 i0 (.pointer none) 1 8 Tryd.underlying40 hi hz0 hz1 hz2 rfl (by decide) _ _ _ rfl (hown.alloc _) ⟨w2.heap.size, 0, none⟩ 1 1 [.pointer (some ⟨g, 0, none⟩)] rfl rfl ?c1 ?c2 ?c3 ?c4 ?c5 ?_)
  case c1 => exact cell_one_new _ _ _
  case c2 => simp [Value.oneCell']
  case c3 => unfold maxLen; omega
  case c4 => omega
  case c5 => simp at hs2; simp; omega
  intro v' w3 hown3 hg3 hnil3
  clear hnil3
  obtain ⟨g3, cap3, hv3, hge3, hlt3⟩ := hown3.form (by omega)
  rw [hv3]
  have HB3 := Lib.hid ((HB2.out.alloc HB2.out.size (.cells #[.pointer (some ⟨g, 0, none⟩)] 69)).grown hg3 (by have := HB2.out.size; simp; omega) (fun j hj => by simp [Value.ownBlock] at hj; omega))
  clear hv3 hown3 hg3 hown hs2
  go_wp2_with fail
  go_ret
  exact ⟨_, _, rfl, HB3.out⟩

set_option maxRecDepth 100000 in
theorem negativeBad_any (n : Int) (w : World) : Calls Tryd.prog 12 #[.int .i64 n] w (Bads (if n < 0 then 1 else 0) w) := by
  by_cases h : n < 0
  · rw [if_pos h]
    go_enter Tryd.func12, Tryd.ntmps12
    go_wp2_with fail
    refine (newPath_ok _ w (by decide) (by decide)).mono ?_
    rintro e w1 ⟨rfl, hn, hlt, hb⟩
    have hp : PathOk w1 w.heap.size := .inl ⟨_, hn⟩
    have HP := Lib.hid hp
    have HB := Lib.hid hb
    clear hn hb hp
    go_wp2_with fail
    refine (nonneg_bad n _ _ h HP.out).mono ?_
    rintro e w2 ⟨a, c, rfl, hb2⟩
    have HB2 := Lib.hid hb2
    clear hb2
    go_wp2_with fail
    go_ret
    exact ⟨rfl, HB.out.trans (HB2.out.mono (by omega))⟩
  · rw [if_neg h]
    go_enter Tryd.func12, Tryd.ntmps12
    go_wp2_with fail
    refine (newPath_ok _ w (by decide) (by decide)).mono ?_
    rintro e w1 ⟨rfl, hn, hlt, hb⟩
    have HB := Lib.hid hb
    clear hn hb
    go_wp2_with fail
    refine (nonneg_ok n _ _ (by omega)).mono ?_
    rintro e w2 ⟨a, c, rfl, hb2⟩
    have HB2 := Lib.hid hb2
    clear hb2
    go_wp2_with fail
    go_ret
    exact ⟨rfl, HB.out.trans (HB2.out.mono (by omega))⟩

/-- It returns true; nothing that lay has turned. -/
def SaysTrue (w : World) (e : Ending) (w' : World) : Prop := e = .returned (.bool true) ∧ Below w.heap.size w w'

set_option maxRecDepth 100000 in
theorem fnLimNegative_walk (n : Int) (w : World) : Calls Tryd.prog 3 #[.int .i64 n] w (SaysTrue w) := by
  by_cases h : n < 0
  · have hd : decide (n < 0) = true := by simpa using h
    go_enter Tryd.func3, Tryd.ntmps3
    go_wp2_with fail
    refine (negativeBad_any n w).mono ?_
    rintro e w1 ⟨rfl, hb⟩
    have HB := Lib.hid hb
    clear hb
    rw [if_pos h]
    go_wp2_with fail
    go_ret
    exact ⟨rfl, HB.out⟩
  · have hd : decide (n < 0) = false := by simpa using h
    go_enter Tryd.func3, Tryd.ntmps3
    go_wp2_with fail
    refine (negativeBad_any n w).mono ?_
    rintro e w1 ⟨rfl, hb⟩
    have HB := Lib.hid hb
    clear hb
    rw [if_neg (by omega)]
    go_wp2_with fail
    go_ret
    exact ⟨rfl, HB.out⟩
end Go.Proofs.YtefnfcpekiaenaaDoor
