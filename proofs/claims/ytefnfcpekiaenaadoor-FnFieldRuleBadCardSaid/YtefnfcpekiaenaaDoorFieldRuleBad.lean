/- FnFieldRuleBad returns true for every input: a field's rule has no error by ValidateFieldSelectorRequirement just if it has a key, and as many values as its operator asks for, and the operator is known (or others are allowed). Condition: bytes.ErrTooLarge reads as the program's own text lays it (the card ties that). -/
import Derived.Test.YtefnfcpekiaenaaDoorFld
import Derived.Test.YtefnfcpekiaenaaDoorCards
import Derived.Test.YtefnfcpekiaenaaDoorTie
import Derived.ProofKit
import Derived.LaidMore
import Derived.OpenShut
import Derived.Stop.Joined
import Derived.SevenTiedAt
import Derived.Lib.LaidTab
import Derived.Lib.SmallJoins
import Derived.SliceStrings
import Derived.Carry
namespace Go.Proofs.YtefnfcpekiaenaaDoor.FieldRuleBad
open Go.ChangeShapes Go.WideShapes Go.ChangeAt Go.WideMaps Go.WideElems Go.RowKit
open Go.ChangeMaps (open_string shut_string)

theorem cells28 : Tryd.prog.cellsOf 28 = 3 := by kernel_rfl
theorem cells9 : Tryd.prog.cellsOf 9 = 1 := by kernel_rfl
theorem Tryd.laidOut : laidOutB Tryd.prog = true := by kernel_rfl
theorem own : ownKnob Tryd.prog.godebug = none := by kernel_rfl

/-- The door's own heap meets the condition: three closed facts. -/
theorem door_met (os : Os) (args : Array Value) : laidMetH Tryd.prog Rows.fnFieldRuleBadRow.laid ((World.doorLaid Tryd.prog 4000 os).forCall (fun _ _ => 0) ⟨#[], args, []⟩).memory :=
  laidMetH_of_parts3 (fuel := 8) (laidMet_of_run' 8 (by kernel_rfl) (by kernel_rfl)) (by kernel_rfl) (by kernel_rfl)

set_option maxRecDepth 100000 in
theorem lifted (os : Os) (started : os.Started) (H : Type) (enc : TypeId × Value → H) :
    ReturnsInHanded {} Tryd.checked os 5 .any (fun w args => (Rows.fnFieldRuleBadSpec.pre enc Tryd.prog Tryd.f5 [] false w args ∧ laidMetH Tryd.prog Rows.fnFieldRuleBadRow.laid w) ∧ sizedMet enc Tryd.prog Tryd.f5 (OpenSpec.ofChange Rows.fnFieldRuleBadSpec) false w args)
      (Rows.fnFieldRuleBadSpec.post enc Tryd.prog Tryd.f5 false true false false) := by
  refine returnsInHanded_of_change_and (C := Tryd.checked) (X := fun w _ => laidMetH Tryd.prog Rows.fnFieldRuleBadRow.laid w) (fun _ _ _ hh h => h.of_heap hh) own started (by kernel_rfl) Tryd.func5
    (ChangeSpec.witness_shaped (enc := enc) (C := Tryd.checked) (os := os) (X := fun w _ => laidMetH Tryd.prog Rows.fnFieldRuleBadRow.laid w) false (World.doorLaid Tryd.prog 4000 os) #[.agg #[.string ⟨#[]⟩, .string ⟨#[]⟩, .slice none 0 0], .bool false] 8 rfl (World.shaped_of_RefB (by kernel_rfl) (by kernel_rfl)) (by kernel_rfl) (by kernel_rfl) (by kernel_rfl) (door_met os _)) ?_
  intro W base args ds gs before hval0 hW _ _ _ _
  have hval : ∀ (j : Nat) t v, Tryd.f5.params[j]? = some t → args[j]? = some v → Value.okWide Tryd.prog W .any base t v := hval0
  have hW' := hW
  obtain ⟨p, q, hA0, hV, rfl, hfz, hnd⟩ := hW
  have hA : DataW.TrodAll enc Tryd.prog W 0 (fun _ => true) true Tryd.f5.params.toList args.toList ds p := hA0
  rw [Tryd.params5] at hA hval
  obtain ⟨v0, v1, d0, d1, p0, p1, rfl, rfl, rfl, h0, h1⟩ := trodAll_two hA
  obtain ⟨rfl, rfl⟩ := trodVars_none hV
  obtain ⟨allow, rfl, rfl, rfl⟩ := open_bool Tryd.underlying4 (hval 1 4 v1 rfl rfl) h1
  have h0k := h0
  have hlt : ∀ x ∈ p0, x.block < W.heap.size := fun x hx => hW'.lt x (by simp [hx])
  obtain ⟨c0, c1, c2, y0, y1, y2, m, rfl, rfl, rfl, t0, t1, t2⟩ := Joins.open_agg3 Tryd.underlying28 (by kernel_rfl) cells28 (hval 0 28 v0 rfl rfl) h0
  obtain ⟨key, e0, _, _⟩ := DataW.trod_string Tryd.underlying9 t0
  obtain ⟨op, e1, _, _⟩ := DataW.trod_string Tryd.underlying9 t1
  simp only [List.cons.injEq, and_true] at e0 e1
  subst e0 e1
  clear hA0 hval0
  simp only [List.append_nil] at hW'
  have fin : ∀ (A : Option Addr) (n c : Nat) (ss : List ByteArray), c2 = .slice A n c → ss.length = n → StrRow W A ss →
      Calls Tryd.prog 5 #[.agg #[.string key, .string op, c2], .bool allow] W fun e W' => ∃ v, e = .returned v ∧ Rows.fnFieldRuleBadSpec.post enc Tryd.prog Tryd.f5 false true false false W #[.agg #[.string key, .string op, c2], .bool allow] v W' := by
    intro A n c ss hc2 hl hr
    subst hc2
    refine (fnFieldRuleBad_walk key op A n c ss allow W hl hr).mono fun e W' ⟨he, hb⟩ => ?_
    subst he
    refine ⟨_, rfl, _, _, _, [], y0.2 ++ (y1.2 ++ y2.2), [], hW', ?_, ?_, rfl, hb.frame _, fun h => by cases h⟩
    · exact trodAll_mk1 (shut_bool Tryd.underlying4 _)
    · have k0 := Below.trod Tryd.laidOut (by kernel_rfl) (of_decide_eq_true (by kernel_rfl)) h0k hb hlt
      have k1 := trodAll_mk2 k0 (shut_bool (enc := enc) (P := Tryd.prog) (w := W') (base := 0) (spare := fun b => decide (b < W.heap.size)) (held := true) Tryd.underlying4 allow)
      show DataW.TrodAll enc Tryd.prog W' 0 (fun b => decide (b < W.heap.size)) true [28, 4] [.agg #[.string key, .string op, .slice A n c], .bool allow] [.agg [y0.1, y1.1, y2.1], .lit (.bool allow)] (y0.2 ++ (y1.2 ++ y2.2))
      simpa using k1
  rcases open_strings Tryd.underlying26 Tryd.underlying9 cells9 t2 with ⟨hcs, hx⟩ | ⟨a, len, cap, ss, hcs, _, hll, hm, hz, hx, hcell, hws⟩
  · simp only [List.cons.injEq, and_true] at hcs
    exact fin none 0 0 [] hcs rfl (fun k h => absurd h (by simp))
  · simp only [List.cons.injEq, and_true] at hcs
    refine fin (some a) len cap (ss.take len) hcs (by rw [List.length_take]; split at hz <;> omega) (fun k h => ?_)
    rw [List.length_take] at h
    have h1 : k < ss.length := by omega
    have hc := hcell k h1
    refine ⟨a, rfl, ?_, ?_⟩
    · have := World.block_lt_of_cell? W _ hc
      rwa [StrRow.below.addBlock] at this
    · rw [hc, List.getElem_take]
      simp [List.getD, List.getElem?_eq_getElem h1]

theorem said : Rows.FnFieldRuleBadSaid :=
  OpenClaim.holds_of_wide 5 Tryd.f5 rfl rfl rfl rfl rfl rfl rfl ⟨rfl, rfl, rfl, rfl, rfl⟩ rfl rfl rfl rfl rfl (by kernel_rfl) Tryd.func5 (by kernel_rfl)
    (of_decide_eq_true (by kernel_rfl)) (by unfold Func.isWrapper; first | (rw [if_pos (by decide +kernel)]; kernel_rfl) | (rw [if_neg (by decide +kernel)]; exact ⟨rfl, rfl⟩))
    (fun os started H enc _ => lifted os started H enc)

theorem plain (f : FuncId) (fn : Func) (hf : Tryd.pinned.checked.prog.funcNamed "pub-doorplate/laws.FnFieldRuleBad" = some f) (hfn : Tryd.pinned.checked.prog.funcs[f]? = some fn) :
    false = Tryd.pinned.checked.prog.looks [] ∧ ∀ (j : Nat) t, fn.params[j]? = some t → Tryd.pinned.checked.prog.wantsStandIn t = false := by
  obtain rfl : f = 5 := Option.some.inj ((show Tryd.prog.funcNamed "pub-doorplate/laws.FnFieldRuleBad" = some 5 by kernel_rfl).symm.trans hf) |>.symm
  obtain rfl : fn = Tryd.f5 := (Option.some.inj (Tryd.func5.symm.trans hfn)).symm
  refine ⟨by kernel_rfl, fun j t ht => ?_⟩
  rw [Tryd.params5] at ht
  have hm : t ∈ [28, 4] := by simpa using Array.mem_of_getElem? ht
  have hall : ([28, 4].all fun u => !Tryd.prog.wantsStandIn u) = true := by kernel_rfl
  exact (show Tryd.prog.wantsStandIn t = false by simpa using List.all_eq_true.1 hall t hm)

/-- The tied card. -/
theorem card : Rows.FnFieldRuleBadCardSaid :=
  Claim7.holds_tied_plain_at .later [] _ _ _ _ said (fun _ h => by cases h) (by kernel_rfl) (fun _ h => by cases h) fnFieldRuleBad_row_tie rfl ⟨rfl, rfl⟩ (by kernel_rfl) rfl plain (by kernel_rfl)
#print axioms card
end Go.Proofs.YtefnfcpekiaenaaDoor.FieldRuleBad
