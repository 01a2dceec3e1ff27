/- FnAskedFrom returns true for every input: the label selector of labels has these, and no rule, and it is these labels again. No condition beyond the row's own. -/
import Derived.Test.YtefnfcpekiaenaaAsk
import Derived.Test.YtefnfcpekiaenaaShelf
import Derived.Test.YtefnfcpekiaenaaRows
import Derived.ProofKit
import Derived.OpenShut
import Derived.Stop.Joined
import Derived.Deep.SlicePairs
import Derived.Carry
namespace Go.Proofs.Ytefnfcpekiaenaa
open Go.RowKit Go.Proofs Go.Maps Go.Sort

open Go.ChangeShapes Go.WideShapes Go.ChangeAt Go.WideMaps Go.WideElems

theorem sortLaw : SortLaw := fun blk off cap ss w hH hblk hsz => Try.slices_Sort_string blk off cap ss w hH hblk hsz
theorem sortNil : SortNil := fun p cap w => Try.slices_Sort_string_none p cap w
theorem Try.laidOut : laidOutB Try.prog = true := by kernel_rfl
theorem own : ownKnob Try.prog.godebug = none := by kernel_rfl
theorem Try.cells9 : Try.prog.cellsOf 9 = 1 := by kernel_rfl
theorem Try.cells30 : Try.prog.cellsOf 30 = 2 := by kernel_rfl

/-- The bytes of a text. -/
def bytesOf : Value → List UInt8
  | .string s => s.data.toList
  | _ => []
theorem enc_bytesOf (s : ByteArray) : encStr (bytesOf (.string s)) = .string s := by simp [bytesOf, encStr]
theorem spot_none {w : World} {a : Addr} {v : Value} (h : w.cell? a = some v) : a.spot = none := by
  unfold World.cell? at h
  split at h
  · cases hs : a.spot with
    | none => rfl
    | some x => rw [hs] at h; simp at h
  · cases h

/-- A slice of pairs that came in: its cells. -/
theorem open_pairs {H : Type} {enc : TypeId × Value → H} {w : World} {base : Nat} {spare : Nat → Bool} {held : Bool} {fuel : Nat} {A : Option Addr} {n c : Nat} {x : DataW H × List MemPlace}
    (h : DataW.trod enc Try.prog w base spare held fuel 22 [.slice A n c] = some x) : ∃ l : List (List UInt8 × List UInt8), l.length = n ∧ Lens l ∧ PairRow w A l := by
  rcases Go.Deep.open_slice_pairs Try.underlying22 Try.underlying30 Try.cells30 rfl rfl Try.cells9 Try.cells9 h with ⟨h0, _⟩ | ⟨a, len, cap, m, k, V0, V1, D0, D1, P0, P1, hs, _, hlc, _, hm, _, hx⟩
  · simp only [List.cons.injEq, and_true, Value.slice.injEq] at h0
    obtain ⟨rfl, rfl, rfl⟩ := h0
    exact ⟨[], rfl, (fun p hp => by cases hp), (fun k hk => absurd hk (by simp))⟩
  · simp only [List.cons.injEq, and_true, Value.slice.injEq] at hs
    obtain ⟨rfl, rfl, rfl⟩ := hs
    have hnm : n ≤ m := by rw [hm]; split <;> omega
    refine ⟨(List.range n).map fun i => (bytesOf (V0 i), bytesOf (V1 i)), by simp, ?_, ?_⟩
    · intro p hp
      obtain ⟨i, hi, rfl⟩ := List.mem_map.1 hp
      obtain ⟨_, _, t0, t1⟩ := hx i (by have := List.mem_range.1 hi; omega)
      obtain ⟨s0, e0, _, b0⟩ := DataW.trod_string Try.underlying9 t0
      obtain ⟨s1, e1, _, b1⟩ := DataW.trod_string Try.underlying9 t1
      simp only [List.cons.injEq, and_true] at e0 e1
      rw [e0, e1]
      exact ⟨by show s0.data.toList.length ≤ maxLen; rw [Array.length_toList]; exact b0, by show s1.data.toList.length ≤ maxLen; rw [Array.length_toList]; exact b1⟩
    · intro i hi
      have hi' : i < n := by simpa using hi
      obtain ⟨c0, c1, t0, t1⟩ := hx i (by omega)
      obtain ⟨s0, e0, _, _⟩ := DataW.trod_string Try.underlying9 t0
      obtain ⟨s1, e1, _, _⟩ := DataW.trod_string Try.underlying9 t1
      simp only [List.cons.injEq, and_true] at e0 e1
      have c00 := (hx 0 (by omega)).1
      have hsp : a.spot = none := by
        have := spot_none c00
        simpa [Addr.add] using this
      obtain ⟨b, o, sp⟩ := a
      simp only at hsp
      subst hsp
      have a0 : (⟨b, o, none⟩ : Addr).add (i * 2) = ⟨b, o + i * 2, none⟩ := by
        unfold Addr.add
        split
        · rename_i h0; rw [h0]; rfl
        · rfl
      have a1 : (⟨b, o, none⟩ : Addr).add (i * 2 + 1) = ⟨b, o + i * 2 + 1, none⟩ := by
        unfold Addr.add
        rw [if_neg (by omega)]
        rfl
      rw [a0] at c0
      rw [a1] at c1
      refine ⟨b, o, rfl, World.block_lt_of_cell? w _ c0, ?_, ?_⟩
      · rw [c0, e0]; simp [bytesOf, encStr, e0]
      · rw [c1, e1]; simp [bytesOf, encStr, e1]

set_option maxRecDepth 100000 in
theorem AskedFrom.lifted (os : Os) (started : os.Started) (H : Type) (enc : TypeId × Value → H) :
    ReturnsInHanded {} Try.checked os 4 .any (Rows.fnAskedFromSpec.pre6 enc Try.prog Try.f4 [] false)
      (Rows.fnAskedFromSpec.post enc Try.prog Try.f4 false true false false) := by
  refine returnsInHanded_of_change (C := Try.checked) own started (by kernel_rfl) Try.func4
    (ChangeSpec.witness6 (enc := enc) (C := Try.checked) false ⟨#[], #[.slice none 0 0], []⟩ 8 (by kernel_rfl) (by kernel_rfl) (by kernel_rfl) (by kernel_rfl)) ?_
  intro W base args ds gs before hval0 hW _ _
  have hval : ∀ (j : Nat) t v, Try.f4.params[j]? = some t → args[j]? = some v → Value.okWide Try.prog W .any base t v := hval0
  have hW' := hW
  obtain ⟨p, q, hA0, hV, rfl, hfz, hnd⟩ := hW
  have hA : DataW.TrodAll enc Try.prog W 0 (fun _ => true) true Try.f4.params.toList args.toList ds p := hA0
  rw [Try.params4] at hA hval
  obtain ⟨v0, d0, rfl, rfl, h0⟩ := trodAll_one hA
  obtain ⟨rfl, rfl⟩ := trodVars_none hV
  obtain ⟨A, n, c, rfl⟩ := okWide_slice Try.underlying22 (hval 0 22 v0 rfl rfl)
  have h0k := h0
  have hlt : ∀ x ∈ p, x.block < W.heap.size := fun x hx => hW'.lt x (by simp [hx])
  obtain ⟨fuel0, hf0⟩ := h0
  obtain ⟨l, hl, hlen, hr⟩ := open_pairs (by simpa [Value.cells] using hf0)
  clear hA0 hval0
  simp only [List.append_nil] at hW'
  refine (fnAskedFrom_walk sortLaw sortNil A n c l W hl hlen hr).mono fun e W' ⟨he, hb⟩ => ?_
  subst he
  refine ⟨_, rfl, _, _, _, [], p, [], hW', ?_, ?_, rfl, hb.frame _, fun h => by cases h⟩
  · exact trodAll_mk1 (shut_bool Try.underlying4 _)
  · have k0 := Below.trod Try.laidOut (by kernel_rfl) (of_decide_eq_true (by kernel_rfl)) h0k hb hlt
    exact trodAll_mk1 k0

theorem AskedFrom.said : Rows.FnAskedFromSaid :=
  OpenClaim.holds_of_wide 4 Try.f4 rfl rfl rfl rfl rfl rfl rfl ⟨rfl, rfl, rfl, rfl, rfl⟩ rfl rfl rfl rfl rfl (by kernel_rfl) Try.func4 (by kernel_rfl)
    (of_decide_eq_true (by kernel_rfl)) (by unfold Func.isWrapper; first | (rw [if_pos (by decide +kernel)]; kernel_rfl) | (rw [if_neg (by decide +kernel)]; exact ⟨rfl, rfl⟩))
    (fun os started H enc _ => AskedFrom.lifted os started H enc)
#print axioms AskedFrom.said

end Go.Proofs.Ytefnfcpekiaenaa
