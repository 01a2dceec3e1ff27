/-
  No cell of these rows narrows 'for every input' (looked for: loops, veiled, ifaces, maps, wideKeys, modest, calm, conditions, laid).
  DERIVED. THE GIVEN ROWS OF THIS SEAT. 2 by the template 'for every input the law returns true; each argument reads behind the call as it read before'; 0 by the template 'total and deterministic' (their statements: YtefnfcpekiaenaaTotals.lean).
  GIVEN WITH THE SEED: the statements are not yours to turn. If you find one false, say at which input.
  Laid BY PROGRAM, IN A SANDBOX (cutbox-rows.mjs): the forced cells as the released guide's own fill.sh prints them over the translation 92fb0c756d56ab71… (all of the seat's roots in one cut). By AI agents, Wed Nov 11 2026. No macro, syntax, notation, axiom, sorry.
-/
import Derived.Test.YtefnfcpekiaenaaChecked
import GoSem.Claim
import GoSem.ClaimJoined
import GoSem.ClaimMapViews
import Derived.JoinedTies
import Derived.KernelRfl
namespace Go.Proofs.Ytefnfcpekiaenaa
/- THE CELL 'sum', in the pinned program and in every row, IS THE sha256 OF THE DUMP (.gsa) THAT YtefnfcpekiaenaaProg.lean LOADS. Nothing in Lean hashes anything: it is a label: what it is worth is what the hold of that sum in a sandbox is worth. -/
noncomputable def Try.pinned : Pinned := { name := "ytefnfcpekiaenaa", sum := "92fb0c756d56ab7106425b109ba05923283f73465e22ebec438f99790fe7fb25", checked := Try.checked }
namespace Rows
def none {H : Type} : Left H := { results := [], args := [] }

/-- 'laws.FnAskedMap': WHATEVER THE INPUT: true; the input reads as it did. -/
def fnAskedMapSpec : ChangeSpec := { name := "fnAskedMap", fn := fun _ => fun
  | [d] => { results := [.lit (.bool true)], args := [d] }
  | _ => none }
def fnAskedMapRow : OpenClaim := { program := "ytefnfcpekiaenaa", sum := "92fb0c756d56ab7106425b109ba05923283f73465e22ebec438f99790fe7fb25", func := "pub-doorplate/laws.FnAskedMap", spec := "fnAskedMap", recurses := true, apart := false }
def FnAskedMapSaid : Prop := fnAskedMapRow.holds Try.pinned (OpenSpec.ofChange fnAskedMapSpec)

/-- ITS FALSE NEIGHBOUR: 'it returns false'. Refute it at one input. -/
def fnAskedMapWrong : ChangeSpec := { name := "fnAskedMap", fn := fun _ => fun
  | [d] => { results := [.lit (.bool false)], args := [d] }
  | _ => none }
def FnAskedMapWrongFalsely : Prop := fnAskedMapRow.holds Try.pinned (OpenSpec.ofChange fnAskedMapWrong)

/-- 'laws.FnAskedFrom': WHATEVER THE INPUT: true; the input reads as it did. -/
def fnAskedFromSpec : ChangeSpec := { name := "fnAskedFrom", fn := fun _ => fun
  | [d] => { results := [.lit (.bool true)], args := [d] }
  | _ => none }
def fnAskedFromRow : OpenClaim := { program := "ytefnfcpekiaenaa", sum := "92fb0c756d56ab7106425b109ba05923283f73465e22ebec438f99790fe7fb25", func := "pub-doorplate/laws.FnAskedFrom", spec := "fnAskedFrom", recurses := true, apart := false }
def FnAskedFromSaid : Prop := fnAskedFromRow.holds Try.pinned (OpenSpec.ofChange fnAskedFromSpec)

/-- ITS FALSE NEIGHBOUR: 'it returns false'. Refute it at one input. -/
def fnAskedFromWrong : ChangeSpec := { name := "fnAskedFrom", fn := fun _ => fun
  | [d] => { results := [.lit (.bool false)], args := [d] }
  | _ => none }
def FnAskedFromWrongFalsely : Prop := fnAskedFromRow.holds Try.pinned (OpenSpec.ofChange fnAskedFromWrong)

/- THE SECOND FORM. 'bulk': how many values and letters a reading holds, each counted each time it is reached (what is shared counts as often as it is met; a slice's spare places count too). A statement '..UptoSaid' is the law's where the arguments, and the package variables that the reading takes, are together of bulk at most 1048576: NARROWER than '..Said'. Prove '..Said' where nothing that the law and all that it calls make is longer than what came in: it says more and counts as full. Else prove '..UptoSaid'. A law counts once. -/
mutual
def uptoBulk {H : Type} : DataW H → Nat
  | .lit (.string bytes) => bytes.length + 1
  | .lit _ => 1
  | .nil => 1
  | .ptr d => uptoBulk d + 1
  | .slice elems spare => uptoBulkAll elems + uptoBulkAll spare + 1
  | .agg parts => uptoBulkAll parts + 1
  | .iface _ d => uptoBulk d + 1
  | .map entries => uptoBulkEntries entries + 1
  | .held _ => 1
def uptoBulkAll {H : Type} : List (DataW H) → Nat
  | [] => 0
  | d :: r => uptoBulk d + uptoBulkAll r
def uptoBulkEntries {H : Type} : List (Lit × DataW H) → Nat
  | [] => 0
  | x :: r => uptoBulkEntry x + uptoBulkEntries r
def uptoBulkEntry {H : Type} : Lit × DataW H → Nat
  | (.string bytes, d) => bytes.length + uptoBulk d + 1
  | (_, d) => uptoBulk d + 1
 end
def uptoSmall : (H : Type) → List (DataW H) → Bool := fun _ ds => decide (uptoBulkAll ds ≤ 1048576)
def OpenSpec.upto (s : _root_.Go.ChangeSpec) : _root_.Go.OpenSpec := { _root_.Go.OpenSpec.ofChange s with cond := some uptoSmall }

/-- 'laws.FnAskedMap', WHERE WHAT IT READS IS OF BULK AT MOST 1048576: true; the input reads as it did. -/
def fnAskedMapUptoRow : OpenClaim := { program := "ytefnfcpekiaenaa", sum := "92fb0c756d56ab7106425b109ba05923283f73465e22ebec438f99790fe7fb25", func := "pub-doorplate/laws.FnAskedMap", spec := "fnAskedMap", recurses := true, apart := false, narrowed := true }
def FnAskedMapUptoSaid : Prop := fnAskedMapUptoRow.holds Try.pinned (OpenSpec.upto fnAskedMapSpec)

/-- 'laws.FnAskedFrom', WHERE WHAT IT READS IS OF BULK AT MOST 1048576: true; the input reads as it did. -/
def fnAskedFromUptoRow : OpenClaim := { program := "ytefnfcpekiaenaa", sum := "92fb0c756d56ab7106425b109ba05923283f73465e22ebec438f99790fe7fb25", func := "pub-doorplate/laws.FnAskedFrom", spec := "fnAskedFrom", recurses := true, apart := false, narrowed := true }
def FnAskedFromUptoSaid : Prop := fnAskedFromUptoRow.holds Try.pinned (OpenSpec.upto fnAskedFromSpec)

end Rows
end Go.Proofs.Ytefnfcpekiaenaa
