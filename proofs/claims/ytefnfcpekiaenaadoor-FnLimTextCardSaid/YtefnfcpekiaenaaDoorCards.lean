/-
  DERIVED. GIVEN WITH THE SEED: THE CARDS: each row of YtefnfcpekiaenaaDoorRows.lean that lists a variable, with what it lists TIED to the program's text (the seventh form; the later family's looks); each row that meets fmt, with fmt's text TOLD by the authors' own Lean function (tested against real Go, not proved from fmt's source: count such statements apart). THE CARD IS WHAT COUNTS. Prove the row's statement (the work); the ties are given (YtefnfcpekiaenaaDoorTie.lean); close each card by the builder's one call (the guide's Derived/Test/ToyasCard.lean, 'card_holds'). Laid BY PROGRAM, IN A SANDBOX (cutbox-door.mjs). By AI agents, Wed Nov 11 2026. No macro, syntax, notation, axiom, sorry.
-/
import Derived.Test.YtefnfcpekiaenaaDoorRows
import GoSem.ClaimSeven
namespace Go.Proofs.YtefnfcpekiaenaaDoor
namespace Rows

/-- THE TIED CARD OF 'laws.FnLimNegative'. -/
def fnLimNegativeCard : Claim7 := { stood := { row := fnLimNegativeRow, standIns := [], harness := (true, "c536de9b8ad9d20cadafa8d6cd6020982d79dd846cdb92c7916f2d2498e8fc14"), looks := false }, kinds := [], alts := [], laidByText := true, laidKinds := [.sentinel], laidTests := true, laidLooks := .later }
def FnLimNegativeCardSaid : Prop := Claim7.holds Tryd.pinned (.plain (OpenSpec.ofChange fnLimNegativeSpec)) fnLimNegativeCard

/-- THE TIED CARD OF 'laws.FnLimMonotonic'. -/
def fnLimMonotonicCard : Claim7 := { stood := { row := fnLimMonotonicRow, standIns := [], harness := (true, "c536de9b8ad9d20cadafa8d6cd6020982d79dd846cdb92c7916f2d2498e8fc14"), looks := false }, kinds := [], alts := [], laidByText := true, laidKinds := [.sentinel], laidTests := true, laidLooks := .later }
def FnLimMonotonicCardSaid : Prop := Claim7.holds Tryd.pinned (.plain (OpenSpec.ofChange fnLimMonotonicSpec)) fnLimMonotonicCard

/-- THE TIED CARD OF 'laws.FnFieldRuleBad'. -/
def fnFieldRuleBadCard : Claim7 := { stood := { row := fnFieldRuleBadRow, standIns := [], harness := (true, "c536de9b8ad9d20cadafa8d6cd6020982d79dd846cdb92c7916f2d2498e8fc14"), looks := false }, kinds := [], alts := [], laidByText := true, laidKinds := [.sentinel], laidTests := true, laidLooks := .later }
def FnFieldRuleBadCardSaid : Prop := Claim7.holds Tryd.pinned (.plain (OpenSpec.ofChange fnFieldRuleBadSpec)) fnFieldRuleBadCard

/-- THE TIED CARD OF 'laws.FnNumRange'. -/
def fnNumRangeCard : Claim7 := { stood := { row := fnNumRangeRow, standIns := [], harness := (true, "c536de9b8ad9d20cadafa8d6cd6020982d79dd846cdb92c7916f2d2498e8fc14"), looks := false }, kinds := [], alts := [], laidByText := true, laidKinds := [.data, .data, .data], laidTests := true, laidLooks := .later }
def FnNumRangeCardSaid : Prop := Claim7.holds Tryd.pinned (.plain (OpenSpec.ofChange fnNumRangeSpec)) fnNumRangeCard

/-- THE TIED CARD OF 'laws.FnNumPort'. -/
def fnNumPortCard : Claim7 := { stood := { row := fnNumPortRow, standIns := [], harness := (true, "c536de9b8ad9d20cadafa8d6cd6020982d79dd846cdb92c7916f2d2498e8fc14"), looks := false }, kinds := [], alts := [], laidByText := true, laidKinds := [.data, .data, .data], laidTests := true, laidLooks := .later }
def FnNumPortCardSaid : Prop := Claim7.holds Tryd.pinned (.plain (OpenSpec.ofChange fnNumPortSpec)) fnNumPortCard

/-- THE TIED CARD OF 'laws.FnNumUser'. -/
def fnNumUserCard : Claim7 := { stood := { row := fnNumUserRow, standIns := [], harness := (true, "c536de9b8ad9d20cadafa8d6cd6020982d79dd846cdb92c7916f2d2498e8fc14"), looks := false }, kinds := [], alts := [], laidByText := true, laidKinds := [.data, .data, .data], laidTests := true, laidLooks := .later }
def FnNumUserCardSaid : Prop := Claim7.holds Tryd.pinned (.plain (OpenSpec.ofChange fnNumUserSpec)) fnNumUserCard

/-- THE TIED CARD OF 'laws.FnLimItems'. -/
def fnLimItemsCard : Claim7 := { stood := { row := fnLimItemsRow, standIns := [], harness := (true, "c536de9b8ad9d20cadafa8d6cd6020982d79dd846cdb92c7916f2d2498e8fc14"), looks := false }, kinds := [], alts := [], laidByText := true, laidKinds := [.data, .data, .data, .sentinel], laidTests := true, laidLooks := .later }
def FnLimItemsCardSaid : Prop := Claim7.holds Tryd.pinned (.plain (OpenSpec.ofChange fnLimItemsSpec)) fnLimItemsCard

/-- THE TIED CARD OF 'laws.FnLimNumber'. -/
def fnLimNumberCard : Claim7 := { stood := { row := fnLimNumberRow, standIns := [], harness := (true, "c536de9b8ad9d20cadafa8d6cd6020982d79dd846cdb92c7916f2d2498e8fc14"), looks := false }, kinds := [], alts := [], laidByText := true, laidKinds := [.data, .data, .data, .sentinel], laidTests := true, laidLooks := .later }
def FnLimNumberCardSaid : Prop := Claim7.holds Tryd.pinned (.plain (OpenSpec.ofChange fnLimNumberSpec)) fnLimNumberCard

/-- THE TIED CARD OF 'laws.FnLimText'. -/
def fnLimTextCard : Claim7 := { stood := { row := fnLimTextRow, standIns := [], harness := (true, "c536de9b8ad9d20cadafa8d6cd6020982d79dd846cdb92c7916f2d2498e8fc14"), looks := false }, kinds := [], alts := [], laidByText := true, laidKinds := [.data, .data, .data, .sentinel], laidTests := true, laidLooks := .later }
def FnLimTextCardSaid : Prop := Claim7.holds Tryd.pinned (.plain (OpenSpec.ofChange fnLimTextSpec)) fnLimTextCard

/-- THE SECOND FORM's CARD OF 'laws.FnLimNegative'. -/
def fnLimNegativeUptoCard : Claim7 := { stood := { row := fnLimNegativeUptoRow, standIns := [], harness := (true, "c536de9b8ad9d20cadafa8d6cd6020982d79dd846cdb92c7916f2d2498e8fc14"), looks := false }, kinds := [], alts := [], laidByText := true, laidKinds := [.sentinel], laidTests := true, laidLooks := .later }
def FnLimNegativeUptoCardSaid : Prop := Claim7.holds Tryd.pinned (.plain (OpenSpec.upto fnLimNegativeSpec)) fnLimNegativeUptoCard

/-- THE SECOND FORM's CARD OF 'laws.FnLimMonotonic'. -/
def fnLimMonotonicUptoCard : Claim7 := { stood := { row := fnLimMonotonicUptoRow, standIns := [], harness := (true, "c536de9b8ad9d20cadafa8d6cd6020982d79dd846cdb92c7916f2d2498e8fc14"), looks := false }, kinds := [], alts := [], laidByText := true, laidKinds := [.sentinel], laidTests := true, laidLooks := .later }
def FnLimMonotonicUptoCardSaid : Prop := Claim7.holds Tryd.pinned (.plain (OpenSpec.upto fnLimMonotonicSpec)) fnLimMonotonicUptoCard

/-- THE SECOND FORM's CARD OF 'laws.FnFieldRuleBad'. -/
def fnFieldRuleBadUptoCard : Claim7 := { stood := { row := fnFieldRuleBadUptoRow, standIns := [], harness := (true, "c536de9b8ad9d20cadafa8d6cd6020982d79dd846cdb92c7916f2d2498e8fc14"), looks := false }, kinds := [], alts := [], laidByText := true, laidKinds := [.sentinel], laidTests := true, laidLooks := .later }
def FnFieldRuleBadUptoCardSaid : Prop := Claim7.holds Tryd.pinned (.plain (OpenSpec.upto fnFieldRuleBadSpec)) fnFieldRuleBadUptoCard

/-- THE SECOND FORM's CARD OF 'laws.FnNumRange'. -/
def fnNumRangeUptoCard : Claim7 := { stood := { row := fnNumRangeUptoRow, standIns := [], harness := (true, "c536de9b8ad9d20cadafa8d6cd6020982d79dd846cdb92c7916f2d2498e8fc14"), looks := false }, kinds := [], alts := [], laidByText := true, laidKinds := [.data, .data, .data], laidTests := true, laidLooks := .later }
def FnNumRangeUptoCardSaid : Prop := Claim7.holds Tryd.pinned (.plain (OpenSpec.upto fnNumRangeSpec)) fnNumRangeUptoCard

/-- THE SECOND FORM's CARD OF 'laws.FnNumPort'. -/
def fnNumPortUptoCard : Claim7 := { stood := { row := fnNumPortUptoRow, standIns := [], harness := (true, "c536de9b8ad9d20cadafa8d6cd6020982d79dd846cdb92c7916f2d2498e8fc14"), looks := false }, kinds := [], alts := [], laidByText := true, laidKinds := [.data, .data, .data], laidTests := true, laidLooks := .later }
def FnNumPortUptoCardSaid : Prop := Claim7.holds Tryd.pinned (.plain (OpenSpec.upto fnNumPortSpec)) fnNumPortUptoCard

/-- THE SECOND FORM's CARD OF 'laws.FnNumUser'. -/
def fnNumUserUptoCard : Claim7 := { stood := { row := fnNumUserUptoRow, standIns := [], harness := (true, "c536de9b8ad9d20cadafa8d6cd6020982d79dd846cdb92c7916f2d2498e8fc14"), looks := false }, kinds := [], alts := [], laidByText := true, laidKinds := [.data, .data, .data], laidTests := true, laidLooks := .later }
def FnNumUserUptoCardSaid : Prop := Claim7.holds Tryd.pinned (.plain (OpenSpec.upto fnNumUserSpec)) fnNumUserUptoCard

/-- THE SECOND FORM's CARD OF 'laws.FnLimItems'. -/
def fnLimItemsUptoCard : Claim7 := { stood := { row := fnLimItemsUptoRow, standIns := [], harness := (true, "c536de9b8ad9d20cadafa8d6cd6020982d79dd846cdb92c7916f2d2498e8fc14"), looks := false }, kinds := [], alts := [], laidByText := true, laidKinds := [.data, .data, .data, .sentinel], laidTests := true, laidLooks := .later }
def FnLimItemsUptoCardSaid : Prop := Claim7.holds Tryd.pinned (.plain (OpenSpec.upto fnLimItemsSpec)) fnLimItemsUptoCard

/-- THE SECOND FORM's CARD OF 'laws.FnLimNumber'. -/
def fnLimNumberUptoCard : Claim7 := { stood := { row := fnLimNumberUptoRow, standIns := [], harness := (true, "c536de9b8ad9d20cadafa8d6cd6020982d79dd846cdb92c7916f2d2498e8fc14"), looks := false }, kinds := [], alts := [], laidByText := true, laidKinds := [.data, .data, .data, .sentinel], laidTests := true, laidLooks := .later }
def FnLimNumberUptoCardSaid : Prop := Claim7.holds Tryd.pinned (.plain (OpenSpec.upto fnLimNumberSpec)) fnLimNumberUptoCard

/-- THE SECOND FORM's CARD OF 'laws.FnLimText'. -/
def fnLimTextUptoCard : Claim7 := { stood := { row := fnLimTextUptoRow, standIns := [], harness := (true, "c536de9b8ad9d20cadafa8d6cd6020982d79dd846cdb92c7916f2d2498e8fc14"), looks := false }, kinds := [], alts := [], laidByText := true, laidKinds := [.data, .data, .data, .sentinel], laidTests := true, laidLooks := .later }
def FnLimTextUptoCardSaid : Prop := Claim7.holds Tryd.pinned (.plain (OpenSpec.upto fnLimTextSpec)) fnLimTextUptoCard
end Rows
end Go.Proofs.YtefnfcpekiaenaaDoor
