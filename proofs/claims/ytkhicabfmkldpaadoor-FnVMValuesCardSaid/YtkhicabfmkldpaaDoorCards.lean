/-
  DERIVED. GIVEN WITH THE SEED: THE CARDS: each row of YtkhicabfmkldpaaDoorRows.lean that lists a variable, with what it lists TIED to the program's text (the seventh form; the later family's looks); each row that meets fmt, with fmt's text TOLD by the authors' own Lean function (tested against real Go, not proved from fmt's source: count such statements apart). THE CARD IS WHAT COUNTS. Prove the row's statement (the work); the ties are given (YtkhicabfmkldpaaDoorTie.lean); close each card by the builder's one call (the guide's Derived/Test/ToyasCard.lean, 'card_holds'). Laid BY PROGRAM, IN A SANDBOX (cutbox-door.mjs). By AI agents, Wed Nov 11 2026. No macro, syntax, notation, axiom, sorry.
-/
import Derived.Test.YtkhicabfmkldpaaDoorRows
import GoSem.ClaimSeven
namespace Go.Proofs.YtkhicabfmkldpaaDoor
namespace Rows

/-- THE TIED CARD OF 'laws.FnVMCut'. -/
def fnVMCutCard : Claim7 := { stood := { row := fnVMCutRow, standIns := [], harness := (true, "daa768eab89ab6d2875040138abcfe46805e762aa5ae4f366fc89657c73e0a0e"), looks := true }, kinds := [], alts := [], laidByText := true, laidKinds := [.sentinel, .sentinel, .sentinel], laidTests := true, laidLooks := .later }
def FnVMCutCardSaid : Prop := Claim7.holds Tryd.pinned (.plain (OpenSpec.ofChange fnVMCutSpec)) fnVMCutCard

/-- THE TIED CARD OF 'laws.FnVMHalts'. -/
def fnVMHaltsCard : Claim7 := { stood := { row := fnVMHaltsRow, standIns := [], harness := (true, "daa768eab89ab6d2875040138abcfe46805e762aa5ae4f366fc89657c73e0a0e"), looks := true }, kinds := [], alts := [], laidByText := true, laidKinds := [.sentinel, .sentinel, .sentinel], laidTests := true, laidLooks := .later }
def FnVMHaltsCardSaid : Prop := Claim7.holds Tryd.pinned (.plain (OpenSpec.ofChange fnVMHaltsSpec)) fnVMHaltsCard

/-- THE TIED CARD OF 'laws.FnVMJoins'. -/
def fnVMJoinsCard : Claim7 := { stood := { row := fnVMJoinsRow, standIns := [], harness := (true, "daa768eab89ab6d2875040138abcfe46805e762aa5ae4f366fc89657c73e0a0e"), looks := true }, kinds := [], alts := [], laidByText := true, laidKinds := [.sentinel, .sentinel, .sentinel], laidTests := true, laidLooks := .later }
def FnVMJoinsCardSaid : Prop := Claim7.holds Tryd.pinned (.plain (OpenSpec.ofChange fnVMJoinsSpec)) fnVMJoinsCard

/-- THE TIED CARD OF 'laws.FnVMLongs'. -/
def fnVMLongsCard : Claim7 := { stood := { row := fnVMLongsRow, standIns := [], harness := (true, "daa768eab89ab6d2875040138abcfe46805e762aa5ae4f366fc89657c73e0a0e"), looks := true }, kinds := [], alts := [], laidByText := true, laidKinds := [.sentinel, .sentinel, .sentinel], laidTests := true, laidLooks := .later }
def FnVMLongsCardSaid : Prop := Claim7.holds Tryd.pinned (.plain (OpenSpec.ofChange fnVMLongsSpec)) fnVMLongsCard

/-- THE TIED CARD OF 'laws.FnVMRuns'. -/
def fnVMRunsCard : Claim7 := { stood := { row := fnVMRunsRow, standIns := [], harness := (true, "daa768eab89ab6d2875040138abcfe46805e762aa5ae4f366fc89657c73e0a0e"), looks := true }, kinds := [], alts := [], laidByText := true, laidKinds := [.sentinel, .sentinel, .sentinel], laidTests := true, laidLooks := .later }
def FnVMRunsCardSaid : Prop := Claim7.holds Tryd.pinned (.plain (OpenSpec.ofChange fnVMRunsSpec)) fnVMRunsCard

/-- THE TIED CARD OF 'laws.FnVMValues'. -/
def fnVMValuesCard : Claim7 := { stood := { row := fnVMValuesRow, standIns := [], harness := (true, "daa768eab89ab6d2875040138abcfe46805e762aa5ae4f366fc89657c73e0a0e"), looks := true }, kinds := [], alts := [], laidByText := true, laidKinds := [.sentinel, .sentinel, .sentinel], laidTests := true, laidLooks := .later }
def FnVMValuesCardSaid : Prop := Claim7.holds Tryd.pinned (.plain (OpenSpec.ofChange fnVMValuesSpec)) fnVMValuesCard

/-- THE SECOND FORM's CARD OF 'laws.FnVMCut'. -/
def fnVMCutUptoCard : Claim7 := { stood := { row := fnVMCutUptoRow, standIns := [], harness := (true, "daa768eab89ab6d2875040138abcfe46805e762aa5ae4f366fc89657c73e0a0e"), looks := true }, kinds := [], alts := [], laidByText := true, laidKinds := [.sentinel, .sentinel, .sentinel], laidTests := true, laidLooks := .later }
def FnVMCutUptoCardSaid : Prop := Claim7.holds Tryd.pinned (.plain (OpenSpec.upto fnVMCutSpec)) fnVMCutUptoCard

/-- THE SECOND FORM's CARD OF 'laws.FnVMHalts'. -/
def fnVMHaltsUptoCard : Claim7 := { stood := { row := fnVMHaltsUptoRow, standIns := [], harness := (true, "daa768eab89ab6d2875040138abcfe46805e762aa5ae4f366fc89657c73e0a0e"), looks := true }, kinds := [], alts := [], laidByText := true, laidKinds := [.sentinel, .sentinel, .sentinel], laidTests := true, laidLooks := .later }
def FnVMHaltsUptoCardSaid : Prop := Claim7.holds Tryd.pinned (.plain (OpenSpec.upto fnVMHaltsSpec)) fnVMHaltsUptoCard

/-- THE SECOND FORM's CARD OF 'laws.FnVMJoins'. -/
def fnVMJoinsUptoCard : Claim7 := { stood := { row := fnVMJoinsUptoRow, standIns := [], harness := (true, "daa768eab89ab6d2875040138abcfe46805e762aa5ae4f366fc89657c73e0a0e"), looks := true }, kinds := [], alts := [], laidByText := true, laidKinds := [.sentinel, .sentinel, .sentinel], laidTests := true, laidLooks := .later }
def FnVMJoinsUptoCardSaid : Prop := Claim7.holds Tryd.pinned (.plain (OpenSpec.upto fnVMJoinsSpec)) fnVMJoinsUptoCard

/-- THE SECOND FORM's CARD OF 'laws.FnVMLongs'. -/
def fnVMLongsUptoCard : Claim7 := { stood := { row := fnVMLongsUptoRow, standIns := [], harness := (true, "daa768eab89ab6d2875040138abcfe46805e762aa5ae4f366fc89657c73e0a0e"), looks := true }, kinds := [], alts := [], laidByText := true, laidKinds := [.sentinel, .sentinel, .sentinel], laidTests := true, laidLooks := .later }
def FnVMLongsUptoCardSaid : Prop := Claim7.holds Tryd.pinned (.plain (OpenSpec.upto fnVMLongsSpec)) fnVMLongsUptoCard

/-- THE SECOND FORM's CARD OF 'laws.FnVMRuns'. -/
def fnVMRunsUptoCard : Claim7 := { stood := { row := fnVMRunsUptoRow, standIns := [], harness := (true, "daa768eab89ab6d2875040138abcfe46805e762aa5ae4f366fc89657c73e0a0e"), looks := true }, kinds := [], alts := [], laidByText := true, laidKinds := [.sentinel, .sentinel, .sentinel], laidTests := true, laidLooks := .later }
def FnVMRunsUptoCardSaid : Prop := Claim7.holds Tryd.pinned (.plain (OpenSpec.upto fnVMRunsSpec)) fnVMRunsUptoCard

/-- THE SECOND FORM's CARD OF 'laws.FnVMValues'. -/
def fnVMValuesUptoCard : Claim7 := { stood := { row := fnVMValuesUptoRow, standIns := [], harness := (true, "daa768eab89ab6d2875040138abcfe46805e762aa5ae4f366fc89657c73e0a0e"), looks := true }, kinds := [], alts := [], laidByText := true, laidKinds := [.sentinel, .sentinel, .sentinel], laidTests := true, laidLooks := .later }
def FnVMValuesUptoCardSaid : Prop := Claim7.holds Tryd.pinned (.plain (OpenSpec.upto fnVMValuesSpec)) fnVMValuesUptoCard
end Rows
end Go.Proofs.YtkhicabfmkldpaaDoor
