/-
  DERIVED. GIVEN WITH THE SEED: THE CARDS: each row of YtfppgplboomdbaaGreatDoorRows.lean that lists a variable, with what it lists TIED to the program's text (the seventh form; the later family's looks); each row that meets fmt, with fmt's text TOLD by the authors' own Lean function (tested against real Go, not proved from fmt's source: count such statements apart). THE CARD IS WHAT COUNTS. Prove the row's statement (the work); the ties are given (YtfppgplboomdbaaGreatDoorTie.lean); close each card by the builder's one call (the guide's Derived/Test/ToyasCard.lean, 'card_holds'). Laid BY PROGRAM, IN A SANDBOX (cutbox-door.mjs). By AI agents, Wed Nov 11 2026. No macro, syntax, notation, axiom, sorry.
-/
import Derived.Test.YtfppgplboomdbaaGreatDoorRows
import GoSem.ClaimSeven
namespace Go.Proofs.YtfppgplboomdbaaGreatDoor
namespace Rows

/-- THE TIED CARD OF 'laws.FnIsoTree'. -/
def fnIsoTreeCard : Claim7 := { stood := { row := fnIsoTreeRow, standIns := [], harness := (true, "2c72ebf428a7ed0a80598e64c820e3f8a53d744c43d01d267ce3163c46a71f70"), looks := true }, kinds := [], alts := [], laidByText := true, laidKinds := [.data, .sentinel, .pinned], laidTests := true, laidLooks := .later }
def FnIsoTreeCardSaid : Prop := Claim7.holds Tryz.pinned (.plain (OpenSpec.ofChange fnIsoTreeSpec)) fnIsoTreeCard

/-- THE TIED CARD OF 'laws.FnIsoAt'. -/
def fnIsoAtCard : Claim7 := { stood := { row := fnIsoAtRow, standIns := [], harness := (true, "2c72ebf428a7ed0a80598e64c820e3f8a53d744c43d01d267ce3163c46a71f70"), looks := true }, kinds := [], alts := [], laidByText := true, laidKinds := [.data, .sentinel, .pinned], laidTests := true, laidLooks := .later }
def FnIsoAtCardSaid : Prop := Claim7.holds Tryz.pinned (.plain (OpenSpec.ofChange fnIsoAtSpec)) fnIsoAtCard

/-- THE SECOND FORM's CARD OF 'laws.FnIsoTree'. -/
def fnIsoTreeUptoCard : Claim7 := { stood := { row := fnIsoTreeUptoRow, standIns := [], harness := (true, "2c72ebf428a7ed0a80598e64c820e3f8a53d744c43d01d267ce3163c46a71f70"), looks := true }, kinds := [], alts := [], laidByText := true, laidKinds := [.data, .sentinel, .pinned], laidTests := true, laidLooks := .later }
def FnIsoTreeUptoCardSaid : Prop := Claim7.holds Tryz.pinned (.plain (OpenSpec.upto fnIsoTreeSpec)) fnIsoTreeUptoCard

/-- THE SECOND FORM's CARD OF 'laws.FnIsoAt'. -/
def fnIsoAtUptoCard : Claim7 := { stood := { row := fnIsoAtUptoRow, standIns := [], harness := (true, "2c72ebf428a7ed0a80598e64c820e3f8a53d744c43d01d267ce3163c46a71f70"), looks := true }, kinds := [], alts := [], laidByText := true, laidKinds := [.data, .sentinel, .pinned], laidTests := true, laidLooks := .later }
def FnIsoAtUptoCardSaid : Prop := Claim7.holds Tryz.pinned (.plain (OpenSpec.upto fnIsoAtSpec)) fnIsoAtUptoCard
end Rows
end Go.Proofs.YtfppgplboomdbaaGreatDoor
