/-
  DERIVED. GIVEN WITH THE SEED: THE CARDS: each row of YthggdkpikjekmaaGreatRDoorRows.lean that lists a variable, with what it lists TIED to the program's text (the seventh form; the later family's looks); each row that meets fmt, with fmt's text TOLD by the authors' own Lean function (tested against real Go, not proved from fmt's source: count such statements apart). THE CARD IS WHAT COUNTS. Prove the row's statement (the work); the ties are given (YthggdkpikjekmaaGreatRDoorTie.lean); close each card by the builder's one call (the guide's Derived/Test/ToyasCard.lean, 'card_holds'). Laid BY PROGRAM, IN A SANDBOX (cutbox-door.mjs). By AI agents, Wed Nov 11 2026. No macro, syntax, notation, axiom, sorry.
-/
import Derived.Test.YthggdkpikjekmaaGreatRDoorRows
import GoSem.ClaimSeven
namespace Go.Proofs.YthggdkpikjekmaaGreatRDoor
namespace Rows

/-- THE TIED CARD OF 'laws.FnCounts'. -/
def fnCountsCard : Claim7 := { stood := { row := fnCountsRow, standIns := [], harness := (true, "6205338fb66d685a19aa0975239f1390b6a0cf60cf60825a3dcc6c454e91830d"), looks := true }, kinds := [], alts := [], laidByText := true, laidKinds := [.data, .data, .data, .data, .pinned, .pinned], laidTests := true, laidLooks := .later }
def FnCountsCardSaid : Prop := Claim7.holds Tryz.pinned (.plain (OpenSpec.ofChange fnCountsSpec)) fnCountsCard

/-- THE TIED CARD OF 'laws.FnExactHist'. -/
def fnExactHistCard : Claim7 := { stood := { row := fnExactHistRow, standIns := [], harness := (true, "6205338fb66d685a19aa0975239f1390b6a0cf60cf60825a3dcc6c454e91830d"), looks := true }, kinds := [], alts := [], laidByText := true, laidKinds := [.data, .data, .data, .data, .pinned, .pinned], laidTests := true, laidLooks := .later }
def FnExactHistCardSaid : Prop := Claim7.holds Tryz.pinned (.plain (OpenSpec.ofChange fnExactHistSpec)) fnExactHistCard

/-- THE SECOND FORM's CARD OF 'laws.FnCounts'. -/
def fnCountsUptoCard : Claim7 := { stood := { row := fnCountsUptoRow, standIns := [], harness := (true, "6205338fb66d685a19aa0975239f1390b6a0cf60cf60825a3dcc6c454e91830d"), looks := true }, kinds := [], alts := [], laidByText := true, laidKinds := [.data, .data, .data, .data, .pinned, .pinned], laidTests := true, laidLooks := .later }
def FnCountsUptoCardSaid : Prop := Claim7.holds Tryz.pinned (.plain (OpenSpec.upto fnCountsSpec)) fnCountsUptoCard

/-- THE SECOND FORM's CARD OF 'laws.FnExactHist'. -/
def fnExactHistUptoCard : Claim7 := { stood := { row := fnExactHistUptoRow, standIns := [], harness := (true, "6205338fb66d685a19aa0975239f1390b6a0cf60cf60825a3dcc6c454e91830d"), looks := true }, kinds := [], alts := [], laidByText := true, laidKinds := [.data, .data, .data, .data, .pinned, .pinned], laidTests := true, laidLooks := .later }
def FnExactHistUptoCardSaid : Prop := Claim7.holds Tryz.pinned (.plain (OpenSpec.upto fnExactHistSpec)) fnExactHistUptoCard
end Rows
end Go.Proofs.YthggdkpikjekmaaGreatRDoor
