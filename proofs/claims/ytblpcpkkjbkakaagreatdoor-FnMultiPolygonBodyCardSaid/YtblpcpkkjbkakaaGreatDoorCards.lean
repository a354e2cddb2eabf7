/-
  DERIVED. GIVEN WITH THE SEED: THE CARDS: each row of YtblpcpkkjbkakaaGreatDoorRows.lean that lists a variable, with what it lists TIED to the program's text (the seventh form; the later family's looks); each row that meets fmt, with fmt's text TOLD by the authors' own Lean function (tested against real Go, not proved from fmt's source: count such statements apart). THE CARD IS WHAT COUNTS. Prove the row's statement (the work); the ties are given (YtblpcpkkjbkakaaGreatDoorTie.lean); close each card by the builder's one call (the guide's Derived/Test/ToyasCard.lean, 'card_holds'). Laid BY PROGRAM, IN A SANDBOX (cutbox-door.mjs). By AI agents, Wed Nov 11 2026. No macro, syntax, notation, axiom, sorry.
-/
import Derived.Test.YtblpcpkkjbkakaaGreatDoorRows
import GoSem.ClaimSeven
namespace Go.Proofs.YtblpcpkkjbkakaaGreatDoor
namespace Rows

/-- THE TIED CARD OF 'laws.FnReadNumber'. -/
def fnReadNumberCard : Claim7 := { stood := { row := fnReadNumberRow, standIns := [], harness := (true, "919a6be16bbb83433d4ca63a2291ae46513abbd9f440d1a6900195fb5a074b14"), looks := true }, kinds := [], alts := [], laidByText := true, laidKinds := [.data, .data, .widerDeep, .widerDeep, .data, .data, .data, .data, .data, .data, .sentinel, .sentinel, .sentinel, .sentinel, .data, .pinned, .pinned, .pinned], laidTests := true, laidLooks := .later }
def FnReadNumberCardSaid : Prop := Claim7.holds Tryz.pinned (.plain (OpenSpec.ofChange fnReadNumberSpec)) fnReadNumberCard

/-- THE TIED CARD OF 'laws.FnMultiPolygonBody'. -/
def fnMultiPolygonBodyCard : Claim7 := { stood := { row := fnMultiPolygonBodyRow, standIns := [], harness := (true, "919a6be16bbb83433d4ca63a2291ae46513abbd9f440d1a6900195fb5a074b14"), looks := true }, kinds := [], alts := [], laidByText := true, laidKinds := [.data, .data, .widerDeep, .widerDeep, .data, .data, .data, .data, .data, .data, .sentinel, .sentinel, .sentinel, .sentinel, .data, .pinned, .pinned, .pinned], laidTests := true, laidLooks := .later }
def FnMultiPolygonBodyCardSaid : Prop := Claim7.holds Tryz.pinned (.plain (OpenSpec.ofChange fnMultiPolygonBodySpec)) fnMultiPolygonBodyCard

/-- THE SECOND FORM's CARD OF 'laws.FnReadNumber'. -/
def fnReadNumberUptoCard : Claim7 := { stood := { row := fnReadNumberUptoRow, standIns := [], harness := (true, "919a6be16bbb83433d4ca63a2291ae46513abbd9f440d1a6900195fb5a074b14"), looks := true }, kinds := [], alts := [], laidByText := true, laidKinds := [.data, .data, .widerDeep, .widerDeep, .data, .data, .data, .data, .data, .data, .sentinel, .sentinel, .sentinel, .sentinel, .data, .pinned, .pinned, .pinned], laidTests := true, laidLooks := .later }
def FnReadNumberUptoCardSaid : Prop := Claim7.holds Tryz.pinned (.plain (OpenSpec.upto fnReadNumberSpec)) fnReadNumberUptoCard

/-- THE SECOND FORM's CARD OF 'laws.FnMultiPolygonBody'. -/
def fnMultiPolygonBodyUptoCard : Claim7 := { stood := { row := fnMultiPolygonBodyUptoRow, standIns := [], harness := (true, "919a6be16bbb83433d4ca63a2291ae46513abbd9f440d1a6900195fb5a074b14"), looks := true }, kinds := [], alts := [], laidByText := true, laidKinds := [.data, .data, .widerDeep, .widerDeep, .data, .data, .data, .data, .data, .data, .sentinel, .sentinel, .sentinel, .sentinel, .data, .pinned, .pinned, .pinned], laidTests := true, laidLooks := .later }
def FnMultiPolygonBodyUptoCardSaid : Prop := Claim7.holds Tryz.pinned (.plain (OpenSpec.upto fnMultiPolygonBodySpec)) fnMultiPolygonBodyUptoCard
end Rows
end Go.Proofs.YtblpcpkkjbkakaaGreatDoor
