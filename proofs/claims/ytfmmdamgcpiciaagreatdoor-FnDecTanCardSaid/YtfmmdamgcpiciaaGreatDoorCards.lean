/-
  DERIVED. GIVEN WITH THE SEED: THE CARDS: each row of YtfmmdamgcpiciaaGreatDoorRows.lean that lists a variable, with what it lists TIED to the program's text (the seventh form; the later family's looks); each row that meets fmt, with fmt's text TOLD by the authors' own Lean function (tested against real Go, not proved from fmt's source: count such statements apart). THE CARD IS WHAT COUNTS. Prove the row's statement (the work); the ties are given (YtfmmdamgcpiciaaGreatDoorTie.lean); close each card by the builder's one call (the guide's Derived/Test/ToyasCard.lean, 'card_holds'). Laid BY PROGRAM, IN A SANDBOX (cutbox-door.mjs). By AI agents, Wed Nov 11 2026. No macro, syntax, notation, axiom, sorry.
-/
import Derived.Test.YtfmmdamgcpiciaaGreatDoorRows
import GoSem.ClaimSeven
namespace Go.Proofs.YtfmmdamgcpiciaaGreatDoor
namespace Rows

/-- THE TIED CARD OF 'laws.FnDecSin'. -/
def fnDecSinCard : Claim7 := { stood := { row := fnDecSinRow, standIns := [], harness := (true, "de6ebd1cea8c939d63d435d6551024e17638f39833f257539bd21a2400527acb"), looks := false }, kinds := [], alts := [], laidByText := true, laidKinds := [.data, .data, .data, .data, .data, .data, .data, .data, .pinned, .pinned], laidTests := true, laidLooks := .later }
def FnDecSinCardSaid : Prop := Claim7.holds Tryz.pinned (.plain (OpenSpec.ofChange fnDecSinSpec)) fnDecSinCard

/-- THE TIED CARD OF 'laws.FnDecTan'. -/
def fnDecTanCard : Claim7 := { stood := { row := fnDecTanRow, standIns := [], harness := (true, "de6ebd1cea8c939d63d435d6551024e17638f39833f257539bd21a2400527acb"), looks := false }, kinds := [], alts := [], laidByText := true, laidKinds := [.data, .data, .data, .data, .data, .data, .data, .data, .data, .pinned, .pinned], laidTests := true, laidLooks := .later }
def FnDecTanCardSaid : Prop := Claim7.holds Tryz.pinned (.plain (OpenSpec.ofChange fnDecTanSpec)) fnDecTanCard

/-- THE SECOND FORM's CARD OF 'laws.FnDecSin'. -/
def fnDecSinUptoCard : Claim7 := { stood := { row := fnDecSinUptoRow, standIns := [], harness := (true, "de6ebd1cea8c939d63d435d6551024e17638f39833f257539bd21a2400527acb"), looks := false }, kinds := [], alts := [], laidByText := true, laidKinds := [.data, .data, .data, .data, .data, .data, .data, .data, .pinned, .pinned], laidTests := true, laidLooks := .later }
def FnDecSinUptoCardSaid : Prop := Claim7.holds Tryz.pinned (.plain (OpenSpec.upto fnDecSinSpec)) fnDecSinUptoCard

/-- THE SECOND FORM's CARD OF 'laws.FnDecTan'. -/
def fnDecTanUptoCard : Claim7 := { stood := { row := fnDecTanUptoRow, standIns := [], harness := (true, "de6ebd1cea8c939d63d435d6551024e17638f39833f257539bd21a2400527acb"), looks := false }, kinds := [], alts := [], laidByText := true, laidKinds := [.data, .data, .data, .data, .data, .data, .data, .data, .data, .pinned, .pinned], laidTests := true, laidLooks := .later }
def FnDecTanUptoCardSaid : Prop := Claim7.holds Tryz.pinned (.plain (OpenSpec.upto fnDecTanSpec)) fnDecTanUptoCard
end Rows
end Go.Proofs.YtfmmdamgcpiciaaGreatDoor
