/-
  DERIVED. GIVEN WITH THE SEED: THE CARDS: each row of YtbnelehiieglbaaGreatDoorRows.lean that lists a variable, with what it lists TIED to the program's text (the seventh form; the later family's looks); each row that meets fmt, with fmt's text TOLD by the authors' own Lean function (tested against real Go, not proved from fmt's source: count such statements apart). THE CARD IS WHAT COUNTS. Prove the row's statement (the work); the ties are given (YtbnelehiieglbaaGreatDoorTie.lean); close each card by the builder's one call (the guide's Derived/Test/ToyasCard.lean, 'card_holds'). Laid BY PROGRAM, IN A SANDBOX (cutbox-door.mjs). By AI agents, Wed Nov 11 2026. No macro, syntax, notation, axiom, sorry.
-/
import Derived.Test.YtbnelehiieglbaaGreatDoorRows
import GoSem.ClaimSeven
namespace Go.Proofs.YtbnelehiieglbaaGreatDoor
namespace Rows

/-- THE TIED CARD OF 'laws.FnCheckURI'. -/
def fnCheckURICard : Claim7 := { stood := { row := fnCheckURIRow, standIns := [], harness := (true, "65ed509eabf310561f3c38f352fdb673977a19b0effe8099c358ff8e0dd20c73"), looks := false }, kinds := [], alts := [], laidByText := true, laidKinds := [.data, .called, .called, .zero, .pinned, .pinned], laidTests := true, laidLooks := .later }
def FnCheckURICardSaid : Prop := Claim7.holds Tryz.pinned (.plain (OpenSpec.ofChange fnCheckURISpec)) fnCheckURICard

/-- THE SECOND FORM's CARD OF 'laws.FnCheckURI'. -/
def fnCheckURIUptoCard : Claim7 := { stood := { row := fnCheckURIUptoRow, standIns := [], harness := (true, "65ed509eabf310561f3c38f352fdb673977a19b0effe8099c358ff8e0dd20c73"), looks := false }, kinds := [], alts := [], laidByText := true, laidKinds := [.data, .called, .called, .zero, .pinned, .pinned], laidTests := true, laidLooks := .later }
def FnCheckURIUptoCardSaid : Prop := Claim7.holds Tryz.pinned (.plain (OpenSpec.upto fnCheckURISpec)) fnCheckURIUptoCard
end Rows
end Go.Proofs.YtbnelehiieglbaaGreatDoor
