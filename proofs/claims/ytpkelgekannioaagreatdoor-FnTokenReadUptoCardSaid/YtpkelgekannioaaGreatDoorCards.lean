/-
  DERIVED. GIVEN WITH THE SEED: THE CARDS: each row of YtpkelgekannioaaGreatDoorRows.lean that lists a variable, with what it lists TIED to the program's text (the seventh form; the later family's looks); each row that meets fmt, with fmt's text TOLD by the authors' own Lean function (tested against real Go, not proved from fmt's source: count such statements apart). THE CARD IS WHAT COUNTS. Prove the row's statement (the work); the ties are given (YtpkelgekannioaaGreatDoorTie.lean); close each card by the builder's one call (the guide's Derived/Test/ToyasCard.lean, 'card_holds'). Laid BY PROGRAM, IN A SANDBOX (cutbox-door.mjs). By AI agents, Wed Nov 11 2026. No macro, syntax, notation, axiom, sorry.
-/
import Derived.Test.YtpkelgekannioaaGreatDoorRows
import GoSem.ClaimSeven
namespace Go.Proofs.YtpkelgekannioaaGreatDoor
namespace Rows

/-- THE TIED CARD OF 'laws.FnTokenRead'. -/
def fnTokenReadCard : Claim7 := { stood := { row := fnTokenReadRow, standIns := [], harness := (true, "cae920ee56c1e5fa186b413cd05ab3219bfda4d1ec7761e5f610af4f11330b79"), looks := false }, kinds := [], alts := [], laidByText := true, laidKinds := [.data, .data, .data, .sentinel], laidTests := true, laidLooks := .later }
def FnTokenReadCardSaid : Prop := Claim7.holds Tryz.pinned (.plain (OpenSpec.ofChange fnTokenReadSpec)) fnTokenReadCard

/-- THE SECOND FORM's CARD OF 'laws.FnTokenRead'. -/
def fnTokenReadUptoCard : Claim7 := { stood := { row := fnTokenReadUptoRow, standIns := [], harness := (true, "cae920ee56c1e5fa186b413cd05ab3219bfda4d1ec7761e5f610af4f11330b79"), looks := false }, kinds := [], alts := [], laidByText := true, laidKinds := [.data, .data, .data, .sentinel], laidTests := true, laidLooks := .later }
def FnTokenReadUptoCardSaid : Prop := Claim7.holds Tryz.pinned (.plain (OpenSpec.upto fnTokenReadSpec)) fnTokenReadUptoCard
end Rows
end Go.Proofs.YtpkelgekannioaaGreatDoor
