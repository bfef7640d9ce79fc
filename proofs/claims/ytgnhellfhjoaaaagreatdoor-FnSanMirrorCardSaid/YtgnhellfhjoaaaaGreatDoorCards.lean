/-
  DERIVED. GIVEN WITH THE SEED: THE CARDS: each row of YtgnhellfhjoaaaaGreatDoorRows.lean that lists a variable, with what it lists TIED to the program's text (the seventh form; the later family's looks); each row that meets fmt, with fmt's text TOLD by the authors' own Lean function (tested against real Go, not proved from fmt's source: count such statements apart). THE CARD IS WHAT COUNTS. Prove the row's statement (the work); the ties are given (YtgnhellfhjoaaaaGreatDoorTie.lean); close each card by the builder's one call (the guide's Derived/Test/ToyasCard.lean, 'card_holds'). Laid BY PROGRAM, IN A SANDBOX (cutbox-door.mjs). By AI agents, Wed Nov 11 2026. No macro, syntax, notation, axiom, sorry.
-/
import Derived.Test.YtgnhellfhjoaaaaGreatDoorRows
import GoSem.ClaimSeven
namespace Go.Proofs.YtgnhellfhjoaaaaGreatDoor
namespace Rows

/-- THE TIED CARD OF 'laws.FnAllWritten'. -/
def fnAllWrittenCard : Claim7 := { stood := { row := fnAllWrittenRow, standIns := [], harness := (true, "ce2801465da21b391576cf3bcdc9385af78ce6a858cc5da34dd9cf37235d50aa"), looks := false }, kinds := [], alts := [], laidByText := true, laidKinds := [.data, .data, .data, .data, .data, .data, .data, .data, .data, .pinned, .pinned], laidTests := true, laidLooks := .later }
def FnAllWrittenCardSaid : Prop := Claim7.holds Tryz.pinned (.plain (OpenSpec.ofChange fnAllWrittenSpec)) fnAllWrittenCard

/-- THE TIED CARD OF 'laws.FnLanWritten'. -/
def fnLanWrittenCard : Claim7 := { stood := { row := fnLanWrittenRow, standIns := [], harness := (true, "ce2801465da21b391576cf3bcdc9385af78ce6a858cc5da34dd9cf37235d50aa"), looks := false }, kinds := [], alts := [], laidByText := true, laidKinds := [.data, .data, .data, .data, .data, .data, .data, .data, .data, .pinned, .pinned], laidTests := true, laidLooks := .later }
def FnLanWrittenCardSaid : Prop := Claim7.holds Tryz.pinned (.plain (OpenSpec.ofChange fnLanWrittenSpec)) fnLanWrittenCard

/-- THE TIED CARD OF 'laws.FnSanMirror'. -/
def fnSanMirrorCard : Claim7 := { stood := { row := fnSanMirrorRow, standIns := [], harness := (true, "ce2801465da21b391576cf3bcdc9385af78ce6a858cc5da34dd9cf37235d50aa"), looks := false }, kinds := [], alts := [], laidByText := true, laidKinds := [.data, .data, .data, .data, .data, .data, .data, .data, .data, .pinned, .pinned], laidTests := true, laidLooks := .later }
def FnSanMirrorCardSaid : Prop := Claim7.holds Tryz.pinned (.plain (OpenSpec.ofChange fnSanMirrorSpec)) fnSanMirrorCard

/-- THE TIED CARD OF 'laws.FnSanWritten'. -/
def fnSanWrittenCard : Claim7 := { stood := { row := fnSanWrittenRow, standIns := [], harness := (true, "ce2801465da21b391576cf3bcdc9385af78ce6a858cc5da34dd9cf37235d50aa"), looks := false }, kinds := [], alts := [], laidByText := true, laidKinds := [.data, .data, .data, .data, .data, .data, .data, .data, .data, .pinned, .pinned], laidTests := true, laidLooks := .later }
def FnSanWrittenCardSaid : Prop := Claim7.holds Tryz.pinned (.plain (OpenSpec.ofChange fnSanWrittenSpec)) fnSanWrittenCard

/-- THE TIED CARD OF 'laws.FnUciWritten'. -/
def fnUciWrittenCard : Claim7 := { stood := { row := fnUciWrittenRow, standIns := [], harness := (true, "ce2801465da21b391576cf3bcdc9385af78ce6a858cc5da34dd9cf37235d50aa"), looks := false }, kinds := [], alts := [], laidByText := true, laidKinds := [.data, .data, .data, .data, .data, .data, .data, .data, .data, .pinned, .pinned], laidTests := true, laidLooks := .later }
def FnUciWrittenCardSaid : Prop := Claim7.holds Tryz.pinned (.plain (OpenSpec.ofChange fnUciWrittenSpec)) fnUciWrittenCard

/-- THE TIED CARD OF 'laws.FnSanGame'. -/
def fnSanGameCard : Claim7 := { stood := { row := fnSanGameRow, standIns := [], harness := (true, "ce2801465da21b391576cf3bcdc9385af78ce6a858cc5da34dd9cf37235d50aa"), looks := false }, kinds := [], alts := [], laidByText := true, laidKinds := [.data, .data, .data, .data, .data, .data, .data, .data, .data, .pinned, .pinned], laidTests := true, laidLooks := .later }
def FnSanGameCardSaid : Prop := Claim7.holds Tryz.pinned (.plain (OpenSpec.ofChange fnSanGameSpec)) fnSanGameCard

/-- THE SECOND FORM's CARD OF 'laws.FnAllWritten'. -/
def fnAllWrittenUptoCard : Claim7 := { stood := { row := fnAllWrittenUptoRow, standIns := [], harness := (true, "ce2801465da21b391576cf3bcdc9385af78ce6a858cc5da34dd9cf37235d50aa"), looks := false }, kinds := [], alts := [], laidByText := true, laidKinds := [.data, .data, .data, .data, .data, .data, .data, .data, .data, .pinned, .pinned], laidTests := true, laidLooks := .later }
def FnAllWrittenUptoCardSaid : Prop := Claim7.holds Tryz.pinned (.plain (OpenSpec.upto fnAllWrittenSpec)) fnAllWrittenUptoCard

/-- THE SECOND FORM's CARD OF 'laws.FnLanWritten'. -/
def fnLanWrittenUptoCard : Claim7 := { stood := { row := fnLanWrittenUptoRow, standIns := [], harness := (true, "ce2801465da21b391576cf3bcdc9385af78ce6a858cc5da34dd9cf37235d50aa"), looks := false }, kinds := [], alts := [], laidByText := true, laidKinds := [.data, .data, .data, .data, .data, .data, .data, .data, .data, .pinned, .pinned], laidTests := true, laidLooks := .later }
def FnLanWrittenUptoCardSaid : Prop := Claim7.holds Tryz.pinned (.plain (OpenSpec.upto fnLanWrittenSpec)) fnLanWrittenUptoCard

/-- THE SECOND FORM's CARD OF 'laws.FnSanMirror'. -/
def fnSanMirrorUptoCard : Claim7 := { stood := { row := fnSanMirrorUptoRow, standIns := [], harness := (true, "ce2801465da21b391576cf3bcdc9385af78ce6a858cc5da34dd9cf37235d50aa"), looks := false }, kinds := [], alts := [], laidByText := true, laidKinds := [.data, .data, .data, .data, .data, .data, .data, .data, .data, .pinned, .pinned], laidTests := true, laidLooks := .later }
def FnSanMirrorUptoCardSaid : Prop := Claim7.holds Tryz.pinned (.plain (OpenSpec.upto fnSanMirrorSpec)) fnSanMirrorUptoCard

/-- THE SECOND FORM's CARD OF 'laws.FnSanWritten'. -/
def fnSanWrittenUptoCard : Claim7 := { stood := { row := fnSanWrittenUptoRow, standIns := [], harness := (true, "ce2801465da21b391576cf3bcdc9385af78ce6a858cc5da34dd9cf37235d50aa"), looks := false }, kinds := [], alts := [], laidByText := true, laidKinds := [.data, .data, .data, .data, .data, .data, .data, .data, .data, .pinned, .pinned], laidTests := true, laidLooks := .later }
def FnSanWrittenUptoCardSaid : Prop := Claim7.holds Tryz.pinned (.plain (OpenSpec.upto fnSanWrittenSpec)) fnSanWrittenUptoCard

/-- THE SECOND FORM's CARD OF 'laws.FnUciWritten'. -/
def fnUciWrittenUptoCard : Claim7 := { stood := { row := fnUciWrittenUptoRow, standIns := [], harness := (true, "ce2801465da21b391576cf3bcdc9385af78ce6a858cc5da34dd9cf37235d50aa"), looks := false }, kinds := [], alts := [], laidByText := true, laidKinds := [.data, .data, .data, .data, .data, .data, .data, .data, .data, .pinned, .pinned], laidTests := true, laidLooks := .later }
def FnUciWrittenUptoCardSaid : Prop := Claim7.holds Tryz.pinned (.plain (OpenSpec.upto fnUciWrittenSpec)) fnUciWrittenUptoCard

/-- THE SECOND FORM's CARD OF 'laws.FnSanGame'. -/
def fnSanGameUptoCard : Claim7 := { stood := { row := fnSanGameUptoRow, standIns := [], harness := (true, "ce2801465da21b391576cf3bcdc9385af78ce6a858cc5da34dd9cf37235d50aa"), looks := false }, kinds := [], alts := [], laidByText := true, laidKinds := [.data, .data, .data, .data, .data, .data, .data, .data, .data, .pinned, .pinned], laidTests := true, laidLooks := .later }
def FnSanGameUptoCardSaid : Prop := Claim7.holds Tryz.pinned (.plain (OpenSpec.upto fnSanGameSpec)) fnSanGameUptoCard
end Rows
end Go.Proofs.YtgnhellfhjoaaaaGreatDoor
