/-
  DERIVED. GIVEN WITH THE SEED: THE CARDS: each row of YtinmmchjfifcgaaGreatDoorRows.lean that lists a variable, with what it lists TIED to the program's text (the seventh form; the later family's looks); each row that meets fmt, with fmt's text TOLD by the authors' own Lean function (tested against real Go, not proved from fmt's source: count such statements apart). THE CARD IS WHAT COUNTS. Prove the row's statement (the work); the ties are given (YtinmmchjfifcgaaGreatDoorTie.lean); close each card by the builder's one call (the guide's Derived/Test/ToyasCard.lean, 'card_holds'). Laid BY PROGRAM, IN A SANDBOX (cutbox-door.mjs). By AI agents, Wed Nov 11 2026. No macro, syntax, notation, axiom, sorry.
-/
import Derived.Test.YtinmmchjfifcgaaGreatDoorRows
import GoSem.ClaimSeven
namespace Go.Proofs.YtinmmchjfifcgaaGreatDoor
namespace Rows

/-- THE TIED CARD OF 'laws.FnReplace'. -/
def fnReplaceCard : Claim7 := { stood := { row := fnReplaceRow, standIns := [], harness := (true, "90218154ebc7b62a4f4ad442c9b2b146b55ae7d6eacbf142d82fe09a5d7fd630"), looks := true }, kinds := [], alts := [], laidByText := true, laidKinds := [.data, .data, .data, .data, .sentinel, .pinned, .pinned], laidTests := true, laidLooks := .later }
def FnReplaceCardSaid : Prop := Claim7.holds Tryz.pinned (.plain (OpenSpec.ofChange fnReplaceSpec)) fnReplaceCard

/-- THE TIED CARD OF 'laws.FnReplacedBack'. -/
def fnReplacedBackCard : Claim7 := { stood := { row := fnReplacedBackRow, standIns := [], harness := (true, "90218154ebc7b62a4f4ad442c9b2b146b55ae7d6eacbf142d82fe09a5d7fd630"), looks := true }, kinds := [], alts := [], laidByText := true, laidKinds := [.data, .data, .data, .data, .sentinel, .pinned, .pinned], laidTests := true, laidLooks := .later }
def FnReplacedBackCardSaid : Prop := Claim7.holds Tryz.pinned (.plain (OpenSpec.ofChange fnReplacedBackSpec)) fnReplacedBackCard

/-- THE TIED CARD OF 'laws.FnNoPadIsCut'. -/
def fnNoPadIsCutCard : Claim7 := { stood := { row := fnNoPadIsCutRow, standIns := [], harness := (true, "90218154ebc7b62a4f4ad442c9b2b146b55ae7d6eacbf142d82fe09a5d7fd630"), looks := true }, kinds := [], alts := [], laidByText := true, laidKinds := [.data, .data, .data, .data, .pinned, .pinned], laidTests := true, laidLooks := .later }
def FnNoPadIsCutCardSaid : Prop := Claim7.holds Tryz.pinned (.plain (OpenSpec.ofChange fnNoPadIsCutSpec)) fnNoPadIsCutCard

/-- THE TIED CARD OF 'laws.FnEncode'. -/
def fnEncodeCard : Claim7 := { stood := { row := fnEncodeRow, standIns := [], harness := (true, "90218154ebc7b62a4f4ad442c9b2b146b55ae7d6eacbf142d82fe09a5d7fd630"), looks := true }, kinds := [], alts := [], laidByText := true, laidKinds := [.data, .data, .data, .data, .pinned, .pinned], laidTests := true, laidLooks := .later }
def FnEncodeCardSaid : Prop := Claim7.holds Tryz.pinned (.plain (OpenSpec.ofChange fnEncodeSpec)) fnEncodeCard

/-- THE TIED CARD OF 'laws.FnTrimSpace'. -/
def fnTrimSpaceCard : Claim7 := { stood := { row := fnTrimSpaceRow, standIns := [], harness := (true, "90218154ebc7b62a4f4ad442c9b2b146b55ae7d6eacbf142d82fe09a5d7fd630"), looks := true }, kinds := [], alts := [], laidByText := true, laidKinds := [.data, .data, .data, .data, .listed, .data, .pinned, .pinned], laidTests := true, laidLooks := .later }
def FnTrimSpaceCardSaid : Prop := Claim7.holds Tryz.pinned (.plain (OpenSpec.ofChange fnTrimSpaceSpec)) fnTrimSpaceCard

/-- THE TIED CARD OF 'laws.FnDecode64'. -/
def fnDecode64Card : Claim7 := { stood := { row := fnDecode64Row, standIns := [], harness := (true, "90218154ebc7b62a4f4ad442c9b2b146b55ae7d6eacbf142d82fe09a5d7fd630"), looks := true }, kinds := [], alts := [], laidByText := true, laidKinds := [.data, .data, .data, .data, .pinned, .pinned], laidTests := true, laidLooks := .later }
def FnDecode64CardSaid : Prop := Claim7.holds Tryz.pinned (.plain (OpenSpec.ofChange fnDecode64Spec)) fnDecode64Card

/-- THE SECOND FORM's CARD OF 'laws.FnReplace'. -/
def fnReplaceUptoCard : Claim7 := { stood := { row := fnReplaceUptoRow, standIns := [], harness := (true, "90218154ebc7b62a4f4ad442c9b2b146b55ae7d6eacbf142d82fe09a5d7fd630"), looks := true }, kinds := [], alts := [], laidByText := true, laidKinds := [.data, .data, .data, .data, .sentinel, .pinned, .pinned], laidTests := true, laidLooks := .later }
def FnReplaceUptoCardSaid : Prop := Claim7.holds Tryz.pinned (.plain (OpenSpec.upto fnReplaceSpec)) fnReplaceUptoCard

/-- THE SECOND FORM's CARD OF 'laws.FnReplacedBack'. -/
def fnReplacedBackUptoCard : Claim7 := { stood := { row := fnReplacedBackUptoRow, standIns := [], harness := (true, "90218154ebc7b62a4f4ad442c9b2b146b55ae7d6eacbf142d82fe09a5d7fd630"), looks := true }, kinds := [], alts := [], laidByText := true, laidKinds := [.data, .data, .data, .data, .sentinel, .pinned, .pinned], laidTests := true, laidLooks := .later }
def FnReplacedBackUptoCardSaid : Prop := Claim7.holds Tryz.pinned (.plain (OpenSpec.upto fnReplacedBackSpec)) fnReplacedBackUptoCard

/-- THE SECOND FORM's CARD OF 'laws.FnNoPadIsCut'. -/
def fnNoPadIsCutUptoCard : Claim7 := { stood := { row := fnNoPadIsCutUptoRow, standIns := [], harness := (true, "90218154ebc7b62a4f4ad442c9b2b146b55ae7d6eacbf142d82fe09a5d7fd630"), looks := true }, kinds := [], alts := [], laidByText := true, laidKinds := [.data, .data, .data, .data, .pinned, .pinned], laidTests := true, laidLooks := .later }
def FnNoPadIsCutUptoCardSaid : Prop := Claim7.holds Tryz.pinned (.plain (OpenSpec.upto fnNoPadIsCutSpec)) fnNoPadIsCutUptoCard

/-- THE SECOND FORM's CARD OF 'laws.FnEncode'. -/
def fnEncodeUptoCard : Claim7 := { stood := { row := fnEncodeUptoRow, standIns := [], harness := (true, "90218154ebc7b62a4f4ad442c9b2b146b55ae7d6eacbf142d82fe09a5d7fd630"), looks := true }, kinds := [], alts := [], laidByText := true, laidKinds := [.data, .data, .data, .data, .pinned, .pinned], laidTests := true, laidLooks := .later }
def FnEncodeUptoCardSaid : Prop := Claim7.holds Tryz.pinned (.plain (OpenSpec.upto fnEncodeSpec)) fnEncodeUptoCard

/-- THE SECOND FORM's CARD OF 'laws.FnTrimSpace'. -/
def fnTrimSpaceUptoCard : Claim7 := { stood := { row := fnTrimSpaceUptoRow, standIns := [], harness := (true, "90218154ebc7b62a4f4ad442c9b2b146b55ae7d6eacbf142d82fe09a5d7fd630"), looks := true }, kinds := [], alts := [], laidByText := true, laidKinds := [.data, .data, .data, .data, .listed, .data, .pinned, .pinned], laidTests := true, laidLooks := .later }
def FnTrimSpaceUptoCardSaid : Prop := Claim7.holds Tryz.pinned (.plain (OpenSpec.upto fnTrimSpaceSpec)) fnTrimSpaceUptoCard

/-- THE SECOND FORM's CARD OF 'laws.FnDecode64'. -/
def fnDecode64UptoCard : Claim7 := { stood := { row := fnDecode64UptoRow, standIns := [], harness := (true, "90218154ebc7b62a4f4ad442c9b2b146b55ae7d6eacbf142d82fe09a5d7fd630"), looks := true }, kinds := [], alts := [], laidByText := true, laidKinds := [.data, .data, .data, .data, .pinned, .pinned], laidTests := true, laidLooks := .later }
def FnDecode64UptoCardSaid : Prop := Claim7.holds Tryz.pinned (.plain (OpenSpec.upto fnDecode64Spec)) fnDecode64UptoCard
end Rows
end Go.Proofs.YtinmmchjfifcgaaGreatDoor
