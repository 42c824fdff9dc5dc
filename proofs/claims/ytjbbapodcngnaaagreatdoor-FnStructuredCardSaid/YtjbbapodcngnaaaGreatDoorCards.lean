/-
  DERIVED. GIVEN WITH THE SEED: THE CARDS: each row of YtjbbapodcngnaaaGreatDoorRows.lean that lists a variable, with what it lists TIED to the program's text (the seventh form; the later family's looks); each row that meets fmt, with fmt's text TOLD by the authors' own Lean function (tested against real Go, not proved from fmt's source: count such statements apart). THE CARD IS WHAT COUNTS. Prove the row's statement (the work); the ties are given (YtjbbapodcngnaaaGreatDoorTie.lean); close each card by the builder's one call (the guide's Derived/Test/ToyasCard.lean, 'card_holds'). Laid BY PROGRAM, IN A SANDBOX (cutbox-door.mjs). By AI agents, Wed Nov 11 2026. No macro, syntax, notation, axiom, sorry.
-/
import Derived.Test.YtjbbapodcngnaaaGreatDoorRows
import GoSem.ClaimSeven
namespace Go.Proofs.YtjbbapodcngnaaaGreatDoor
namespace Rows

/-- THE TIED CARD OF 'laws.FnHeaderPlayed'. -/
def fnHeaderPlayedCard : Claim7 := { stood := { row := fnHeaderPlayedRow, standIns := [], harness := (true, "687e13c472f8b9493584867242335e1ce4faccd1d1ca70d7ab53d287c20ed27b"), looks := true }, kinds := [], alts := [], laidByText := true, laidKinds := [.sentinel, .sentinel, .sentinel, .sentinel, .sentinel, .sentinel], laidTests := true, laidLooks := .later }
def FnHeaderPlayedCardSaid : Prop := Claim7.holds Tryz.pinned (.plain (OpenSpec.ofChange fnHeaderPlayedSpec)) fnHeaderPlayedCard

/-- THE TIED CARD OF 'laws.FnHeaderAgain'. -/
def fnHeaderAgainCard : Claim7 := { stood := { row := fnHeaderAgainRow, standIns := [], harness := (true, "687e13c472f8b9493584867242335e1ce4faccd1d1ca70d7ab53d287c20ed27b"), looks := true }, kinds := [], alts := [], laidByText := true, laidKinds := [.sentinel, .sentinel, .sentinel, .sentinel, .sentinel, .sentinel], laidTests := true, laidLooks := .later }
def FnHeaderAgainCardSaid : Prop := Claim7.holds Tryz.pinned (.plain (OpenSpec.ofChange fnHeaderAgainSpec)) fnHeaderAgainCard

/-- THE TIED CARD OF 'laws.FnStructured'. -/
def fnStructuredCard : Claim7 := { stood := { row := fnStructuredRow, standIns := [], harness := (true, "687e13c472f8b9493584867242335e1ce4faccd1d1ca70d7ab53d287c20ed27b"), looks := true }, kinds := [], alts := [], laidByText := true, laidKinds := [.data, .sentinel, .sentinel, .listed, .data, .sentinel, .sentinel, .sentinel, .sentinel, .sentinel, .pinned, .pinned], laidTests := true, laidLooks := .later }
def FnStructuredCardSaid : Prop := Claim7.holds Tryz.pinned (.plain (OpenSpec.ofChange fnStructuredSpec)) fnStructuredCard

/-- THE SECOND FORM's CARD OF 'laws.FnHeaderPlayed'. -/
def fnHeaderPlayedUptoCard : Claim7 := { stood := { row := fnHeaderPlayedUptoRow, standIns := [], harness := (true, "687e13c472f8b9493584867242335e1ce4faccd1d1ca70d7ab53d287c20ed27b"), looks := true }, kinds := [], alts := [], laidByText := true, laidKinds := [.sentinel, .sentinel, .sentinel, .sentinel, .sentinel, .sentinel], laidTests := true, laidLooks := .later }
def FnHeaderPlayedUptoCardSaid : Prop := Claim7.holds Tryz.pinned (.plain (OpenSpec.upto fnHeaderPlayedSpec)) fnHeaderPlayedUptoCard

/-- THE SECOND FORM's CARD OF 'laws.FnHeaderAgain'. -/
def fnHeaderAgainUptoCard : Claim7 := { stood := { row := fnHeaderAgainUptoRow, standIns := [], harness := (true, "687e13c472f8b9493584867242335e1ce4faccd1d1ca70d7ab53d287c20ed27b"), looks := true }, kinds := [], alts := [], laidByText := true, laidKinds := [.sentinel, .sentinel, .sentinel, .sentinel, .sentinel, .sentinel], laidTests := true, laidLooks := .later }
def FnHeaderAgainUptoCardSaid : Prop := Claim7.holds Tryz.pinned (.plain (OpenSpec.upto fnHeaderAgainSpec)) fnHeaderAgainUptoCard

/-- THE SECOND FORM's CARD OF 'laws.FnStructured'. -/
def fnStructuredUptoCard : Claim7 := { stood := { row := fnStructuredUptoRow, standIns := [], harness := (true, "687e13c472f8b9493584867242335e1ce4faccd1d1ca70d7ab53d287c20ed27b"), looks := true }, kinds := [], alts := [], laidByText := true, laidKinds := [.data, .sentinel, .sentinel, .listed, .data, .sentinel, .sentinel, .sentinel, .sentinel, .sentinel, .pinned, .pinned], laidTests := true, laidLooks := .later }
def FnStructuredUptoCardSaid : Prop := Claim7.holds Tryz.pinned (.plain (OpenSpec.upto fnStructuredSpec)) fnStructuredUptoCard
end Rows
end Go.Proofs.YtjbbapodcngnaaaGreatDoor
