/-
  DERIVED. GIVEN WITH THE SEED: THE CARDS: each row of YtjbbapodcngnaaaDoorRows.lean that lists a variable, with what it lists TIED to the program's text (the seventh form; the later family's looks); each row that meets fmt, with fmt's text TOLD by the authors' own Lean function (tested against real Go, not proved from fmt's source: count such statements apart). THE CARD IS WHAT COUNTS. Prove the row's statement (the work); the ties are given (YtjbbapodcngnaaaDoorTie.lean); close each card by the builder's one call (the guide's Derived/Test/ToyasCard.lean, 'card_holds'). Laid BY PROGRAM, IN A SANDBOX (cutbox-door.mjs). By AI agents, Wed Nov 11 2026. No macro, syntax, notation, axiom, sorry.
-/
import Derived.Test.YtjbbapodcngnaaaDoorRows
import GoSem.ClaimSeven
namespace Go.Proofs.YtjbbapodcngnaaaDoor
namespace Rows

/-- THE TIED CARD OF 'laws.FnHeaderAsked'. -/
def fnHeaderAskedCard : Claim7 := { stood := { row := fnHeaderAskedRow, standIns := [], harness := (true, "aa13ebcbc431931a636c9cc64437e5c87b7ae920f312d3eef8c1baa2bfe3906d"), looks := true }, kinds := [], alts := [], laidByText := true, laidKinds := [.sentinel, .sentinel, .sentinel, .sentinel, .sentinel, .sentinel], laidTests := true, laidLooks := .later }
def FnHeaderAskedCardSaid : Prop := Claim7.holds Tryd.pinned (.plain (OpenSpec.ofChange fnHeaderAskedSpec)) fnHeaderAskedCard

/-- THE TIED CARD OF 'laws.FnHeaderOf'. -/
def fnHeaderOfCard : Claim7 := { stood := { row := fnHeaderOfRow, standIns := [], harness := (true, "aa13ebcbc431931a636c9cc64437e5c87b7ae920f312d3eef8c1baa2bfe3906d"), looks := true }, kinds := [], alts := [], laidByText := true, laidKinds := [.sentinel, .sentinel, .sentinel, .sentinel, .sentinel, .sentinel], laidTests := true, laidLooks := .later }
def FnHeaderOfCardSaid : Prop := Claim7.holds Tryd.pinned (.plain (OpenSpec.ofChange fnHeaderOfSpec)) fnHeaderOfCard

/-- THE SECOND FORM's CARD OF 'laws.FnHeaderAsked'. -/
def fnHeaderAskedUptoCard : Claim7 := { stood := { row := fnHeaderAskedUptoRow, standIns := [], harness := (true, "aa13ebcbc431931a636c9cc64437e5c87b7ae920f312d3eef8c1baa2bfe3906d"), looks := true }, kinds := [], alts := [], laidByText := true, laidKinds := [.sentinel, .sentinel, .sentinel, .sentinel, .sentinel, .sentinel], laidTests := true, laidLooks := .later }
def FnHeaderAskedUptoCardSaid : Prop := Claim7.holds Tryd.pinned (.plain (OpenSpec.upto fnHeaderAskedSpec)) fnHeaderAskedUptoCard

/-- THE SECOND FORM's CARD OF 'laws.FnHeaderOf'. -/
def fnHeaderOfUptoCard : Claim7 := { stood := { row := fnHeaderOfUptoRow, standIns := [], harness := (true, "aa13ebcbc431931a636c9cc64437e5c87b7ae920f312d3eef8c1baa2bfe3906d"), looks := true }, kinds := [], alts := [], laidByText := true, laidKinds := [.sentinel, .sentinel, .sentinel, .sentinel, .sentinel, .sentinel], laidTests := true, laidLooks := .later }
def FnHeaderOfUptoCardSaid : Prop := Claim7.holds Tryd.pinned (.plain (OpenSpec.upto fnHeaderOfSpec)) fnHeaderOfUptoCard
end Rows
end Go.Proofs.YtjbbapodcngnaaaDoor
