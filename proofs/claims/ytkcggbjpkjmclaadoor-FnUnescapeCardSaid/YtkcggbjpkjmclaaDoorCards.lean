/-
  DERIVED. GIVEN WITH THE SEED: THE CARDS: each row of YtkcggbjpkjmclaaDoorRows.lean that lists a variable, with what it lists TIED to the program's text (the seventh form; the later family's looks); each row that meets fmt, with fmt's text TOLD by the authors' own Lean function (tested against real Go, not proved from fmt's source: count such statements apart). THE CARD IS WHAT COUNTS. Prove the row's statement (the work); the ties are given (YtkcggbjpkjmclaaDoorTie.lean); close each card by the builder's one call (the guide's Derived/Test/ToyasCard.lean, 'card_holds'). Laid BY PROGRAM, IN A SANDBOX (cutbox-door.mjs). By AI agents, Wed Nov 11 2026. No macro, syntax, notation, axiom, sorry.
-/
import Derived.Test.YtkcggbjpkjmclaaDoorRows
import GoSem.ClaimSeven
namespace Go.Proofs.YtkcggbjpkjmclaaDoor
namespace Rows

/-- THE TIED CARD OF 'laws.FnURL'. -/
def fnURLCard : Claim7 := { stood := { row := fnURLRow, standIns := [], harness := (true, "7fe424ac3ae2e1cb36b7a9dc7a3e9c7f46cf3bacdfa00a7831df46aa2c834f33"), looks := false }, kinds := [], alts := [], laidByText := true, laidKinds := [.data], laidTests := true, laidLooks := .later }
def FnURLCardSaid : Prop := Claim7.holds Tryd.pinned (.plain (OpenSpec.ofChange fnURLSpec)) fnURLCard

/-- THE TIED CARD OF 'laws.FnUnescape'. -/
def fnUnescapeCard : Claim7 := { stood := { row := fnUnescapeRow, standIns := [], harness := (true, "7fe424ac3ae2e1cb36b7a9dc7a3e9c7f46cf3bacdfa00a7831df46aa2c834f33"), looks := false }, kinds := [], alts := [], laidByText := true, laidKinds := [.data], laidTests := true, laidLooks := .later }
def FnUnescapeCardSaid : Prop := Claim7.holds Tryd.pinned (.plain (OpenSpec.ofChange fnUnescapeSpec)) fnUnescapeCard

/-- THE SECOND FORM's CARD OF 'laws.FnURL'. -/
def fnURLUptoCard : Claim7 := { stood := { row := fnURLUptoRow, standIns := [], harness := (true, "7fe424ac3ae2e1cb36b7a9dc7a3e9c7f46cf3bacdfa00a7831df46aa2c834f33"), looks := false }, kinds := [], alts := [], laidByText := true, laidKinds := [.data], laidTests := true, laidLooks := .later }
def FnURLUptoCardSaid : Prop := Claim7.holds Tryd.pinned (.plain (OpenSpec.upto fnURLSpec)) fnURLUptoCard

/-- THE SECOND FORM's CARD OF 'laws.FnUnescape'. -/
def fnUnescapeUptoCard : Claim7 := { stood := { row := fnUnescapeUptoRow, standIns := [], harness := (true, "7fe424ac3ae2e1cb36b7a9dc7a3e9c7f46cf3bacdfa00a7831df46aa2c834f33"), looks := false }, kinds := [], alts := [], laidByText := true, laidKinds := [.data], laidTests := true, laidLooks := .later }
def FnUnescapeUptoCardSaid : Prop := Claim7.holds Tryd.pinned (.plain (OpenSpec.upto fnUnescapeSpec)) fnUnescapeUptoCard
end Rows
end Go.Proofs.YtkcggbjpkjmclaaDoor
