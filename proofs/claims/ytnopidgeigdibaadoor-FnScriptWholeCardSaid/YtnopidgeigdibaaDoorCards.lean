/-
  DERIVED. GIVEN WITH THE SEED: THE CARDS: each row of YtnopidgeigdibaaDoorRows.lean that lists a variable, with what it lists TIED to the program's text (the seventh form; the later family's looks); each row that meets fmt, with fmt's text TOLD by the authors' own Lean function (tested against real Go, not proved from fmt's source: count such statements apart). THE CARD IS WHAT COUNTS. Prove the row's statement (the work); the ties are given (YtnopidgeigdibaaDoorTie.lean); close each card by the builder's one call (the guide's Derived/Test/ToyasCard.lean, 'card_holds'). Laid BY PROGRAM, IN A SANDBOX (cutbox-door.mjs). By AI agents, Wed Nov 11 2026. No macro, syntax, notation, axiom, sorry.
-/
import Derived.Test.YtnopidgeigdibaaDoorRows
import GoSem.ClaimSeven
namespace Go.Proofs.YtnopidgeigdibaaDoor
namespace Rows

/-- THE TIED CARD OF 'laws.FnScriptWhole'. -/
def fnScriptWholeCard : Claim7 := { stood := { row := fnScriptWholeRow, standIns := [], harness := (true, "d35427b7473e0a48111723af195c35e18cf2ee54db740f389486f78c5c23980c"), looks := false }, kinds := [], alts := [], laidByText := true, laidKinds := [.data], laidTests := true, laidLooks := .later }
def FnScriptWholeCardSaid : Prop := Claim7.holds Tryd.pinned (.plain (OpenSpec.ofChange fnScriptWholeSpec)) fnScriptWholeCard

/-- THE SECOND FORM's CARD OF 'laws.FnScriptWhole'. -/
def fnScriptWholeUptoCard : Claim7 := { stood := { row := fnScriptWholeUptoRow, standIns := [], harness := (true, "d35427b7473e0a48111723af195c35e18cf2ee54db740f389486f78c5c23980c"), looks := false }, kinds := [], alts := [], laidByText := true, laidKinds := [.data], laidTests := true, laidLooks := .later }
def FnScriptWholeUptoCardSaid : Prop := Claim7.holds Tryd.pinned (.plain (OpenSpec.upto fnScriptWholeSpec)) fnScriptWholeUptoCard
end Rows
end Go.Proofs.YtnopidgeigdibaaDoor
