/-
  DERIVED. GIVEN WITH THE SEED: THE CARDS: each row of YtpmbbampkedecaaDoorRows.lean that lists a variable, with what it lists TIED to the program's text (the seventh form; the later family's looks); each row that meets fmt, with fmt's text TOLD by the authors' own Lean function (tested against real Go, not proved from fmt's source: count such statements apart). THE CARD IS WHAT COUNTS. Prove the row's statement (the work); the ties are given (YtpmbbampkedecaaDoorTie.lean); close each card by the builder's one call (the guide's Derived/Test/ToyasCard.lean, 'card_holds'). Laid BY PROGRAM, IN A SANDBOX (cutbox-door.mjs). By AI agents, Wed Nov 11 2026. No macro, syntax, notation, axiom, sorry.
-/
import Derived.Test.YtpmbbampkedecaaDoorRows
import GoSem.ClaimSeven
namespace Go.Proofs.YtpmbbampkedecaaDoor
namespace Rows

/-- THE TIED CARD OF 'laws.FnZigZag'. -/
def fnZigZagCard : Claim7 := { stood := { row := fnZigZagRow, standIns := [], harness := (true, "fda16043b6d37a57423200521450051ac8e5449d3be94f4fabf03e7fa0567032"), looks := false }, kinds := [], alts := [], laidByText := true, laidKinds := [.data, .data], laidTests := true, laidLooks := .later }
def FnZigZagCardSaid : Prop := Claim7.holds Tryd.pinned (.plain (OpenSpec.ofChange fnZigZagSpec)) fnZigZagCard

/-- THE SECOND FORM's CARD OF 'laws.FnZigZag'. -/
def fnZigZagUptoCard : Claim7 := { stood := { row := fnZigZagUptoRow, standIns := [], harness := (true, "fda16043b6d37a57423200521450051ac8e5449d3be94f4fabf03e7fa0567032"), looks := false }, kinds := [], alts := [], laidByText := true, laidKinds := [.data, .data], laidTests := true, laidLooks := .later }
def FnZigZagUptoCardSaid : Prop := Claim7.holds Tryd.pinned (.plain (OpenSpec.upto fnZigZagSpec)) fnZigZagUptoCard
end Rows
end Go.Proofs.YtpmbbampkedecaaDoor
