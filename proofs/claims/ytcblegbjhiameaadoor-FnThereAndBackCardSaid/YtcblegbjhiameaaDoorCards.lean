/-
  DERIVED. GIVEN WITH THE SEED: THE CARDS: each row of YtcblegbjhiameaaDoorRows.lean that lists a variable, with what it lists TIED to the program's text (the seventh form; the later family's looks); each row that meets fmt, with fmt's text TOLD by the authors' own Lean function (tested against real Go, not proved from fmt's source: count such statements apart). THE CARD IS WHAT COUNTS. Prove the row's statement (the work); the ties are given (YtcblegbjhiameaaDoorTie.lean); close each card by the builder's one call (the guide's Derived/Test/ToyasCard.lean, 'card_holds'). Laid BY PROGRAM, IN A SANDBOX (cutbox-door.mjs). By AI agents, Wed Nov 11 2026. No macro, syntax, notation, axiom, sorry.
-/
import Derived.Test.YtcblegbjhiameaaDoorRows
import GoSem.ClaimSeven
namespace Go.Proofs.YtcblegbjhiameaaDoor
namespace Rows

/-- THE TIED CARD OF 'laws.FnForward'. -/
def fnForwardCard : Claim7 := { stood := { row := fnForwardRow, standIns := [], harness := (true, "26a450860c9c0ca657989445a6e0003a7a9402157862e2199f9db4d0c956ae61"), looks := false }, kinds := [], alts := [], laidByText := true, laidKinds := [.data, .data], laidTests := true, laidLooks := .later }
def FnForwardCardSaid : Prop := Claim7.holds Tryd.pinned (.plain (OpenSpec.ofChange fnForwardSpec)) fnForwardCard

/-- THE TIED CARD OF 'laws.FnInverse'. -/
def fnInverseCard : Claim7 := { stood := { row := fnInverseRow, standIns := [], harness := (true, "26a450860c9c0ca657989445a6e0003a7a9402157862e2199f9db4d0c956ae61"), looks := false }, kinds := [], alts := [], laidByText := true, laidKinds := [.data, .data], laidTests := true, laidLooks := .later }
def FnInverseCardSaid : Prop := Claim7.holds Tryd.pinned (.plain (OpenSpec.ofChange fnInverseSpec)) fnInverseCard

/-- THE TIED CARD OF 'laws.FnInverseHalves'. -/
def fnInverseHalvesCard : Claim7 := { stood := { row := fnInverseHalvesRow, standIns := [], harness := (true, "26a450860c9c0ca657989445a6e0003a7a9402157862e2199f9db4d0c956ae61"), looks := false }, kinds := [], alts := [], laidByText := true, laidKinds := [.data, .data], laidTests := true, laidLooks := .later }
def FnInverseHalvesCardSaid : Prop := Claim7.holds Tryd.pinned (.plain (OpenSpec.ofChange fnInverseHalvesSpec)) fnInverseHalvesCard

/-- THE TIED CARD OF 'laws.FnThereAndBack'. -/
def fnThereAndBackCard : Claim7 := { stood := { row := fnThereAndBackRow, standIns := [], harness := (true, "26a450860c9c0ca657989445a6e0003a7a9402157862e2199f9db4d0c956ae61"), looks := false }, kinds := [], alts := [], laidByText := true, laidKinds := [.data, .data], laidTests := true, laidLooks := .later }
def FnThereAndBackCardSaid : Prop := Claim7.holds Tryd.pinned (.plain (OpenSpec.ofChange fnThereAndBackSpec)) fnThereAndBackCard

/-- THE SECOND FORM's CARD OF 'laws.FnForward'. -/
def fnForwardUptoCard : Claim7 := { stood := { row := fnForwardUptoRow, standIns := [], harness := (true, "26a450860c9c0ca657989445a6e0003a7a9402157862e2199f9db4d0c956ae61"), looks := false }, kinds := [], alts := [], laidByText := true, laidKinds := [.data, .data], laidTests := true, laidLooks := .later }
def FnForwardUptoCardSaid : Prop := Claim7.holds Tryd.pinned (.plain (OpenSpec.upto fnForwardSpec)) fnForwardUptoCard

/-- THE SECOND FORM's CARD OF 'laws.FnInverse'. -/
def fnInverseUptoCard : Claim7 := { stood := { row := fnInverseUptoRow, standIns := [], harness := (true, "26a450860c9c0ca657989445a6e0003a7a9402157862e2199f9db4d0c956ae61"), looks := false }, kinds := [], alts := [], laidByText := true, laidKinds := [.data, .data], laidTests := true, laidLooks := .later }
def FnInverseUptoCardSaid : Prop := Claim7.holds Tryd.pinned (.plain (OpenSpec.upto fnInverseSpec)) fnInverseUptoCard

/-- THE SECOND FORM's CARD OF 'laws.FnInverseHalves'. -/
def fnInverseHalvesUptoCard : Claim7 := { stood := { row := fnInverseHalvesUptoRow, standIns := [], harness := (true, "26a450860c9c0ca657989445a6e0003a7a9402157862e2199f9db4d0c956ae61"), looks := false }, kinds := [], alts := [], laidByText := true, laidKinds := [.data, .data], laidTests := true, laidLooks := .later }
def FnInverseHalvesUptoCardSaid : Prop := Claim7.holds Tryd.pinned (.plain (OpenSpec.upto fnInverseHalvesSpec)) fnInverseHalvesUptoCard

/-- THE SECOND FORM's CARD OF 'laws.FnThereAndBack'. -/
def fnThereAndBackUptoCard : Claim7 := { stood := { row := fnThereAndBackUptoRow, standIns := [], harness := (true, "26a450860c9c0ca657989445a6e0003a7a9402157862e2199f9db4d0c956ae61"), looks := false }, kinds := [], alts := [], laidByText := true, laidKinds := [.data, .data], laidTests := true, laidLooks := .later }
def FnThereAndBackUptoCardSaid : Prop := Claim7.holds Tryd.pinned (.plain (OpenSpec.upto fnThereAndBackSpec)) fnThereAndBackUptoCard
end Rows
end Go.Proofs.YtcblegbjhiameaaDoor
