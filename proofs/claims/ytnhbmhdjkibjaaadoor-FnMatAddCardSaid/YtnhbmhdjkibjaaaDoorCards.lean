/-
  DERIVED. GIVEN WITH THE SEED: THE CARDS: each row of YtnhbmhdjkibjaaaDoorRows.lean that lists a variable, with what it lists TIED to the program's text (the seventh form; the later family's looks); each row that meets fmt, with fmt's text TOLD by the authors' own Lean function (tested against real Go, not proved from fmt's source: count such statements apart). THE CARD IS WHAT COUNTS. Prove the row's statement (the work); the ties are given (YtnhbmhdjkibjaaaDoorTie.lean); close each card by the builder's one call (the guide's Derived/Test/ToyasCard.lean, 'card_holds'). Laid BY PROGRAM, IN A SANDBOX (cutbox-door.mjs). By AI agents, Wed Nov 11 2026. No macro, syntax, notation, axiom, sorry.
-/
import Derived.Test.YtnhbmhdjkibjaaaDoorRows
import GoSem.ClaimSeven
namespace Go.Proofs.YtnhbmhdjkibjaaaDoor
namespace Rows

/-- THE TIED CARD OF 'laws.FnMatDet'. -/
def fnMatDetCard : Claim7 := { stood := { row := fnMatDetRow, standIns := [], harness := (true, "e7bdafff9471de1c16b448110e7025ddfda9fc826c7e2e212762f6e226bf8e99"), looks := false }, kinds := [], alts := [], laidByText := true, laidKinds := [.data, .data, .data], laidTests := true, laidLooks := .later }
def FnMatDetCardSaid : Prop := Claim7.holds Tryd.pinned (.plain (OpenSpec.ofChange fnMatDetSpec)) fnMatDetCard

/-- THE TIED CARD OF 'laws.FnMatAdd'. -/
def fnMatAddCard : Claim7 := { stood := { row := fnMatAddRow, standIns := [], harness := (true, "e7bdafff9471de1c16b448110e7025ddfda9fc826c7e2e212762f6e226bf8e99"), looks := false }, kinds := [], alts := [], laidByText := true, laidKinds := [.data, .data, .data], laidTests := true, laidLooks := .later }
def FnMatAddCardSaid : Prop := Claim7.holds Tryd.pinned (.plain (OpenSpec.ofChange fnMatAddSpec)) fnMatAddCard

/-- THE TIED CARD OF 'laws.FnHilbertCoarse'. -/
def fnHilbertCoarseCard : Claim7 := { stood := { row := fnHilbertCoarseRow, standIns := [], harness := (true, "e7bdafff9471de1c16b448110e7025ddfda9fc826c7e2e212762f6e226bf8e99"), looks := false }, kinds := [], alts := [], laidByText := true, laidKinds := [.sentinel, .sentinel], laidTests := true, laidLooks := .later }
def FnHilbertCoarseCardSaid : Prop := Claim7.holds Tryd.pinned (.plain (OpenSpec.ofChange fnHilbertCoarseSpec)) fnHilbertCoarseCard

/-- THE SECOND FORM's CARD OF 'laws.FnMatDet'. -/
def fnMatDetUptoCard : Claim7 := { stood := { row := fnMatDetUptoRow, standIns := [], harness := (true, "e7bdafff9471de1c16b448110e7025ddfda9fc826c7e2e212762f6e226bf8e99"), looks := false }, kinds := [], alts := [], laidByText := true, laidKinds := [.data, .data, .data], laidTests := true, laidLooks := .later }
def FnMatDetUptoCardSaid : Prop := Claim7.holds Tryd.pinned (.plain (OpenSpec.upto fnMatDetSpec)) fnMatDetUptoCard

/-- THE SECOND FORM's CARD OF 'laws.FnMatAdd'. -/
def fnMatAddUptoCard : Claim7 := { stood := { row := fnMatAddUptoRow, standIns := [], harness := (true, "e7bdafff9471de1c16b448110e7025ddfda9fc826c7e2e212762f6e226bf8e99"), looks := false }, kinds := [], alts := [], laidByText := true, laidKinds := [.data, .data, .data], laidTests := true, laidLooks := .later }
def FnMatAddUptoCardSaid : Prop := Claim7.holds Tryd.pinned (.plain (OpenSpec.upto fnMatAddSpec)) fnMatAddUptoCard

/-- THE SECOND FORM's CARD OF 'laws.FnHilbertCoarse'. -/
def fnHilbertCoarseUptoCard : Claim7 := { stood := { row := fnHilbertCoarseUptoRow, standIns := [], harness := (true, "e7bdafff9471de1c16b448110e7025ddfda9fc826c7e2e212762f6e226bf8e99"), looks := false }, kinds := [], alts := [], laidByText := true, laidKinds := [.sentinel, .sentinel], laidTests := true, laidLooks := .later }
def FnHilbertCoarseUptoCardSaid : Prop := Claim7.holds Tryd.pinned (.plain (OpenSpec.upto fnHilbertCoarseSpec)) fnHilbertCoarseUptoCard
end Rows
end Go.Proofs.YtnhbmhdjkibjaaaDoor
