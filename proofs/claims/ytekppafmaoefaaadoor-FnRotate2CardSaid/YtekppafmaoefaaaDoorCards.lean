/-
  DERIVED. GIVEN WITH THE SEED: THE CARDS: each row of YtekppafmaoefaaaDoorRows.lean that lists a variable, with what it lists TIED to the program's text (the seventh form; the later family's looks); each row that meets fmt, with fmt's text TOLD by the authors' own Lean function (tested against real Go, not proved from fmt's source: count such statements apart). THE CARD IS WHAT COUNTS. Prove the row's statement (the work); the ties are given (YtekppafmaoefaaaDoorTie.lean); close each card by the builder's one call (the guide's Derived/Test/ToyasCard.lean, 'card_holds'). Laid BY PROGRAM, IN A SANDBOX (cutbox-door.mjs). By AI agents, Wed Nov 11 2026. No macro, syntax, notation, axiom, sorry.
-/
import Derived.Test.YtekppafmaoefaaaDoorRows
import GoSem.ClaimSeven
namespace Go.Proofs.YtekppafmaoefaaaDoor
namespace Rows

/-- THE TIED CARD OF 'laws.FnOrientation'. -/
def fnOrientationCard : Claim7 := { stood := { row := fnOrientationRow, standIns := [], harness := (true, "f284930e8101219eeffdea372179c14aba8041da2e252cbce96ca18a24b4ef9c"), looks := false }, kinds := [], alts := [], laidByText := true, laidKinds := [.data], laidTests := true, laidLooks := .later }
def FnOrientationCardSaid : Prop := Claim7.holds Tryd.pinned (.plain (OpenSpec.ofChange fnOrientationSpec)) fnOrientationCard

/-- THE TIED CARD OF 'laws.FnRadialLess'. -/
def fnRadialLessCard : Claim7 := { stood := { row := fnRadialLessRow, standIns := [], harness := (true, "f284930e8101219eeffdea372179c14aba8041da2e252cbce96ca18a24b4ef9c"), looks := false }, kinds := [], alts := [], laidByText := true, laidKinds := [.data], laidTests := true, laidLooks := .later }
def FnRadialLessCardSaid : Prop := Claim7.holds Tryd.pinned (.plain (OpenSpec.ofChange fnRadialLessSpec)) fnRadialLessCard

/-- THE TIED CARD OF 'laws.FnRotate2'. -/
def fnRotate2Card : Claim7 := { stood := { row := fnRotate2Row, standIns := [], harness := (true, "f284930e8101219eeffdea372179c14aba8041da2e252cbce96ca18a24b4ef9c"), looks := false }, kinds := [], alts := [], laidByText := true, laidKinds := [.data, .data, .data], laidTests := true, laidLooks := .later }
def FnRotate2CardSaid : Prop := Claim7.holds Tryd.pinned (.plain (OpenSpec.ofChange fnRotate2Spec)) fnRotate2Card

/-- THE SECOND FORM's CARD OF 'laws.FnOrientation'. -/
def fnOrientationUptoCard : Claim7 := { stood := { row := fnOrientationUptoRow, standIns := [], harness := (true, "f284930e8101219eeffdea372179c14aba8041da2e252cbce96ca18a24b4ef9c"), looks := false }, kinds := [], alts := [], laidByText := true, laidKinds := [.data], laidTests := true, laidLooks := .later }
def FnOrientationUptoCardSaid : Prop := Claim7.holds Tryd.pinned (.plain (OpenSpec.upto fnOrientationSpec)) fnOrientationUptoCard

/-- THE SECOND FORM's CARD OF 'laws.FnRadialLess'. -/
def fnRadialLessUptoCard : Claim7 := { stood := { row := fnRadialLessUptoRow, standIns := [], harness := (true, "f284930e8101219eeffdea372179c14aba8041da2e252cbce96ca18a24b4ef9c"), looks := false }, kinds := [], alts := [], laidByText := true, laidKinds := [.data], laidTests := true, laidLooks := .later }
def FnRadialLessUptoCardSaid : Prop := Claim7.holds Tryd.pinned (.plain (OpenSpec.upto fnRadialLessSpec)) fnRadialLessUptoCard

/-- THE SECOND FORM's CARD OF 'laws.FnRotate2'. -/
def fnRotate2UptoCard : Claim7 := { stood := { row := fnRotate2UptoRow, standIns := [], harness := (true, "f284930e8101219eeffdea372179c14aba8041da2e252cbce96ca18a24b4ef9c"), looks := false }, kinds := [], alts := [], laidByText := true, laidKinds := [.data, .data, .data], laidTests := true, laidLooks := .later }
def FnRotate2UptoCardSaid : Prop := Claim7.holds Tryd.pinned (.plain (OpenSpec.upto fnRotate2Spec)) fnRotate2UptoCard
end Rows
end Go.Proofs.YtekppafmaoefaaaDoor
