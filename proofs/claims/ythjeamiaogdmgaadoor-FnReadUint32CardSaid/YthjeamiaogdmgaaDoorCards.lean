/-
  DERIVED. GIVEN WITH THE SEED: THE CARDS: each row of YthjeamiaogdmgaaDoorRows.lean that lists a variable, with what it lists TIED to the program's text (the seventh form; the later family's looks); each row that meets fmt, with fmt's text TOLD by the authors' own Lean function (tested against real Go, not proved from fmt's source: count such statements apart). THE CARD IS WHAT COUNTS. Prove the row's statement (the work); the ties are given (YthjeamiaogdmgaaDoorTie.lean); close each card by the builder's one call (the guide's Derived/Test/ToyasCard.lean, 'card_holds'). Laid BY PROGRAM, IN A SANDBOX (cutbox-door.mjs). By AI agents, Wed Nov 11 2026. No macro, syntax, notation, axiom, sorry.
-/
import Derived.Test.YthjeamiaogdmgaaDoorRows
import GoSem.ClaimSeven
namespace Go.Proofs.YthjeamiaogdmgaaDoor
namespace Rows

/-- THE TIED CARD OF 'laws.FnReadUint32'. -/
def fnReadUint32Card : Claim7 := { stood := { row := fnReadUint32Row, standIns := [], harness := (true, "f3aa769b5dd1dc3e409a71eb34ddb9d3daa171f6e7d5df911bf3b4de605ab965"), looks := true }, kinds := [], alts := [], laidByText := true, laidKinds := [.sentinel, .sentinel, .sentinel], laidTests := true, laidLooks := .later }
def FnReadUint32CardSaid : Prop := Claim7.holds Tryd.pinned (.plain (OpenSpec.ofChange fnReadUint32Spec)) fnReadUint32Card

/-- THE TIED CARD OF 'laws.FnWriteUint32'. -/
def fnWriteUint32Card : Claim7 := { stood := { row := fnWriteUint32Row, standIns := [], harness := (true, "f3aa769b5dd1dc3e409a71eb34ddb9d3daa171f6e7d5df911bf3b4de605ab965"), looks := true }, kinds := [], alts := [], laidByText := true, laidKinds := [.sentinel, .sentinel, .sentinel], laidTests := true, laidLooks := .later }
def FnWriteUint32CardSaid : Prop := Claim7.holds Tryd.pinned (.plain (OpenSpec.ofChange fnWriteUint32Spec)) fnWriteUint32Card

/-- THE SECOND FORM's CARD OF 'laws.FnReadUint32'. -/
def fnReadUint32UptoCard : Claim7 := { stood := { row := fnReadUint32UptoRow, standIns := [], harness := (true, "f3aa769b5dd1dc3e409a71eb34ddb9d3daa171f6e7d5df911bf3b4de605ab965"), looks := true }, kinds := [], alts := [], laidByText := true, laidKinds := [.sentinel, .sentinel, .sentinel], laidTests := true, laidLooks := .later }
def FnReadUint32UptoCardSaid : Prop := Claim7.holds Tryd.pinned (.plain (OpenSpec.upto fnReadUint32Spec)) fnReadUint32UptoCard

/-- THE SECOND FORM's CARD OF 'laws.FnWriteUint32'. -/
def fnWriteUint32UptoCard : Claim7 := { stood := { row := fnWriteUint32UptoRow, standIns := [], harness := (true, "f3aa769b5dd1dc3e409a71eb34ddb9d3daa171f6e7d5df911bf3b4de605ab965"), looks := true }, kinds := [], alts := [], laidByText := true, laidKinds := [.sentinel, .sentinel, .sentinel], laidTests := true, laidLooks := .later }
def FnWriteUint32UptoCardSaid : Prop := Claim7.holds Tryd.pinned (.plain (OpenSpec.upto fnWriteUint32Spec)) fnWriteUint32UptoCard
end Rows
end Go.Proofs.YthjeamiaogdmgaaDoor
