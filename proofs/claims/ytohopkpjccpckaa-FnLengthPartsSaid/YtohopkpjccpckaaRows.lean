/-
  NARROWER THAN 'FOR EVERY INPUT', by the rows' own cells (each row's printed sentence says how): FnEndssOf: loops · FnNumCoords: loops · FnSetLayout: loops · FnSetSRID: loops · FnPush: loops · FnLengthParts: loops · FnBoxExtendOrder: loops.
  DERIVED. THE GIVEN ROWS OF THIS SEAT. 8 by the template 'for every input the law returns true; each argument reads behind the call as it read before'; 0 by the template 'total and deterministic' (their statements: YtohopkpjccpckaaTotals.lean).
  GIVEN WITH THE SEED: the statements are not yours to turn. If you find one false, say at which input.
  Laid BY PROGRAM, IN A SANDBOX (cutbox-rows.mjs): the forced cells as the released guide's own fill.sh prints them over the translation 95ead50c75eae719… (all of the seat's roots in one cut). By AI agents, Wed Nov 11 2026. No macro, syntax, notation, axiom, sorry.
-/
import Derived.Test.YtohopkpjccpckaaChecked
import GoSem.Claim
import GoSem.ClaimJoined
import GoSem.ClaimMapViews
import Derived.JoinedTies
import Derived.KernelRfl
namespace Go.Proofs.Ytohopkpjccpckaa
/- THE CELL 'sum', in the pinned program and in every row, IS THE sha256 OF THE DUMP (.gsa) THAT YtohopkpjccpckaaProg.lean LOADS. Nothing in Lean hashes anything: it is a label: what it is worth is what the hold of that sum in a sandbox is worth. -/
noncomputable def Try.pinned : Pinned := { name := "ytohopkpjccpckaa", sum := "95ead50c75eae719b3d320d1fcd5d3460bbed86b70740c623d24c0732c0d9cb7", checked := Try.checked }
namespace Rows
def none {H : Type} : Left H := { results := [], args := [] }

/-- 'laws.FnSetPoint': WHATEVER THE INPUT: true; the input reads as it did. -/
def fnSetPointSpec : ChangeSpec := { name := "fnSetPoint", fn := fun _ => fun
  | [d1, d2] => { results := [.lit (.bool true)], args := [d1, d2] }
  | _ => none }
def fnSetPointRow : OpenClaim := { program := "ytohopkpjccpckaa", sum := "95ead50c75eae719b3d320d1fcd5d3460bbed86b70740c623d24c0732c0d9cb7", func := "pub-orthodrome/laws.FnSetPoint", spec := "fnSetPoint", inPlace := ["math.Float64bits"], unfollowed := true, recurses := true, apart := false }
def FnSetPointSaid : Prop := fnSetPointRow.holds Try.pinned (OpenSpec.ofChange fnSetPointSpec)

/-- ITS FALSE NEIGHBOUR: 'it returns false'. Refute it at one input. -/
def fnSetPointWrong : ChangeSpec := { name := "fnSetPoint", fn := fun _ => fun
  | [d1, d2] => { results := [.lit (.bool false)], args := [d1, d2] }
  | _ => none }
def FnSetPointWrongFalsely : Prop := fnSetPointRow.holds Try.pinned (OpenSpec.ofChange fnSetPointWrong)

/-- 'laws.FnEndssOf': WHATEVER THE INPUT: true; the input reads as it did. -/
def fnEndssOfSpec : ChangeSpec := { name := "fnEndssOf", fn := fun _ => fun
  | [d] => { results := [.lit (.bool true)], args := [d] }
  | _ => none }
def fnEndssOfRow : OpenClaim := { program := "ytohopkpjccpckaa", sum := "95ead50c75eae719b3d320d1fcd5d3460bbed86b70740c623d24c0732c0d9cb7", func := "pub-orthodrome/laws.FnEndssOf", spec := "fnEndssOf", unfollowed := true, recurses := true, loops := true, apart := false }
def FnEndssOfSaid : Prop := fnEndssOfRow.holds Try.pinned (OpenSpec.ofChange fnEndssOfSpec)

/-- ITS FALSE NEIGHBOUR: 'it returns false'. Refute it at one input. -/
def fnEndssOfWrong : ChangeSpec := { name := "fnEndssOf", fn := fun _ => fun
  | [d] => { results := [.lit (.bool false)], args := [d] }
  | _ => none }
def FnEndssOfWrongFalsely : Prop := fnEndssOfRow.holds Try.pinned (OpenSpec.ofChange fnEndssOfWrong)

/-- 'laws.FnNumCoords': WHATEVER THE INPUT: true; the input reads as it did. -/
def fnNumCoordsSpec : ChangeSpec := { name := "fnNumCoords", fn := fun _ => fun
  | [d] => { results := [.lit (.bool true)], args := [d] }
  | _ => none }
def fnNumCoordsRow : OpenClaim := { program := "ytohopkpjccpckaa", sum := "95ead50c75eae719b3d320d1fcd5d3460bbed86b70740c623d24c0732c0d9cb7", func := "pub-orthodrome/laws.FnNumCoords", spec := "fnNumCoords", unfollowed := true, recurses := true, loops := true, apart := false }
def FnNumCoordsSaid : Prop := fnNumCoordsRow.holds Try.pinned (OpenSpec.ofChange fnNumCoordsSpec)

/-- ITS FALSE NEIGHBOUR: 'it returns false'. Refute it at one input. -/
def fnNumCoordsWrong : ChangeSpec := { name := "fnNumCoords", fn := fun _ => fun
  | [d] => { results := [.lit (.bool false)], args := [d] }
  | _ => none }
def FnNumCoordsWrongFalsely : Prop := fnNumCoordsRow.holds Try.pinned (OpenSpec.ofChange fnNumCoordsWrong)

/-- 'laws.FnSetLayout': WHATEVER THE INPUT: true; the input reads as it did. -/
def fnSetLayoutSpec : ChangeSpec := { name := "fnSetLayout", fn := fun _ => fun
  | [d1, d2] => { results := [.lit (.bool true)], args := [d1, d2] }
  | _ => none }
def fnSetLayoutRow : OpenClaim := { program := "ytohopkpjccpckaa", sum := "95ead50c75eae719b3d320d1fcd5d3460bbed86b70740c623d24c0732c0d9cb7", func := "pub-orthodrome/laws.FnSetLayout", spec := "fnSetLayout", inPlace := ["math.Float64bits"], unfollowed := true, recurses := true, loops := true, apart := false }
def FnSetLayoutSaid : Prop := fnSetLayoutRow.holds Try.pinned (OpenSpec.ofChange fnSetLayoutSpec)

/-- ITS FALSE NEIGHBOUR: 'it returns false'. Refute it at one input. -/
def fnSetLayoutWrong : ChangeSpec := { name := "fnSetLayout", fn := fun _ => fun
  | [d1, d2] => { results := [.lit (.bool false)], args := [d1, d2] }
  | _ => none }
def FnSetLayoutWrongFalsely : Prop := fnSetLayoutRow.holds Try.pinned (OpenSpec.ofChange fnSetLayoutWrong)

/-- 'laws.FnSetSRID': WHATEVER THE INPUT: true; the input reads as it did. -/
def fnSetSRIDSpec : ChangeSpec := { name := "fnSetSRID", fn := fun _ => fun
  | [d1, d2] => { results := [.lit (.bool true)], args := [d1, d2] }
  | _ => none }
def fnSetSRIDRow : OpenClaim := { program := "ytohopkpjccpckaa", sum := "95ead50c75eae719b3d320d1fcd5d3460bbed86b70740c623d24c0732c0d9cb7", func := "pub-orthodrome/laws.FnSetSRID", spec := "fnSetSRID", inPlace := ["math.Float64bits"], unfollowed := true, recurses := true, loops := true, apart := false }
def FnSetSRIDSaid : Prop := fnSetSRIDRow.holds Try.pinned (OpenSpec.ofChange fnSetSRIDSpec)

/-- ITS FALSE NEIGHBOUR: 'it returns false'. Refute it at one input. -/
def fnSetSRIDWrong : ChangeSpec := { name := "fnSetSRID", fn := fun _ => fun
  | [d1, d2] => { results := [.lit (.bool false)], args := [d1, d2] }
  | _ => none }
def FnSetSRIDWrongFalsely : Prop := fnSetSRIDRow.holds Try.pinned (OpenSpec.ofChange fnSetSRIDWrong)

/-- 'laws.FnPush': WHATEVER THE INPUT: true; the input reads as it did. -/
def fnPushSpec : ChangeSpec := { name := "fnPush", fn := fun _ => fun
  | [d1, d2] => { results := [.lit (.bool true)], args := [d1, d2] }
  | _ => none }
def fnPushRow : OpenClaim := { program := "ytohopkpjccpckaa", sum := "95ead50c75eae719b3d320d1fcd5d3460bbed86b70740c623d24c0732c0d9cb7", func := "pub-orthodrome/laws.FnPush", spec := "fnPush", inPlace := ["math.Float64bits"], unfollowed := true, recurses := true, loops := true, apart := false }
def FnPushSaid : Prop := fnPushRow.holds Try.pinned (OpenSpec.ofChange fnPushSpec)

/-- ITS FALSE NEIGHBOUR: 'it returns false'. Refute it at one input. -/
def fnPushWrong : ChangeSpec := { name := "fnPush", fn := fun _ => fun
  | [d1, d2] => { results := [.lit (.bool false)], args := [d1, d2] }
  | _ => none }
def FnPushWrongFalsely : Prop := fnPushRow.holds Try.pinned (OpenSpec.ofChange fnPushWrong)

/-- 'laws.FnLengthParts': WHATEVER THE INPUT: true; the input reads as it did. -/
def fnLengthPartsSpec : ChangeSpec := { name := "fnLengthParts", fn := fun _ => fun
  | [d] => { results := [.lit (.bool true)], args := [d] }
  | _ => none }
def fnLengthPartsRow : OpenClaim := { program := "ytohopkpjccpckaa", sum := "95ead50c75eae719b3d320d1fcd5d3460bbed86b70740c623d24c0732c0d9cb7", func := "pub-orthodrome/laws.FnLengthParts", spec := "fnLengthParts", inPlace := ["math.archTrunc", "math.Float64bits", "math.Float64frombits"], unfollowed := true, recurses := true, loops := true, apart := false }
def FnLengthPartsSaid : Prop := fnLengthPartsRow.holds Try.pinned (OpenSpec.ofChange fnLengthPartsSpec)

/-- ITS FALSE NEIGHBOUR: 'it returns false'. Refute it at one input. -/
def fnLengthPartsWrong : ChangeSpec := { name := "fnLengthParts", fn := fun _ => fun
  | [d] => { results := [.lit (.bool false)], args := [d] }
  | _ => none }
def FnLengthPartsWrongFalsely : Prop := fnLengthPartsRow.holds Try.pinned (OpenSpec.ofChange fnLengthPartsWrong)

/-- 'laws.FnBoxExtendOrder': WHATEVER THE INPUT: true; the input reads as it did. -/
def fnBoxExtendOrderSpec : ChangeSpec := { name := "fnBoxExtendOrder", fn := fun _ => fun
  | [d1, d2, d3] => { results := [.lit (.bool true)], args := [d1, d2, d3] }
  | _ => none }
def fnBoxExtendOrderRow : OpenClaim := { program := "ytohopkpjccpckaa", sum := "95ead50c75eae719b3d320d1fcd5d3460bbed86b70740c623d24c0732c0d9cb7", func := "pub-orthodrome/laws.FnBoxExtendOrder", spec := "fnBoxExtendOrder", inPlace := ["math.Float64frombits", "math.archMin", "math.Float64bits", "math.archMax"], unfollowed := true, recurses := true, loops := true, apart := false }
def FnBoxExtendOrderSaid : Prop := fnBoxExtendOrderRow.holds Try.pinned (OpenSpec.ofChange fnBoxExtendOrderSpec)

/-- ITS FALSE NEIGHBOUR: 'it returns false'. Refute it at one input. -/
def fnBoxExtendOrderWrong : ChangeSpec := { name := "fnBoxExtendOrder", fn := fun _ => fun
  | [d1, d2, d3] => { results := [.lit (.bool false)], args := [d1, d2, d3] }
  | _ => none }
def FnBoxExtendOrderWrongFalsely : Prop := fnBoxExtendOrderRow.holds Try.pinned (OpenSpec.ofChange fnBoxExtendOrderWrong)

/- THE SECOND FORM. 'bulk': how many values and letters a reading holds, each counted each time it is reached (what is shared counts as often as it is met; a slice's spare places count too). A statement '..UptoSaid' is the law's where the arguments, and the package variables that the reading takes, are together of bulk at most 1048576: NARROWER than '..Said'. Prove '..Said' where nothing that the law and all that it calls make is longer than what came in: it says more and counts as full. Else prove '..UptoSaid'. A law counts once. -/
mutual
def uptoBulk {H : Type} : DataW H → Nat
  | .lit (.string bytes) => bytes.length + 1
  | .lit _ => 1
  | .nil => 1
  | .ptr d => uptoBulk d + 1
  | .slice elems spare => uptoBulkAll elems + uptoBulkAll spare + 1
  | .agg parts => uptoBulkAll parts + 1
  | .iface _ d => uptoBulk d + 1
  | .map entries => uptoBulkEntries entries + 1
  | .held _ => 1
def uptoBulkAll {H : Type} : List (DataW H) → Nat
  | [] => 0
  | d :: r => uptoBulk d + uptoBulkAll r
def uptoBulkEntries {H : Type} : List (Lit × DataW H) → Nat
  | [] => 0
  | x :: r => uptoBulkEntry x + uptoBulkEntries r
def uptoBulkEntry {H : Type} : Lit × DataW H → Nat
  | (.string bytes, d) => bytes.length + uptoBulk d + 1
  | (_, d) => uptoBulk d + 1
 end
def uptoSmall : (H : Type) → List (DataW H) → Bool := fun _ ds => decide (uptoBulkAll ds ≤ 1048576)
def OpenSpec.upto (s : _root_.Go.ChangeSpec) : _root_.Go.OpenSpec := { _root_.Go.OpenSpec.ofChange s with cond := some uptoSmall }

/-- 'laws.FnSetPoint', WHERE WHAT IT READS IS OF BULK AT MOST 1048576: true; the input reads as it did. -/
def fnSetPointUptoRow : OpenClaim := { program := "ytohopkpjccpckaa", sum := "95ead50c75eae719b3d320d1fcd5d3460bbed86b70740c623d24c0732c0d9cb7", func := "pub-orthodrome/laws.FnSetPoint", spec := "fnSetPoint", inPlace := ["math.Float64bits"], unfollowed := true, recurses := true, apart := false, narrowed := true }
def FnSetPointUptoSaid : Prop := fnSetPointUptoRow.holds Try.pinned (OpenSpec.upto fnSetPointSpec)

/-- 'laws.FnEndssOf', WHERE WHAT IT READS IS OF BULK AT MOST 1048576: true; the input reads as it did. -/
def fnEndssOfUptoRow : OpenClaim := { program := "ytohopkpjccpckaa", sum := "95ead50c75eae719b3d320d1fcd5d3460bbed86b70740c623d24c0732c0d9cb7", func := "pub-orthodrome/laws.FnEndssOf", spec := "fnEndssOf", unfollowed := true, recurses := true, loops := true, apart := false, narrowed := true }
def FnEndssOfUptoSaid : Prop := fnEndssOfUptoRow.holds Try.pinned (OpenSpec.upto fnEndssOfSpec)

/-- 'laws.FnNumCoords', WHERE WHAT IT READS IS OF BULK AT MOST 1048576: true; the input reads as it did. -/
def fnNumCoordsUptoRow : OpenClaim := { program := "ytohopkpjccpckaa", sum := "95ead50c75eae719b3d320d1fcd5d3460bbed86b70740c623d24c0732c0d9cb7", func := "pub-orthodrome/laws.FnNumCoords", spec := "fnNumCoords", unfollowed := true, recurses := true, loops := true, apart := false, narrowed := true }
def FnNumCoordsUptoSaid : Prop := fnNumCoordsUptoRow.holds Try.pinned (OpenSpec.upto fnNumCoordsSpec)

/-- 'laws.FnSetLayout', WHERE WHAT IT READS IS OF BULK AT MOST 1048576: true; the input reads as it did. -/
def fnSetLayoutUptoRow : OpenClaim := { program := "ytohopkpjccpckaa", sum := "95ead50c75eae719b3d320d1fcd5d3460bbed86b70740c623d24c0732c0d9cb7", func := "pub-orthodrome/laws.FnSetLayout", spec := "fnSetLayout", inPlace := ["math.Float64bits"], unfollowed := true, recurses := true, loops := true, apart := false, narrowed := true }
def FnSetLayoutUptoSaid : Prop := fnSetLayoutUptoRow.holds Try.pinned (OpenSpec.upto fnSetLayoutSpec)

/-- 'laws.FnSetSRID', WHERE WHAT IT READS IS OF BULK AT MOST 1048576: true; the input reads as it did. -/
def fnSetSRIDUptoRow : OpenClaim := { program := "ytohopkpjccpckaa", sum := "95ead50c75eae719b3d320d1fcd5d3460bbed86b70740c623d24c0732c0d9cb7", func := "pub-orthodrome/laws.FnSetSRID", spec := "fnSetSRID", inPlace := ["math.Float64bits"], unfollowed := true, recurses := true, loops := true, apart := false, narrowed := true }
def FnSetSRIDUptoSaid : Prop := fnSetSRIDUptoRow.holds Try.pinned (OpenSpec.upto fnSetSRIDSpec)

/-- 'laws.FnPush', WHERE WHAT IT READS IS OF BULK AT MOST 1048576: true; the input reads as it did. -/
def fnPushUptoRow : OpenClaim := { program := "ytohopkpjccpckaa", sum := "95ead50c75eae719b3d320d1fcd5d3460bbed86b70740c623d24c0732c0d9cb7", func := "pub-orthodrome/laws.FnPush", spec := "fnPush", inPlace := ["math.Float64bits"], unfollowed := true, recurses := true, loops := true, apart := false, narrowed := true }
def FnPushUptoSaid : Prop := fnPushUptoRow.holds Try.pinned (OpenSpec.upto fnPushSpec)

/-- 'laws.FnLengthParts', WHERE WHAT IT READS IS OF BULK AT MOST 1048576: true; the input reads as it did. -/
def fnLengthPartsUptoRow : OpenClaim := { program := "ytohopkpjccpckaa", sum := "95ead50c75eae719b3d320d1fcd5d3460bbed86b70740c623d24c0732c0d9cb7", func := "pub-orthodrome/laws.FnLengthParts", spec := "fnLengthParts", inPlace := ["math.archTrunc", "math.Float64bits", "math.Float64frombits"], unfollowed := true, recurses := true, loops := true, apart := false, narrowed := true }
def FnLengthPartsUptoSaid : Prop := fnLengthPartsUptoRow.holds Try.pinned (OpenSpec.upto fnLengthPartsSpec)

/-- 'laws.FnBoxExtendOrder', WHERE WHAT IT READS IS OF BULK AT MOST 1048576: true; the input reads as it did. -/
def fnBoxExtendOrderUptoRow : OpenClaim := { program := "ytohopkpjccpckaa", sum := "95ead50c75eae719b3d320d1fcd5d3460bbed86b70740c623d24c0732c0d9cb7", func := "pub-orthodrome/laws.FnBoxExtendOrder", spec := "fnBoxExtendOrder", inPlace := ["math.Float64frombits", "math.archMin", "math.Float64bits", "math.archMax"], unfollowed := true, recurses := true, loops := true, apart := false, narrowed := true }
def FnBoxExtendOrderUptoSaid : Prop := fnBoxExtendOrderUptoRow.holds Try.pinned (OpenSpec.upto fnBoxExtendOrderSpec)

end Rows
end Go.Proofs.Ytohopkpjccpckaa
