/-
  No cell of these rows narrows 'for every input' (looked for: loops, veiled, ifaces, maps, wideKeys, modest, calm, conditions, laid).
  DERIVED. THE GIVEN ROWS OF THIS SEAT. 12 by the template 'for every input the law returns true; each argument reads behind the call as it read before'; 0 by the template 'total and deterministic' (their statements: YtnemkhcjmenfnaaTotals.lean).
  GIVEN WITH THE SEED: the statements are not yours to turn. If you find one false, say at which input.
  Laid BY PROGRAM, IN A SANDBOX (cutbox-rows.mjs): the forced cells as the released guide's own fill.sh prints them over the translation 31cfb6c050305128… (all of the seat's roots in one cut). By AI agents, Wed Nov 11 2026. No macro, syntax, notation, axiom, sorry.
-/
import Derived.Test.YtnemkhcjmenfnaaChecked
import GoSem.Claim
import GoSem.ClaimJoined
import GoSem.ClaimMapViews
import Derived.JoinedTies
import Derived.KernelRfl
namespace Go.Proofs.Ytnemkhcjmenfnaa
/- THE CELL 'sum', in the pinned program and in every row, IS THE sha256 OF THE DUMP (.gsa) THAT YtnemkhcjmenfnaaProg.lean LOADS. Nothing in Lean hashes anything: it is a label: what it is worth is what the hold of that sum in a sandbox is worth. -/
noncomputable def Try.pinned : Pinned := { name := "ytnemkhcjmenfnaa", sum := "31cfb6c050305128f165ff6c37720b75677eb66e32e45d60c4933e1542f28191", checked := Try.checked }
namespace Rows
def none {H : Type} : Left H := { results := [], args := [] }

/-- 'laws.FnSignedAreaSplit': WHATEVER THE INPUT: true; the input reads as it did. -/
def fnSignedAreaSplitSpec : ChangeSpec := { name := "fnSignedAreaSplit", fn := fun _ => fun
  | [d1, d2] => { results := [.lit (.bool true)], args := [d1, d2] }
  | _ => none }
def fnSignedAreaSplitRow : OpenClaim := { program := "ytnemkhcjmenfnaa", sum := "31cfb6c050305128f165ff6c37720b75677eb66e32e45d60c4933e1542f28191", func := "pub-orthodrome/laws.FnSignedAreaSplit", spec := "fnSignedAreaSplit", inPlace := ["math.archTrunc", "math.Float64bits", "math.Float64frombits"], unfollowed := true, recurses := true, apart := false }
def FnSignedAreaSplitSaid : Prop := fnSignedAreaSplitRow.holds Try.pinned (OpenSpec.ofChange fnSignedAreaSplitSpec)

/-- ITS FALSE NEIGHBOUR: 'it returns false'. Refute it at one input. -/
def fnSignedAreaSplitWrong : ChangeSpec := { name := "fnSignedAreaSplit", fn := fun _ => fun
  | [d1, d2] => { results := [.lit (.bool false)], args := [d1, d2] }
  | _ => none }
def FnSignedAreaSplitWrongFalsely : Prop := fnSignedAreaSplitRow.holds Try.pinned (OpenSpec.ofChange fnSignedAreaSplitWrong)

/-- 'laws.FnPointsCentroidFlat': WHATEVER THE INPUT: true; the input reads as it did. -/
def fnPointsCentroidFlatSpec : ChangeSpec := { name := "fnPointsCentroidFlat", fn := fun _ => fun
  | [d1, d2] => { results := [.lit (.bool true)], args := [d1, d2] }
  | _ => none }
def fnPointsCentroidFlatRow : OpenClaim := { program := "ytnemkhcjmenfnaa", sum := "31cfb6c050305128f165ff6c37720b75677eb66e32e45d60c4933e1542f28191", func := "pub-orthodrome/laws.FnPointsCentroidFlat", spec := "fnPointsCentroidFlat", inPlace := ["math.archTrunc", "math.Float64bits", "math.Float64frombits"], unfollowed := true, recurses := true, apart := false }
def FnPointsCentroidFlatSaid : Prop := fnPointsCentroidFlatRow.holds Try.pinned (OpenSpec.ofChange fnPointsCentroidFlatSpec)

/-- ITS FALSE NEIGHBOUR: 'it returns false'. Refute it at one input. -/
def fnPointsCentroidFlatWrong : ChangeSpec := { name := "fnPointsCentroidFlat", fn := fun _ => fun
  | [d1, d2] => { results := [.lit (.bool false)], args := [d1, d2] }
  | _ => none }
def FnPointsCentroidFlatWrongFalsely : Prop := fnPointsCentroidFlatRow.holds Try.pinned (OpenSpec.ofChange fnPointsCentroidFlatWrong)

/-- 'laws.FnTriangleArea2': WHATEVER THE INPUT: true; the input reads as it did. -/
def fnTriangleArea2Spec : ChangeSpec := { name := "fnTriangleArea2", fn := fun _ => fun
  | [d1, d2, d3] => { results := [.lit (.bool true)], args := [d1, d2, d3] }
  | _ => none }
def fnTriangleArea2Row : OpenClaim := { program := "ytnemkhcjmenfnaa", sum := "31cfb6c050305128f165ff6c37720b75677eb66e32e45d60c4933e1542f28191", func := "pub-orthodrome/laws.FnTriangleArea2", spec := "fnTriangleArea2", inPlace := ["math.archTrunc", "math.Float64bits", "math.Float64frombits"], apart := false }
def FnTriangleArea2Said : Prop := fnTriangleArea2Row.holds Try.pinned (OpenSpec.ofChange fnTriangleArea2Spec)

/-- ITS FALSE NEIGHBOUR: 'it returns false'. Refute it at one input. -/
def fnTriangleArea2Wrong : ChangeSpec := { name := "fnTriangleArea2", fn := fun _ => fun
  | [d1, d2, d3] => { results := [.lit (.bool false)], args := [d1, d2, d3] }
  | _ => none }
def FnTriangleArea2WrongFalsely : Prop := fnTriangleArea2Row.holds Try.pinned (OpenSpec.ofChange fnTriangleArea2Wrong)

/-- 'laws.FnOctRing': WHATEVER THE INPUT: true; the input reads as it did. -/
def fnOctRingSpec : ChangeSpec := { name := "fnOctRing", fn := fun _ => fun
  | [d1, d2] => { results := [.lit (.bool true)], args := [d1, d2] }
  | _ => none }
def fnOctRingRow : OpenClaim := { program := "ytnemkhcjmenfnaa", sum := "31cfb6c050305128f165ff6c37720b75677eb66e32e45d60c4933e1542f28191", func := "pub-orthodrome/laws.FnOctRing", spec := "fnOctRing", inPlace := ["math.archTrunc", "math.Float64bits", "math.Float64frombits"], unfollowed := true, recurses := true, apart := false }
def FnOctRingSaid : Prop := fnOctRingRow.holds Try.pinned (OpenSpec.ofChange fnOctRingSpec)

/-- ITS FALSE NEIGHBOUR: 'it returns false'. Refute it at one input. -/
def fnOctRingWrong : ChangeSpec := { name := "fnOctRing", fn := fun _ => fun
  | [d1, d2] => { results := [.lit (.bool false)], args := [d1, d2] }
  | _ => none }
def FnOctRingWrongFalsely : Prop := fnOctRingRow.holds Try.pinned (OpenSpec.ofChange fnOctRingWrong)

/-- 'laws.FnCentralEnd': WHATEVER THE INPUT: true; the input reads as it did. -/
def fnCentralEndSpec : ChangeSpec := { name := "fnCentralEnd", fn := fun _ => fun
  | [d1, d2, d3, d4] => { results := [.lit (.bool true)], args := [d1, d2, d3, d4] }
  | _ => none }
def fnCentralEndRow : OpenClaim := { program := "ytnemkhcjmenfnaa", sum := "31cfb6c050305128f165ff6c37720b75677eb66e32e45d60c4933e1542f28191", func := "pub-orthodrome/laws.FnCentralEnd", spec := "fnCentralEnd", inPlace := ["math.archTrunc", "math.Float64bits", "math.Float64frombits", "math.sqrt"], unfollowed := true, recurses := true, apart := false }
def FnCentralEndSaid : Prop := fnCentralEndRow.holds Try.pinned (OpenSpec.ofChange fnCentralEndSpec)

/-- ITS FALSE NEIGHBOUR: 'it returns false'. Refute it at one input. -/
def fnCentralEndWrong : ChangeSpec := { name := "fnCentralEnd", fn := fun _ => fun
  | [d1, d2, d3, d4] => { results := [.lit (.bool false)], args := [d1, d2, d3, d4] }
  | _ => none }
def FnCentralEndWrongFalsely : Prop := fnCentralEndRow.holds Try.pinned (OpenSpec.ofChange fnCentralEndWrong)

/-- 'laws.FnPlaceDistance': WHATEVER THE INPUT: true; the input reads as it did. -/
def fnPlaceDistanceSpec : ChangeSpec := { name := "fnPlaceDistance", fn := fun _ => fun
  | [d1, d2] => { results := [.lit (.bool true)], args := [d1, d2] }
  | _ => none }
def fnPlaceDistanceRow : OpenClaim := { program := "ytnemkhcjmenfnaa", sum := "31cfb6c050305128f165ff6c37720b75677eb66e32e45d60c4933e1542f28191", func := "pub-orthodrome/laws.FnPlaceDistance", spec := "fnPlaceDistance", inPlace := ["math.archTrunc", "math.Float64bits", "math.Float64frombits", "math.sqrt"], apart := false }
def FnPlaceDistanceSaid : Prop := fnPlaceDistanceRow.holds Try.pinned (OpenSpec.ofChange fnPlaceDistanceSpec)

/-- ITS FALSE NEIGHBOUR: 'it returns false'. Refute it at one input. -/
def fnPlaceDistanceWrong : ChangeSpec := { name := "fnPlaceDistance", fn := fun _ => fun
  | [d1, d2] => { results := [.lit (.bool false)], args := [d1, d2] }
  | _ => none }
def FnPlaceDistanceWrongFalsely : Prop := fnPlaceDistanceRow.holds Try.pinned (OpenSpec.ofChange fnPlaceDistanceWrong)

/-- 'laws.FnRayCount': WHATEVER THE INPUT: true; the input reads as it did. -/
def fnRayCountSpec : ChangeSpec := { name := "fnRayCount", fn := fun _ => fun
  | [d1, d2] => { results := [.lit (.bool true)], args := [d1, d2] }
  | _ => none }
def fnRayCountRow : OpenClaim := { program := "ytnemkhcjmenfnaa", sum := "31cfb6c050305128f165ff6c37720b75677eb66e32e45d60c4933e1542f28191", func := "pub-orthodrome/laws.FnRayCount", spec := "fnRayCount", inPlace := ["math.archTrunc", "math.Float64bits", "math.Float64frombits", "math.archFloor"], apart := false }
def FnRayCountSaid : Prop := fnRayCountRow.holds Try.pinned (OpenSpec.ofChange fnRayCountSpec)

/-- ITS FALSE NEIGHBOUR: 'it returns false'. Refute it at one input. -/
def fnRayCountWrong : ChangeSpec := { name := "fnRayCount", fn := fun _ => fun
  | [d1, d2] => { results := [.lit (.bool false)], args := [d1, d2] }
  | _ => none }
def FnRayCountWrongFalsely : Prop := fnRayCountRow.holds Try.pinned (OpenSpec.ofChange fnRayCountWrong)

/-- 'laws.FnDetSignTurned': WHATEVER THE INPUT: true; the input reads as it did. -/
def fnDetSignTurnedSpec : ChangeSpec := { name := "fnDetSignTurned", fn := fun _ => fun
  | [d1, d2, d3, d4, d5] => { results := [.lit (.bool true)], args := [d1, d2, d3, d4, d5] }
  | _ => none }
def fnDetSignTurnedRow : OpenClaim := { program := "ytnemkhcjmenfnaa", sum := "31cfb6c050305128f165ff6c37720b75677eb66e32e45d60c4933e1542f28191", func := "pub-orthodrome/laws.FnDetSignTurned", spec := "fnDetSignTurned", inPlace := ["math.archTrunc", "math.Float64bits", "math.Float64frombits", "math.archFloor"], apart := false }
def FnDetSignTurnedSaid : Prop := fnDetSignTurnedRow.holds Try.pinned (OpenSpec.ofChange fnDetSignTurnedSpec)

/-- ITS FALSE NEIGHBOUR: 'it returns false'. Refute it at one input. -/
def fnDetSignTurnedWrong : ChangeSpec := { name := "fnDetSignTurned", fn := fun _ => fun
  | [d1, d2, d3, d4, d5] => { results := [.lit (.bool false)], args := [d1, d2, d3, d4, d5] }
  | _ => none }
def FnDetSignTurnedWrongFalsely : Prop := fnDetSignTurnedRow.holds Try.pinned (OpenSpec.ofChange fnDetSignTurnedWrong)

/-- 'laws.FnSimplifyNear': WHATEVER THE INPUT: true; the input reads as it did. -/
def fnSimplifyNearSpec : ChangeSpec := { name := "fnSimplifyNear", fn := fun _ => fun
  | [d1, d2, d3] => { results := [.lit (.bool true)], args := [d1, d2, d3] }
  | _ => none }
def fnSimplifyNearRow : OpenClaim := { program := "ytnemkhcjmenfnaa", sum := "31cfb6c050305128f165ff6c37720b75677eb66e32e45d60c4933e1542f28191", func := "pub-orthodrome/laws.FnSimplifyNear", spec := "fnSimplifyNear", inPlace := ["math.archTrunc", "math.Float64bits", "math.Float64frombits", "math.sqrt"], unfollowed := true, recurses := true, apart := false }
def FnSimplifyNearSaid : Prop := fnSimplifyNearRow.holds Try.pinned (OpenSpec.ofChange fnSimplifyNearSpec)

/-- ITS FALSE NEIGHBOUR: 'it returns false'. Refute it at one input. -/
def fnSimplifyNearWrong : ChangeSpec := { name := "fnSimplifyNear", fn := fun _ => fun
  | [d1, d2, d3] => { results := [.lit (.bool false)], args := [d1, d2, d3] }
  | _ => none }
def FnSimplifyNearWrongFalsely : Prop := fnSimplifyNearRow.holds Try.pinned (OpenSpec.ofChange fnSimplifyNearWrong)

/-- 'laws.FnNormalizePositive': WHATEVER THE INPUT: true; the input reads as it did. -/
def fnNormalizePositiveSpec : ChangeSpec := { name := "fnNormalizePositive", fn := fun _ => fun
  | [d] => { results := [.lit (.bool true)], args := [d] }
  | _ => none }
def fnNormalizePositiveRow : OpenClaim := { program := "ytnemkhcjmenfnaa", sum := "31cfb6c050305128f165ff6c37720b75677eb66e32e45d60c4933e1542f28191", func := "pub-orthodrome/laws.FnNormalizePositive", spec := "fnNormalizePositive", inPlace := ["math.Float64bits", "math.Float64frombits"], apart := false }
def FnNormalizePositiveSaid : Prop := fnNormalizePositiveRow.holds Try.pinned (OpenSpec.ofChange fnNormalizePositiveSpec)

/-- ITS FALSE NEIGHBOUR: 'it returns false'. Refute it at one input. -/
def fnNormalizePositiveWrong : ChangeSpec := { name := "fnNormalizePositive", fn := fun _ => fun
  | [d] => { results := [.lit (.bool false)], args := [d] }
  | _ => none }
def FnNormalizePositiveWrongFalsely : Prop := fnNormalizePositiveRow.holds Try.pinned (OpenSpec.ofChange fnNormalizePositiveWrong)

/-- 'laws.FnAngleBetweenOriented': WHATEVER THE INPUT: true; the input reads as it did. -/
def fnAngleBetweenOrientedSpec : ChangeSpec := { name := "fnAngleBetweenOriented", fn := fun _ => fun
  | [d1, d2, d3] => { results := [.lit (.bool true)], args := [d1, d2, d3] }
  | _ => none }
def fnAngleBetweenOrientedRow : OpenClaim := { program := "ytnemkhcjmenfnaa", sum := "31cfb6c050305128f165ff6c37720b75677eb66e32e45d60c4933e1542f28191", func := "pub-orthodrome/laws.FnAngleBetweenOriented", spec := "fnAngleBetweenOriented", inPlace := ["math.archTrunc", "math.Float64bits", "math.Float64frombits"], apart := false }
def FnAngleBetweenOrientedSaid : Prop := fnAngleBetweenOrientedRow.holds Try.pinned (OpenSpec.ofChange fnAngleBetweenOrientedSpec)

/-- ITS FALSE NEIGHBOUR: 'it returns false'. Refute it at one input. -/
def fnAngleBetweenOrientedWrong : ChangeSpec := { name := "fnAngleBetweenOriented", fn := fun _ => fun
  | [d1, d2, d3] => { results := [.lit (.bool false)], args := [d1, d2, d3] }
  | _ => none }
def FnAngleBetweenOrientedWrongFalsely : Prop := fnAngleBetweenOrientedRow.holds Try.pinned (OpenSpec.ofChange fnAngleBetweenOrientedWrong)

/-- 'laws.FnSpaceParallel': WHATEVER THE INPUT: true; the input reads as it did. -/
def fnSpaceParallelSpec : ChangeSpec := { name := "fnSpaceParallel", fn := fun _ => fun
  | [d1, d2, d3, d4, d5] => { results := [.lit (.bool true)], args := [d1, d2, d3, d4, d5] }
  | _ => none }
def fnSpaceParallelRow : OpenClaim := { program := "ytnemkhcjmenfnaa", sum := "31cfb6c050305128f165ff6c37720b75677eb66e32e45d60c4933e1542f28191", func := "pub-orthodrome/laws.FnSpaceParallel", spec := "fnSpaceParallel", inPlace := ["math.archTrunc", "math.Float64bits", "math.Float64frombits", "math.sqrt"], unfollowed := true, recurses := true, apart := false }
def FnSpaceParallelSaid : Prop := fnSpaceParallelRow.holds Try.pinned (OpenSpec.ofChange fnSpaceParallelSpec)

/-- ITS FALSE NEIGHBOUR: 'it returns false'. Refute it at one input. -/
def fnSpaceParallelWrong : ChangeSpec := { name := "fnSpaceParallel", fn := fun _ => fun
  | [d1, d2, d3, d4, d5] => { results := [.lit (.bool false)], args := [d1, d2, d3, d4, d5] }
  | _ => none }
def FnSpaceParallelWrongFalsely : Prop := fnSpaceParallelRow.holds Try.pinned (OpenSpec.ofChange fnSpaceParallelWrong)

/- THE SECOND FORM. 'bulk': how many values and letters a reading holds, each counted each time it is reached (what is shared counts as often as it is met; a slice's spare places count too). A statement '..UptoSaid' is the law's where the arguments, and the package variables that the reading takes, are together of bulk at most 1048576: NARROWER than '..Said'. Prove '..Said' where nothing that the law and all that it calls make is longer than what came in: it says more and counts as full. Else prove '..UptoSaid'. A law counts once. -/
mutual
def uptoBulk {H : Type} : DataW H → Nat
  | .lit (.string bytes) => bytes.length + 1
  | .lit _ => 1
  | .nil => 1
  | .ptr d => uptoBulk d + 1
  | .slice elems spare => uptoBulkAll elems + uptoBulkAll spare + 1
  | .agg parts => uptoBulkAll parts + 1
  | .iface _ d => uptoBulk d + 1
  | .map entries => uptoBulkEntries entries + 1
  | .held _ => 1
def uptoBulkAll {H : Type} : List (DataW H) → Nat
  | [] => 0
  | d :: r => uptoBulk d + uptoBulkAll r
def uptoBulkEntries {H : Type} : List (Lit × DataW H) → Nat
  | [] => 0
  | x :: r => uptoBulkEntry x + uptoBulkEntries r
def uptoBulkEntry {H : Type} : Lit × DataW H → Nat
  | (.string bytes, d) => bytes.length + uptoBulk d + 1
  | (_, d) => uptoBulk d + 1
 end
def uptoSmall : (H : Type) → List (DataW H) → Bool := fun _ ds => decide (uptoBulkAll ds ≤ 1048576)
def OpenSpec.upto (s : _root_.Go.ChangeSpec) : _root_.Go.OpenSpec := { _root_.Go.OpenSpec.ofChange s with cond := some uptoSmall }

/-- 'laws.FnSignedAreaSplit', WHERE WHAT IT READS IS OF BULK AT MOST 1048576: true; the input reads as it did. -/
def fnSignedAreaSplitUptoRow : OpenClaim := { program := "ytnemkhcjmenfnaa", sum := "31cfb6c050305128f165ff6c37720b75677eb66e32e45d60c4933e1542f28191", func := "pub-orthodrome/laws.FnSignedAreaSplit", spec := "fnSignedAreaSplit", inPlace := ["math.archTrunc", "math.Float64bits", "math.Float64frombits"], unfollowed := true, recurses := true, apart := false, narrowed := true }
def FnSignedAreaSplitUptoSaid : Prop := fnSignedAreaSplitUptoRow.holds Try.pinned (OpenSpec.upto fnSignedAreaSplitSpec)

/-- 'laws.FnPointsCentroidFlat', WHERE WHAT IT READS IS OF BULK AT MOST 1048576: true; the input reads as it did. -/
def fnPointsCentroidFlatUptoRow : OpenClaim := { program := "ytnemkhcjmenfnaa", sum := "31cfb6c050305128f165ff6c37720b75677eb66e32e45d60c4933e1542f28191", func := "pub-orthodrome/laws.FnPointsCentroidFlat", spec := "fnPointsCentroidFlat", inPlace := ["math.archTrunc", "math.Float64bits", "math.Float64frombits"], unfollowed := true, recurses := true, apart := false, narrowed := true }
def FnPointsCentroidFlatUptoSaid : Prop := fnPointsCentroidFlatUptoRow.holds Try.pinned (OpenSpec.upto fnPointsCentroidFlatSpec)

/-- 'laws.FnTriangleArea2', WHERE WHAT IT READS IS OF BULK AT MOST 1048576: true; the input reads as it did. -/
def fnTriangleArea2UptoRow : OpenClaim := { program := "ytnemkhcjmenfnaa", sum := "31cfb6c050305128f165ff6c37720b75677eb66e32e45d60c4933e1542f28191", func := "pub-orthodrome/laws.FnTriangleArea2", spec := "fnTriangleArea2", inPlace := ["math.archTrunc", "math.Float64bits", "math.Float64frombits"], apart := false, narrowed := true }
def FnTriangleArea2UptoSaid : Prop := fnTriangleArea2UptoRow.holds Try.pinned (OpenSpec.upto fnTriangleArea2Spec)

/-- 'laws.FnOctRing', WHERE WHAT IT READS IS OF BULK AT MOST 1048576: true; the input reads as it did. -/
def fnOctRingUptoRow : OpenClaim := { program := "ytnemkhcjmenfnaa", sum := "31cfb6c050305128f165ff6c37720b75677eb66e32e45d60c4933e1542f28191", func := "pub-orthodrome/laws.FnOctRing", spec := "fnOctRing", inPlace := ["math.archTrunc", "math.Float64bits", "math.Float64frombits"], unfollowed := true, recurses := true, apart := false, narrowed := true }
def FnOctRingUptoSaid : Prop := fnOctRingUptoRow.holds Try.pinned (OpenSpec.upto fnOctRingSpec)

/-- 'laws.FnCentralEnd', WHERE WHAT IT READS IS OF BULK AT MOST 1048576: true; the input reads as it did. -/
def fnCentralEndUptoRow : OpenClaim := { program := "ytnemkhcjmenfnaa", sum := "31cfb6c050305128f165ff6c37720b75677eb66e32e45d60c4933e1542f28191", func := "pub-orthodrome/laws.FnCentralEnd", spec := "fnCentralEnd", inPlace := ["math.archTrunc", "math.Float64bits", "math.Float64frombits", "math.sqrt"], unfollowed := true, recurses := true, apart := false, narrowed := true }
def FnCentralEndUptoSaid : Prop := fnCentralEndUptoRow.holds Try.pinned (OpenSpec.upto fnCentralEndSpec)

/-- 'laws.FnPlaceDistance', WHERE WHAT IT READS IS OF BULK AT MOST 1048576: true; the input reads as it did. -/
def fnPlaceDistanceUptoRow : OpenClaim := { program := "ytnemkhcjmenfnaa", sum := "31cfb6c050305128f165ff6c37720b75677eb66e32e45d60c4933e1542f28191", func := "pub-orthodrome/laws.FnPlaceDistance", spec := "fnPlaceDistance", inPlace := ["math.archTrunc", "math.Float64bits", "math.Float64frombits", "math.sqrt"], apart := false, narrowed := true }
def FnPlaceDistanceUptoSaid : Prop := fnPlaceDistanceUptoRow.holds Try.pinned (OpenSpec.upto fnPlaceDistanceSpec)

/-- 'laws.FnRayCount', WHERE WHAT IT READS IS OF BULK AT MOST 1048576: true; the input reads as it did. -/
def fnRayCountUptoRow : OpenClaim := { program := "ytnemkhcjmenfnaa", sum := "31cfb6c050305128f165ff6c37720b75677eb66e32e45d60c4933e1542f28191", func := "pub-orthodrome/laws.FnRayCount", spec := "fnRayCount", inPlace := ["math.archTrunc", "math.Float64bits", "math.Float64frombits", "math.archFloor"], apart := false, narrowed := true }
def FnRayCountUptoSaid : Prop := fnRayCountUptoRow.holds Try.pinned (OpenSpec.upto fnRayCountSpec)

/-- 'laws.FnDetSignTurned', WHERE WHAT IT READS IS OF BULK AT MOST 1048576: true; the input reads as it did. -/
def fnDetSignTurnedUptoRow : OpenClaim := { program := "ytnemkhcjmenfnaa", sum := "31cfb6c050305128f165ff6c37720b75677eb66e32e45d60c4933e1542f28191", func := "pub-orthodrome/laws.FnDetSignTurned", spec := "fnDetSignTurned", inPlace := ["math.archTrunc", "math.Float64bits", "math.Float64frombits", "math.archFloor"], apart := false, narrowed := true }
def FnDetSignTurnedUptoSaid : Prop := fnDetSignTurnedUptoRow.holds Try.pinned (OpenSpec.upto fnDetSignTurnedSpec)

/-- 'laws.FnSimplifyNear', WHERE WHAT IT READS IS OF BULK AT MOST 1048576: true; the input reads as it did. -/
def fnSimplifyNearUptoRow : OpenClaim := { program := "ytnemkhcjmenfnaa", sum := "31cfb6c050305128f165ff6c37720b75677eb66e32e45d60c4933e1542f28191", func := "pub-orthodrome/laws.FnSimplifyNear", spec := "fnSimplifyNear", inPlace := ["math.archTrunc", "math.Float64bits", "math.Float64frombits", "math.sqrt"], unfollowed := true, recurses := true, apart := false, narrowed := true }
def FnSimplifyNearUptoSaid : Prop := fnSimplifyNearUptoRow.holds Try.pinned (OpenSpec.upto fnSimplifyNearSpec)

/-- 'laws.FnNormalizePositive', WHERE WHAT IT READS IS OF BULK AT MOST 1048576: true; the input reads as it did. -/
def fnNormalizePositiveUptoRow : OpenClaim := { program := "ytnemkhcjmenfnaa", sum := "31cfb6c050305128f165ff6c37720b75677eb66e32e45d60c4933e1542f28191", func := "pub-orthodrome/laws.FnNormalizePositive", spec := "fnNormalizePositive", inPlace := ["math.Float64bits", "math.Float64frombits"], apart := false, narrowed := true }
def FnNormalizePositiveUptoSaid : Prop := fnNormalizePositiveUptoRow.holds Try.pinned (OpenSpec.upto fnNormalizePositiveSpec)

/-- 'laws.FnAngleBetweenOriented', WHERE WHAT IT READS IS OF BULK AT MOST 1048576: true; the input reads as it did. -/
def fnAngleBetweenOrientedUptoRow : OpenClaim := { program := "ytnemkhcjmenfnaa", sum := "31cfb6c050305128f165ff6c37720b75677eb66e32e45d60c4933e1542f28191", func := "pub-orthodrome/laws.FnAngleBetweenOriented", spec := "fnAngleBetweenOriented", inPlace := ["math.archTrunc", "math.Float64bits", "math.Float64frombits"], apart := false, narrowed := true }
def FnAngleBetweenOrientedUptoSaid : Prop := fnAngleBetweenOrientedUptoRow.holds Try.pinned (OpenSpec.upto fnAngleBetweenOrientedSpec)

/-- 'laws.FnSpaceParallel', WHERE WHAT IT READS IS OF BULK AT MOST 1048576: true; the input reads as it did. -/
def fnSpaceParallelUptoRow : OpenClaim := { program := "ytnemkhcjmenfnaa", sum := "31cfb6c050305128f165ff6c37720b75677eb66e32e45d60c4933e1542f28191", func := "pub-orthodrome/laws.FnSpaceParallel", spec := "fnSpaceParallel", inPlace := ["math.archTrunc", "math.Float64bits", "math.Float64frombits", "math.sqrt"], unfollowed := true, recurses := true, apart := false, narrowed := true }
def FnSpaceParallelUptoSaid : Prop := fnSpaceParallelUptoRow.holds Try.pinned (OpenSpec.upto fnSpaceParallelSpec)

end Rows
end Go.Proofs.Ytnemkhcjmenfnaa
