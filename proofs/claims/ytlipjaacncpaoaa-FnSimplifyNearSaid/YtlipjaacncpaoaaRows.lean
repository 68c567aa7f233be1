/-
  No cell of these rows narrows 'for every input' (looked for: loops, veiled, ifaces, maps, wideKeys, modest, calm, conditions, laid).
  DERIVED. THE GIVEN ROWS OF THIS SEAT. 7 by the template 'for every input the law returns true; each argument reads behind the call as it read before'; 0 by the template 'total and deterministic' (their statements: YtlipjaacncpaoaaTotals.lean).
  GIVEN WITH THE SEED: the statements are not yours to turn. If you find one false, say at which input.
  Laid BY PROGRAM, IN A SANDBOX (cutbox-rows.mjs): the forced cells as the released guide's own fill.sh prints them over the translation a0cbfc6d829e91cf… (all of the seat's roots in one cut). By AI agents, Wed Nov 11 2026. No macro, syntax, notation, axiom, sorry.
-/
import Derived.Test.YtlipjaacncpaoaaChecked
import GoSem.Claim
import GoSem.ClaimJoined
import GoSem.ClaimMapViews
import Derived.JoinedTies
import Derived.KernelRfl
namespace Go.Proofs.Ytlipjaacncpaoaa
/- THE CELL 'sum', in the pinned program and in every row, IS THE sha256 OF THE DUMP (.gsa) THAT YtlipjaacncpaoaaProg.lean LOADS. Nothing in Lean hashes anything: it is a label: what it is worth is what the hold of that sum in a sandbox is worth. -/
noncomputable def Try.pinned : Pinned := { name := "ytlipjaacncpaoaa", sum := "a0cbfc6d829e91cf8e1fe64b78515867ff55d7c87d27b0009a897ff21acb938f", checked := Try.checked }
namespace Rows
def none {H : Type} : Left H := { results := [], args := [] }

/-- 'laws.FnSortSwap': WHATEVER THE INPUT: true; the input reads as it did. -/
def fnSortSwapSpec : ChangeSpec := { name := "fnSortSwap", fn := fun _ => fun
  | [d1, d2, d3, d4] => { results := [.lit (.bool true)], args := [d1, d2, d3, d4] }
  | _ => none }
def fnSortSwapRow : OpenClaim := { program := "ytlipjaacncpaoaa", sum := "a0cbfc6d829e91cf8e1fe64b78515867ff55d7c87d27b0009a897ff21acb938f", func := "pub-orthodrome/laws.FnSortSwap", spec := "fnSortSwap", inPlace := ["math.Float64bits"], unfollowed := true, recurses := true, apart := false }
def FnSortSwapSaid : Prop := fnSortSwapRow.holds Try.pinned (OpenSpec.ofChange fnSortSwapSpec)

/-- ITS FALSE NEIGHBOUR: 'it returns false'. Refute it at one input. -/
def fnSortSwapWrong : ChangeSpec := { name := "fnSortSwap", fn := fun _ => fun
  | [d1, d2, d3, d4] => { results := [.lit (.bool false)], args := [d1, d2, d3, d4] }
  | _ => none }
def FnSortSwapWrongFalsely : Prop := fnSortSwapRow.holds Try.pinned (OpenSpec.ofChange fnSortSwapWrong)

/-- 'laws.FnDeflate2': WHATEVER THE INPUT: true; the input reads as it did. -/
def fnDeflate2Spec : ChangeSpec := { name := "fnDeflate2", fn := fun _ => fun
  | [d1, d2] => { results := [.lit (.bool true)], args := [d1, d2] }
  | _ => none }
def fnDeflate2Row : OpenClaim := { program := "ytlipjaacncpaoaa", sum := "a0cbfc6d829e91cf8e1fe64b78515867ff55d7c87d27b0009a897ff21acb938f", func := "pub-orthodrome/laws.FnDeflate2", spec := "fnDeflate2", inPlace := ["math.Float64bits"], unfollowed := true, recurses := true, apart := false }
def FnDeflate2Said : Prop := fnDeflate2Row.holds Try.pinned (OpenSpec.ofChange fnDeflate2Spec)

/-- ITS FALSE NEIGHBOUR: 'it returns false'. Refute it at one input. -/
def fnDeflate2Wrong : ChangeSpec := { name := "fnDeflate2", fn := fun _ => fun
  | [d1, d2] => { results := [.lit (.bool false)], args := [d1, d2] }
  | _ => none }
def FnDeflate2WrongFalsely : Prop := fnDeflate2Row.holds Try.pinned (OpenSpec.ofChange fnDeflate2Wrong)

/-- 'laws.FnBoxSet': WHATEVER THE INPUT: true; the input reads as it did. -/
def fnBoxSetSpec : ChangeSpec := { name := "fnBoxSet", fn := fun _ => fun
  | [d1, d2] => { results := [.lit (.bool true)], args := [d1, d2] }
  | _ => none }
def fnBoxSetRow : OpenClaim := { program := "ytlipjaacncpaoaa", sum := "a0cbfc6d829e91cf8e1fe64b78515867ff55d7c87d27b0009a897ff21acb938f", func := "pub-orthodrome/laws.FnBoxSet", spec := "fnBoxSet", inPlace := ["math.Float64frombits"], unfollowed := true, recurses := true, apart := false }
def FnBoxSetSaid : Prop := fnBoxSetRow.holds Try.pinned (OpenSpec.ofChange fnBoxSetSpec)

/-- ITS FALSE NEIGHBOUR: 'it returns false'. Refute it at one input. -/
def fnBoxSetWrong : ChangeSpec := { name := "fnBoxSet", fn := fun _ => fun
  | [d1, d2] => { results := [.lit (.bool false)], args := [d1, d2] }
  | _ => none }
def FnBoxSetWrongFalsely : Prop := fnBoxSetRow.holds Try.pinned (OpenSpec.ofChange fnBoxSetWrong)

/-- 'laws.FnOctRing': WHATEVER THE INPUT: true; the input reads as it did. -/
def fnOctRingSpec : ChangeSpec := { name := "fnOctRing", fn := fun _ => fun
  | [d1, d2] => { results := [.lit (.bool true)], args := [d1, d2] }
  | _ => none }
def fnOctRingRow : OpenClaim := { program := "ytlipjaacncpaoaa", sum := "a0cbfc6d829e91cf8e1fe64b78515867ff55d7c87d27b0009a897ff21acb938f", func := "pub-orthodrome/laws.FnOctRing", spec := "fnOctRing", inPlace := ["math.archTrunc", "math.Float64bits", "math.Float64frombits"], unfollowed := true, recurses := true, apart := false }
def FnOctRingSaid : Prop := fnOctRingRow.holds Try.pinned (OpenSpec.ofChange fnOctRingSpec)

/-- ITS FALSE NEIGHBOUR: 'it returns false'. Refute it at one input. -/
def fnOctRingWrong : ChangeSpec := { name := "fnOctRing", fn := fun _ => fun
  | [d1, d2] => { results := [.lit (.bool false)], args := [d1, d2] }
  | _ => none }
def FnOctRingWrongFalsely : Prop := fnOctRingRow.holds Try.pinned (OpenSpec.ofChange fnOctRingWrong)

/-- 'laws.FnSimplifyNear': WHATEVER THE INPUT: true; the input reads as it did. -/
def fnSimplifyNearSpec : ChangeSpec := { name := "fnSimplifyNear", fn := fun _ => fun
  | [d1, d2, d3] => { results := [.lit (.bool true)], args := [d1, d2, d3] }
  | _ => none }
def fnSimplifyNearRow : OpenClaim := { program := "ytlipjaacncpaoaa", sum := "a0cbfc6d829e91cf8e1fe64b78515867ff55d7c87d27b0009a897ff21acb938f", func := "pub-orthodrome/laws.FnSimplifyNear", spec := "fnSimplifyNear", inPlace := ["math.archTrunc", "math.Float64bits", "math.Float64frombits", "math.sqrt"], unfollowed := true, recurses := true, apart := false }
def FnSimplifyNearSaid : Prop := fnSimplifyNearRow.holds Try.pinned (OpenSpec.ofChange fnSimplifyNearSpec)

/-- ITS FALSE NEIGHBOUR: 'it returns false'. Refute it at one input. -/
def fnSimplifyNearWrong : ChangeSpec := { name := "fnSimplifyNear", fn := fun _ => fun
  | [d1, d2, d3] => { results := [.lit (.bool false)], args := [d1, d2, d3] }
  | _ => none }
def FnSimplifyNearWrongFalsely : Prop := fnSimplifyNearRow.holds Try.pinned (OpenSpec.ofChange fnSimplifyNearWrong)

/-- 'laws.FnSpaceParallel': WHATEVER THE INPUT: true; the input reads as it did. -/
def fnSpaceParallelSpec : ChangeSpec := { name := "fnSpaceParallel", fn := fun _ => fun
  | [d1, d2, d3, d4, d5] => { results := [.lit (.bool true)], args := [d1, d2, d3, d4, d5] }
  | _ => none }
def fnSpaceParallelRow : OpenClaim := { program := "ytlipjaacncpaoaa", sum := "a0cbfc6d829e91cf8e1fe64b78515867ff55d7c87d27b0009a897ff21acb938f", func := "pub-orthodrome/laws.FnSpaceParallel", spec := "fnSpaceParallel", inPlace := ["math.archTrunc", "math.Float64bits", "math.Float64frombits", "math.sqrt"], unfollowed := true, recurses := true, apart := false }
def FnSpaceParallelSaid : Prop := fnSpaceParallelRow.holds Try.pinned (OpenSpec.ofChange fnSpaceParallelSpec)

/-- ITS FALSE NEIGHBOUR: 'it returns false'. Refute it at one input. -/
def fnSpaceParallelWrong : ChangeSpec := { name := "fnSpaceParallel", fn := fun _ => fun
  | [d1, d2, d3, d4, d5] => { results := [.lit (.bool false)], args := [d1, d2, d3, d4, d5] }
  | _ => none }
def FnSpaceParallelWrongFalsely : Prop := fnSpaceParallelRow.holds Try.pinned (OpenSpec.ofChange fnSpaceParallelWrong)

/-- 'laws.FnAngleBetweenOriented': WHATEVER THE INPUT: true; the input reads as it did. -/
def fnAngleBetweenOrientedSpec : ChangeSpec := { name := "fnAngleBetweenOriented", fn := fun _ => fun
  | [d1, d2, d3] => { results := [.lit (.bool true)], args := [d1, d2, d3] }
  | _ => none }
def fnAngleBetweenOrientedRow : OpenClaim := { program := "ytlipjaacncpaoaa", sum := "a0cbfc6d829e91cf8e1fe64b78515867ff55d7c87d27b0009a897ff21acb938f", func := "pub-orthodrome/laws.FnAngleBetweenOriented", spec := "fnAngleBetweenOriented", inPlace := ["math.archTrunc", "math.Float64bits", "math.Float64frombits"], apart := false }
def FnAngleBetweenOrientedSaid : Prop := fnAngleBetweenOrientedRow.holds Try.pinned (OpenSpec.ofChange fnAngleBetweenOrientedSpec)

/-- ITS FALSE NEIGHBOUR: 'it returns false'. Refute it at one input. -/
def fnAngleBetweenOrientedWrong : ChangeSpec := { name := "fnAngleBetweenOriented", fn := fun _ => fun
  | [d1, d2, d3] => { results := [.lit (.bool false)], args := [d1, d2, d3] }
  | _ => none }
def FnAngleBetweenOrientedWrongFalsely : Prop := fnAngleBetweenOrientedRow.holds Try.pinned (OpenSpec.ofChange fnAngleBetweenOrientedWrong)

/- THE SECOND FORM. 'bulk': how many values and letters a reading holds, each counted each time it is reached (what is shared counts as often as it is met; a slice's spare places count too). A statement '..UptoSaid' is the law's where the arguments, and the package variables that the reading takes, are together of bulk at most 1048576: NARROWER than '..Said'. Prove '..Said' where nothing that the law and all that it calls make is longer than what came in: it says more and counts as full. Else prove '..UptoSaid'. A law counts once. -/
mutual
def uptoBulk {H : Type} : DataW H → Nat
  | .lit (.string bytes) => bytes.length + 1
  | .lit _ => 1
  | .nil => 1
  | .ptr d => uptoBulk d + 1
  | .slice elems spare => uptoBulkAll elems + uptoBulkAll spare + 1
  | .agg parts => uptoBulkAll parts + 1
  | .iface _ d => uptoBulk d + 1
  | .map entries => uptoBulkEntries entries + 1
  | .held _ => 1
def uptoBulkAll {H : Type} : List (DataW H) → Nat
  | [] => 0
  | d :: r => uptoBulk d + uptoBulkAll r
def uptoBulkEntries {H : Type} : List (Lit × DataW H) → Nat
  | [] => 0
  | x :: r => uptoBulkEntry x + uptoBulkEntries r
def uptoBulkEntry {H : Type} : Lit × DataW H → Nat
  | (.string bytes, d) => bytes.length + uptoBulk d + 1
  | (_, d) => uptoBulk d + 1
 end
def uptoSmall : (H : Type) → List (DataW H) → Bool := fun _ ds => decide (uptoBulkAll ds ≤ 1048576)
def OpenSpec.upto (s : _root_.Go.ChangeSpec) : _root_.Go.OpenSpec := { _root_.Go.OpenSpec.ofChange s with cond := some uptoSmall }

/-- 'laws.FnSortSwap', WHERE WHAT IT READS IS OF BULK AT MOST 1048576: true; the input reads as it did. -/
def fnSortSwapUptoRow : OpenClaim := { program := "ytlipjaacncpaoaa", sum := "a0cbfc6d829e91cf8e1fe64b78515867ff55d7c87d27b0009a897ff21acb938f", func := "pub-orthodrome/laws.FnSortSwap", spec := "fnSortSwap", inPlace := ["math.Float64bits"], unfollowed := true, recurses := true, apart := false, narrowed := true }
def FnSortSwapUptoSaid : Prop := fnSortSwapUptoRow.holds Try.pinned (OpenSpec.upto fnSortSwapSpec)

/-- 'laws.FnDeflate2', WHERE WHAT IT READS IS OF BULK AT MOST 1048576: true; the input reads as it did. -/
def fnDeflate2UptoRow : OpenClaim := { program := "ytlipjaacncpaoaa", sum := "a0cbfc6d829e91cf8e1fe64b78515867ff55d7c87d27b0009a897ff21acb938f", func := "pub-orthodrome/laws.FnDeflate2", spec := "fnDeflate2", inPlace := ["math.Float64bits"], unfollowed := true, recurses := true, apart := false, narrowed := true }
def FnDeflate2UptoSaid : Prop := fnDeflate2UptoRow.holds Try.pinned (OpenSpec.upto fnDeflate2Spec)

/-- 'laws.FnBoxSet', WHERE WHAT IT READS IS OF BULK AT MOST 1048576: true; the input reads as it did. -/
def fnBoxSetUptoRow : OpenClaim := { program := "ytlipjaacncpaoaa", sum := "a0cbfc6d829e91cf8e1fe64b78515867ff55d7c87d27b0009a897ff21acb938f", func := "pub-orthodrome/laws.FnBoxSet", spec := "fnBoxSet", inPlace := ["math.Float64frombits"], unfollowed := true, recurses := true, apart := false, narrowed := true }
def FnBoxSetUptoSaid : Prop := fnBoxSetUptoRow.holds Try.pinned (OpenSpec.upto fnBoxSetSpec)

/-- 'laws.FnOctRing', WHERE WHAT IT READS IS OF BULK AT MOST 1048576: true; the input reads as it did. -/
def fnOctRingUptoRow : OpenClaim := { program := "ytlipjaacncpaoaa", sum := "a0cbfc6d829e91cf8e1fe64b78515867ff55d7c87d27b0009a897ff21acb938f", func := "pub-orthodrome/laws.FnOctRing", spec := "fnOctRing", inPlace := ["math.archTrunc", "math.Float64bits", "math.Float64frombits"], unfollowed := true, recurses := true, apart := false, narrowed := true }
def FnOctRingUptoSaid : Prop := fnOctRingUptoRow.holds Try.pinned (OpenSpec.upto fnOctRingSpec)

/-- 'laws.FnSimplifyNear', WHERE WHAT IT READS IS OF BULK AT MOST 1048576: true; the input reads as it did. -/
def fnSimplifyNearUptoRow : OpenClaim := { program := "ytlipjaacncpaoaa", sum := "a0cbfc6d829e91cf8e1fe64b78515867ff55d7c87d27b0009a897ff21acb938f", func := "pub-orthodrome/laws.FnSimplifyNear", spec := "fnSimplifyNear", inPlace := ["math.archTrunc", "math.Float64bits", "math.Float64frombits", "math.sqrt"], unfollowed := true, recurses := true, apart := false, narrowed := true }
def FnSimplifyNearUptoSaid : Prop := fnSimplifyNearUptoRow.holds Try.pinned (OpenSpec.upto fnSimplifyNearSpec)

/-- 'laws.FnSpaceParallel', WHERE WHAT IT READS IS OF BULK AT MOST 1048576: true; the input reads as it did. -/
def fnSpaceParallelUptoRow : OpenClaim := { program := "ytlipjaacncpaoaa", sum := "a0cbfc6d829e91cf8e1fe64b78515867ff55d7c87d27b0009a897ff21acb938f", func := "pub-orthodrome/laws.FnSpaceParallel", spec := "fnSpaceParallel", inPlace := ["math.archTrunc", "math.Float64bits", "math.Float64frombits", "math.sqrt"], unfollowed := true, recurses := true, apart := false, narrowed := true }
def FnSpaceParallelUptoSaid : Prop := fnSpaceParallelUptoRow.holds Try.pinned (OpenSpec.upto fnSpaceParallelSpec)

/-- 'laws.FnAngleBetweenOriented', WHERE WHAT IT READS IS OF BULK AT MOST 1048576: true; the input reads as it did. -/
def fnAngleBetweenOrientedUptoRow : OpenClaim := { program := "ytlipjaacncpaoaa", sum := "a0cbfc6d829e91cf8e1fe64b78515867ff55d7c87d27b0009a897ff21acb938f", func := "pub-orthodrome/laws.FnAngleBetweenOriented", spec := "fnAngleBetweenOriented", inPlace := ["math.archTrunc", "math.Float64bits", "math.Float64frombits"], apart := false, narrowed := true }
def FnAngleBetweenOrientedUptoSaid : Prop := fnAngleBetweenOrientedUptoRow.holds Try.pinned (OpenSpec.upto fnAngleBetweenOrientedSpec)

end Rows
end Go.Proofs.Ytlipjaacncpaoaa
