/-
  No cell of these rows narrows 'for every input' (looked for: loops, veiled, ifaces, maps, wideKeys, modest, calm, conditions, laid).
  DERIVED. THE GIVEN ROWS OF THIS SEAT. 8 by the template 'for every input the law returns true; each argument reads behind the call as it read before'; 0 by the template 'total and deterministic' (their statements: YtkeaodoibflhnaaTotals.lean).
  GIVEN WITH THE SEED: the statements are not yours to turn. If you find one false, say at which input.
  Laid BY PROGRAM, IN A SANDBOX (cutbox-rows.mjs): the forced cells as the released guide's own fill.sh prints them over the translation 5b6ef954e3fb827e… (all of the seat's roots in one cut). By AI agents, Wed Nov 11 2026. No macro, syntax, notation, axiom, sorry.
-/
import Derived.Test.YtkeaodoibflhnaaChecked
import GoSem.Claim
import GoSem.ClaimJoined
import GoSem.ClaimMapViews
import Derived.JoinedTies
import Derived.KernelRfl
namespace Go.Proofs.Ytkeaodoibflhnaa
/- THE CELL 'sum', in the pinned program and in every row, IS THE sha256 OF THE DUMP (.gsa) THAT YtkeaodoibflhnaaProg.lean LOADS. Nothing in Lean hashes anything: it is a label: what it is worth is what the hold of that sum in a sandbox is worth. -/
noncomputable def Try.pinned : Pinned := { name := "ytkeaodoibflhnaa", sum := "5b6ef954e3fb827ec9a86e6f52b21ca1becca94bccedf6aed3c6ab05316e0a6f", checked := Try.checked }
namespace Rows
def none {H : Type} : Left H := { results := [], args := [] }

/-- 'laws.FnDoubleArea2': WHATEVER THE INPUT: true; the input reads as it did. -/
def fnDoubleArea2Spec : ChangeSpec := { name := "fnDoubleArea2", fn := fun _ => fun
  | [d1, d2, d3] => { results := [.lit (.bool true)], args := [d1, d2, d3] }
  | _ => none }
def fnDoubleArea2Row : OpenClaim := { program := "ytkeaodoibflhnaa", sum := "5b6ef954e3fb827ec9a86e6f52b21ca1becca94bccedf6aed3c6ab05316e0a6f", func := "pub-orthodrome/laws.FnDoubleArea2", spec := "fnDoubleArea2", inPlace := ["math.archTrunc", "math.Float64bits", "math.Float64frombits"], unfollowed := true, recurses := true, apart := false }
def FnDoubleArea2Said : Prop := fnDoubleArea2Row.holds Try.pinned (OpenSpec.ofChange fnDoubleArea2Spec)

/-- ITS FALSE NEIGHBOUR: 'it returns false'. Refute it at one input. -/
def fnDoubleArea2Wrong : ChangeSpec := { name := "fnDoubleArea2", fn := fun _ => fun
  | [d1, d2, d3] => { results := [.lit (.bool false)], args := [d1, d2, d3] }
  | _ => none }
def FnDoubleArea2WrongFalsely : Prop := fnDoubleArea2Row.holds Try.pinned (OpenSpec.ofChange fnDoubleArea2Wrong)

/-- 'laws.FnSortSwap': WHATEVER THE INPUT: true; the input reads as it did. -/
def fnSortSwapSpec : ChangeSpec := { name := "fnSortSwap", fn := fun _ => fun
  | [d1, d2, d3, d4] => { results := [.lit (.bool true)], args := [d1, d2, d3, d4] }
  | _ => none }
def fnSortSwapRow : OpenClaim := { program := "ytkeaodoibflhnaa", sum := "5b6ef954e3fb827ec9a86e6f52b21ca1becca94bccedf6aed3c6ab05316e0a6f", func := "pub-orthodrome/laws.FnSortSwap", spec := "fnSortSwap", inPlace := ["math.Float64bits"], unfollowed := true, recurses := true, apart := false }
def FnSortSwapSaid : Prop := fnSortSwapRow.holds Try.pinned (OpenSpec.ofChange fnSortSwapSpec)

/-- ITS FALSE NEIGHBOUR: 'it returns false'. Refute it at one input. -/
def fnSortSwapWrong : ChangeSpec := { name := "fnSortSwap", fn := fun _ => fun
  | [d1, d2, d3, d4] => { results := [.lit (.bool false)], args := [d1, d2, d3, d4] }
  | _ => none }
def FnSortSwapWrongFalsely : Prop := fnSortSwapRow.holds Try.pinned (OpenSpec.ofChange fnSortSwapWrong)

/-- 'laws.FnDeflate2': WHATEVER THE INPUT: true; the input reads as it did. -/
def fnDeflate2Spec : ChangeSpec := { name := "fnDeflate2", fn := fun _ => fun
  | [d1, d2] => { results := [.lit (.bool true)], args := [d1, d2] }
  | _ => none }
def fnDeflate2Row : OpenClaim := { program := "ytkeaodoibflhnaa", sum := "5b6ef954e3fb827ec9a86e6f52b21ca1becca94bccedf6aed3c6ab05316e0a6f", func := "pub-orthodrome/laws.FnDeflate2", spec := "fnDeflate2", inPlace := ["math.Float64bits"], unfollowed := true, recurses := true, apart := false }
def FnDeflate2Said : Prop := fnDeflate2Row.holds Try.pinned (OpenSpec.ofChange fnDeflate2Spec)

/-- ITS FALSE NEIGHBOUR: 'it returns false'. Refute it at one input. -/
def fnDeflate2Wrong : ChangeSpec := { name := "fnDeflate2", fn := fun _ => fun
  | [d1, d2] => { results := [.lit (.bool false)], args := [d1, d2] }
  | _ => none }
def FnDeflate2WrongFalsely : Prop := fnDeflate2Row.holds Try.pinned (OpenSpec.ofChange fnDeflate2Wrong)

/-- 'laws.FnBoxSet': WHATEVER THE INPUT: true; the input reads as it did. -/
def fnBoxSetSpec : ChangeSpec := { name := "fnBoxSet", fn := fun _ => fun
  | [d1, d2] => { results := [.lit (.bool true)], args := [d1, d2] }
  | _ => none }
def fnBoxSetRow : OpenClaim := { program := "ytkeaodoibflhnaa", sum := "5b6ef954e3fb827ec9a86e6f52b21ca1becca94bccedf6aed3c6ab05316e0a6f", func := "pub-orthodrome/laws.FnBoxSet", spec := "fnBoxSet", inPlace := ["math.Float64frombits"], unfollowed := true, recurses := true, apart := false }
def FnBoxSetSaid : Prop := fnBoxSetRow.holds Try.pinned (OpenSpec.ofChange fnBoxSetSpec)

/-- ITS FALSE NEIGHBOUR: 'it returns false'. Refute it at one input. -/
def fnBoxSetWrong : ChangeSpec := { name := "fnBoxSet", fn := fun _ => fun
  | [d1, d2] => { results := [.lit (.bool false)], args := [d1, d2] }
  | _ => none }
def FnBoxSetWrongFalsely : Prop := fnBoxSetRow.holds Try.pinned (OpenSpec.ofChange fnBoxSetWrong)

/-- 'laws.FnFlatLengthNear': WHATEVER THE INPUT: true; the input reads as it did. -/
def fnFlatLengthNearSpec : ChangeSpec := { name := "fnFlatLengthNear", fn := fun _ => fun
  | [d1, d2] => { results := [.lit (.bool true)], args := [d1, d2] }
  | _ => none }
def fnFlatLengthNearRow : OpenClaim := { program := "ytkeaodoibflhnaa", sum := "5b6ef954e3fb827ec9a86e6f52b21ca1becca94bccedf6aed3c6ab05316e0a6f", func := "pub-orthodrome/laws.FnFlatLengthNear", spec := "fnFlatLengthNear", inPlace := ["math.archTrunc", "math.Float64bits", "math.Float64frombits", "math.sqrt"], unfollowed := true, recurses := true, apart := false }
def FnFlatLengthNearSaid : Prop := fnFlatLengthNearRow.holds Try.pinned (OpenSpec.ofChange fnFlatLengthNearSpec)

/-- ITS FALSE NEIGHBOUR: 'it returns false'. Refute it at one input. -/
def fnFlatLengthNearWrong : ChangeSpec := { name := "fnFlatLengthNear", fn := fun _ => fun
  | [d1, d2] => { results := [.lit (.bool false)], args := [d1, d2] }
  | _ => none }
def FnFlatLengthNearWrongFalsely : Prop := fnFlatLengthNearRow.holds Try.pinned (OpenSpec.ofChange fnFlatLengthNearWrong)

/-- 'laws.FnFlatBack': WHATEVER THE INPUT: true; the input reads as it did. -/
def fnFlatBackSpec : ChangeSpec := { name := "fnFlatBack", fn := fun _ => fun
  | [d1, d2, d3, d4] => { results := [.lit (.bool true)], args := [d1, d2, d3, d4] }
  | _ => none }
def fnFlatBackRow : OpenClaim := { program := "ytkeaodoibflhnaa", sum := "5b6ef954e3fb827ec9a86e6f52b21ca1becca94bccedf6aed3c6ab05316e0a6f", func := "pub-orthodrome/laws.FnFlatBack", spec := "fnFlatBack", inPlace := ["math.Float64bits"], unfollowed := true, recurses := true, apart := false }
def FnFlatBackSaid : Prop := fnFlatBackRow.holds Try.pinned (OpenSpec.ofChange fnFlatBackSpec)

/-- ITS FALSE NEIGHBOUR: 'it returns false'. Refute it at one input. -/
def fnFlatBackWrong : ChangeSpec := { name := "fnFlatBack", fn := fun _ => fun
  | [d1, d2, d3, d4] => { results := [.lit (.bool false)], args := [d1, d2, d3, d4] }
  | _ => none }
def FnFlatBackWrongFalsely : Prop := fnFlatBackRow.holds Try.pinned (OpenSpec.ofChange fnFlatBackWrong)

/-- 'laws.FnBoxPolygon': WHATEVER THE INPUT: true; the input reads as it did. -/
def fnBoxPolygonSpec : ChangeSpec := { name := "fnBoxPolygon", fn := fun _ => fun
  | [d] => { results := [.lit (.bool true)], args := [d] }
  | _ => none }
def fnBoxPolygonRow : OpenClaim := { program := "ytkeaodoibflhnaa", sum := "5b6ef954e3fb827ec9a86e6f52b21ca1becca94bccedf6aed3c6ab05316e0a6f", func := "pub-orthodrome/laws.FnBoxPolygon", spec := "fnBoxPolygon", unfollowed := true, recurses := true, apart := false }
def FnBoxPolygonSaid : Prop := fnBoxPolygonRow.holds Try.pinned (OpenSpec.ofChange fnBoxPolygonSpec)

/-- ITS FALSE NEIGHBOUR: 'it returns false'. Refute it at one input. -/
def fnBoxPolygonWrong : ChangeSpec := { name := "fnBoxPolygon", fn := fun _ => fun
  | [d] => { results := [.lit (.bool false)], args := [d] }
  | _ => none }
def FnBoxPolygonWrongFalsely : Prop := fnBoxPolygonRow.holds Try.pinned (OpenSpec.ofChange fnBoxPolygonWrong)

/-- 'laws.FnTreeSetSorts': WHATEVER THE INPUT: true; the input reads as it did. -/
def fnTreeSetSortsSpec : ChangeSpec := { name := "fnTreeSetSorts", fn := fun _ => fun
  | [d] => { results := [.lit (.bool true)], args := [d] }
  | _ => none }
def fnTreeSetSortsRow : OpenClaim := { program := "ytkeaodoibflhnaa", sum := "5b6ef954e3fb827ec9a86e6f52b21ca1becca94bccedf6aed3c6ab05316e0a6f", func := "pub-orthodrome/laws.FnTreeSetSorts", spec := "fnTreeSetSorts", unfollowed := true, recurses := true, apart := false }
def FnTreeSetSortsSaid : Prop := fnTreeSetSortsRow.holds Try.pinned (OpenSpec.ofChange fnTreeSetSortsSpec)

/-- ITS FALSE NEIGHBOUR: 'it returns false'. Refute it at one input. -/
def fnTreeSetSortsWrong : ChangeSpec := { name := "fnTreeSetSorts", fn := fun _ => fun
  | [d] => { results := [.lit (.bool false)], args := [d] }
  | _ => none }
def FnTreeSetSortsWrongFalsely : Prop := fnTreeSetSortsRow.holds Try.pinned (OpenSpec.ofChange fnTreeSetSortsWrong)

/- THE SECOND FORM. 'bulk': how many values and letters a reading holds, each counted each time it is reached (what is shared counts as often as it is met; a slice's spare places count too). A statement '..UptoSaid' is the law's where the arguments, and the package variables that the reading takes, are together of bulk at most 1048576: NARROWER than '..Said'. Prove '..Said' where nothing that the law and all that it calls make is longer than what came in: it says more and counts as full. Else prove '..UptoSaid'. A law counts once. -/
mutual
def uptoBulk {H : Type} : DataW H → Nat
  | .lit (.string bytes) => bytes.length + 1
  | .lit _ => 1
  | .nil => 1
  | .ptr d => uptoBulk d + 1
  | .slice elems spare => uptoBulkAll elems + uptoBulkAll spare + 1
  | .agg parts => uptoBulkAll parts + 1
  | .iface _ d => uptoBulk d + 1
  | .map entries => uptoBulkEntries entries + 1
  | .held _ => 1
def uptoBulkAll {H : Type} : List (DataW H) → Nat
  | [] => 0
  | d :: r => uptoBulk d + uptoBulkAll r
def uptoBulkEntries {H : Type} : List (Lit × DataW H) → Nat
  | [] => 0
  | x :: r => uptoBulkEntry x + uptoBulkEntries r
def uptoBulkEntry {H : Type} : Lit × DataW H → Nat
  | (.string bytes, d) => bytes.length + uptoBulk d + 1
  | (_, d) => uptoBulk d + 1
 end
def uptoSmall : (H : Type) → List (DataW H) → Bool := fun _ ds => decide (uptoBulkAll ds ≤ 1048576)
def OpenSpec.upto (s : _root_.Go.ChangeSpec) : _root_.Go.OpenSpec := { _root_.Go.OpenSpec.ofChange s with cond := some uptoSmall }

/-- 'laws.FnDoubleArea2', WHERE WHAT IT READS IS OF BULK AT MOST 1048576: true; the input reads as it did. -/
def fnDoubleArea2UptoRow : OpenClaim := { program := "ytkeaodoibflhnaa", sum := "5b6ef954e3fb827ec9a86e6f52b21ca1becca94bccedf6aed3c6ab05316e0a6f", func := "pub-orthodrome/laws.FnDoubleArea2", spec := "fnDoubleArea2", inPlace := ["math.archTrunc", "math.Float64bits", "math.Float64frombits"], unfollowed := true, recurses := true, apart := false, narrowed := true }
def FnDoubleArea2UptoSaid : Prop := fnDoubleArea2UptoRow.holds Try.pinned (OpenSpec.upto fnDoubleArea2Spec)

/-- 'laws.FnSortSwap', WHERE WHAT IT READS IS OF BULK AT MOST 1048576: true; the input reads as it did. -/
def fnSortSwapUptoRow : OpenClaim := { program := "ytkeaodoibflhnaa", sum := "5b6ef954e3fb827ec9a86e6f52b21ca1becca94bccedf6aed3c6ab05316e0a6f", func := "pub-orthodrome/laws.FnSortSwap", spec := "fnSortSwap", inPlace := ["math.Float64bits"], unfollowed := true, recurses := true, apart := false, narrowed := true }
def FnSortSwapUptoSaid : Prop := fnSortSwapUptoRow.holds Try.pinned (OpenSpec.upto fnSortSwapSpec)

/-- 'laws.FnDeflate2', WHERE WHAT IT READS IS OF BULK AT MOST 1048576: true; the input reads as it did. -/
def fnDeflate2UptoRow : OpenClaim := { program := "ytkeaodoibflhnaa", sum := "5b6ef954e3fb827ec9a86e6f52b21ca1becca94bccedf6aed3c6ab05316e0a6f", func := "pub-orthodrome/laws.FnDeflate2", spec := "fnDeflate2", inPlace := ["math.Float64bits"], unfollowed := true, recurses := true, apart := false, narrowed := true }
def FnDeflate2UptoSaid : Prop := fnDeflate2UptoRow.holds Try.pinned (OpenSpec.upto fnDeflate2Spec)

/-- 'laws.FnBoxSet', WHERE WHAT IT READS IS OF BULK AT MOST 1048576: true; the input reads as it did. -/
def fnBoxSetUptoRow : OpenClaim := { program := "ytkeaodoibflhnaa", sum := "5b6ef954e3fb827ec9a86e6f52b21ca1becca94bccedf6aed3c6ab05316e0a6f", func := "pub-orthodrome/laws.FnBoxSet", spec := "fnBoxSet", inPlace := ["math.Float64frombits"], unfollowed := true, recurses := true, apart := false, narrowed := true }
def FnBoxSetUptoSaid : Prop := fnBoxSetUptoRow.holds Try.pinned (OpenSpec.upto fnBoxSetSpec)

/-- 'laws.FnFlatLengthNear', WHERE WHAT IT READS IS OF BULK AT MOST 1048576: true; the input reads as it did. -/
def fnFlatLengthNearUptoRow : OpenClaim := { program := "ytkeaodoibflhnaa", sum := "5b6ef954e3fb827ec9a86e6f52b21ca1becca94bccedf6aed3c6ab05316e0a6f", func := "pub-orthodrome/laws.FnFlatLengthNear", spec := "fnFlatLengthNear", inPlace := ["math.archTrunc", "math.Float64bits", "math.Float64frombits", "math.sqrt"], unfollowed := true, recurses := true, apart := false, narrowed := true }
def FnFlatLengthNearUptoSaid : Prop := fnFlatLengthNearUptoRow.holds Try.pinned (OpenSpec.upto fnFlatLengthNearSpec)

/-- 'laws.FnFlatBack', WHERE WHAT IT READS IS OF BULK AT MOST 1048576: true; the input reads as it did. -/
def fnFlatBackUptoRow : OpenClaim := { program := "ytkeaodoibflhnaa", sum := "5b6ef954e3fb827ec9a86e6f52b21ca1becca94bccedf6aed3c6ab05316e0a6f", func := "pub-orthodrome/laws.FnFlatBack", spec := "fnFlatBack", inPlace := ["math.Float64bits"], unfollowed := true, recurses := true, apart := false, narrowed := true }
def FnFlatBackUptoSaid : Prop := fnFlatBackUptoRow.holds Try.pinned (OpenSpec.upto fnFlatBackSpec)

/-- 'laws.FnBoxPolygon', WHERE WHAT IT READS IS OF BULK AT MOST 1048576: true; the input reads as it did. -/
def fnBoxPolygonUptoRow : OpenClaim := { program := "ytkeaodoibflhnaa", sum := "5b6ef954e3fb827ec9a86e6f52b21ca1becca94bccedf6aed3c6ab05316e0a6f", func := "pub-orthodrome/laws.FnBoxPolygon", spec := "fnBoxPolygon", unfollowed := true, recurses := true, apart := false, narrowed := true }
def FnBoxPolygonUptoSaid : Prop := fnBoxPolygonUptoRow.holds Try.pinned (OpenSpec.upto fnBoxPolygonSpec)

/-- 'laws.FnTreeSetSorts', WHERE WHAT IT READS IS OF BULK AT MOST 1048576: true; the input reads as it did. -/
def fnTreeSetSortsUptoRow : OpenClaim := { program := "ytkeaodoibflhnaa", sum := "5b6ef954e3fb827ec9a86e6f52b21ca1becca94bccedf6aed3c6ab05316e0a6f", func := "pub-orthodrome/laws.FnTreeSetSorts", spec := "fnTreeSetSorts", unfollowed := true, recurses := true, apart := false, narrowed := true }
def FnTreeSetSortsUptoSaid : Prop := fnTreeSetSortsUptoRow.holds Try.pinned (OpenSpec.upto fnTreeSetSortsSpec)

end Rows
end Go.Proofs.Ytkeaodoibflhnaa
