/-
  No cell of these rows narrows 'for every input' (looked for: loops, veiled, ifaces, maps, wideKeys, modest, calm, conditions, laid).
  DERIVED. THE GIVEN ROWS OF THIS SEAT. 4 by the template 'for every input the law returns true; each argument reads behind the call as it read before'; 0 by the template 'total and deterministic' (their statements: YtjgpiealnfbkcaaTotals.lean).
  GIVEN WITH THE SEED: the statements are not yours to turn. If you find one false, say at which input.
  Laid BY PROGRAM, IN A SANDBOX (cutbox-rows.mjs): the forced cells as the released guide's own fill.sh prints them over the translation 46fee417fac266a0… (all of the seat's roots in one cut). By AI agents, Wed Nov 11 2026. No macro, syntax, notation, axiom, sorry.
-/
import Derived.Test.YtjgpiealnfbkcaaChecked
import GoSem.Claim
import GoSem.ClaimJoined
import GoSem.ClaimMapViews
import Derived.JoinedTies
import Derived.KernelRfl
namespace Go.Proofs.Ytjgpiealnfbkcaa
/- THE CELL 'sum', in the pinned program and in every row, IS THE sha256 OF THE DUMP (.gsa) THAT YtjgpiealnfbkcaaProg.lean LOADS. Nothing in Lean hashes anything: it is a label: what it is worth is what the hold of that sum in a sandbox is worth. -/
noncomputable def Try.pinned : Pinned := { name := "ytjgpiealnfbkcaa", sum := "46fee417fac266a055368eec013ac36c8e2301b24fbee74a3a8457fb796ee2e1", checked := Try.checked }
namespace Rows
def none {H : Type} : Left H := { results := [], args := [] }

/-- 'laws.FnKGrown': WHATEVER THE INPUT: true; the input reads as it did. -/
def fnKGrownSpec : ChangeSpec := { name := "fnKGrown", fn := fun _ => fun
  | [d1, d2] => { results := [.lit (.bool true)], args := [d1, d2] }
  | _ => none }
def fnKGrownRow : OpenClaim := { program := "ytjgpiealnfbkcaa", sum := "46fee417fac266a055368eec013ac36c8e2301b24fbee74a3a8457fb796ee2e1", func := "pub-orthodrome/laws.FnKGrown", spec := "fnKGrown", inPlace := ["math.archTrunc", "math.Float64bits", "math.Float64frombits"], unfollowed := true, recurses := true, apart := false }
def FnKGrownSaid : Prop := fnKGrownRow.holds Try.pinned (OpenSpec.ofChange fnKGrownSpec)

/-- ITS FALSE NEIGHBOUR: 'it returns false'. Refute it at one input. -/
def fnKGrownWrong : ChangeSpec := { name := "fnKGrown", fn := fun _ => fun
  | [d1, d2] => { results := [.lit (.bool false)], args := [d1, d2] }
  | _ => none }
def FnKGrownWrongFalsely : Prop := fnKGrownRow.holds Try.pinned (OpenSpec.ofChange fnKGrownWrong)

/-- 'laws.FnKTree': WHATEVER THE INPUT: true; the input reads as it did. -/
def fnKTreeSpec : ChangeSpec := { name := "fnKTree", fn := fun _ => fun
  | [d1, d2] => { results := [.lit (.bool true)], args := [d1, d2] }
  | _ => none }
def fnKTreeRow : OpenClaim := { program := "ytjgpiealnfbkcaa", sum := "46fee417fac266a055368eec013ac36c8e2301b24fbee74a3a8457fb796ee2e1", func := "pub-orthodrome/laws.FnKTree", spec := "fnKTree", inPlace := ["math.archTrunc", "math.Float64bits", "math.Float64frombits"], unfollowed := true, recurses := true, apart := false }
def FnKTreeSaid : Prop := fnKTreeRow.holds Try.pinned (OpenSpec.ofChange fnKTreeSpec)

/-- ITS FALSE NEIGHBOUR: 'it returns false'. Refute it at one input. -/
def fnKTreeWrong : ChangeSpec := { name := "fnKTree", fn := fun _ => fun
  | [d1, d2] => { results := [.lit (.bool false)], args := [d1, d2] }
  | _ => none }
def FnKTreeWrongFalsely : Prop := fnKTreeRow.holds Try.pinned (OpenSpec.ofChange fnKTreeWrong)

/-- 'laws.FnKNearestSet': WHATEVER THE INPUT: true; the input reads as it did. -/
def fnKNearestSetSpec : ChangeSpec := { name := "fnKNearestSet", fn := fun _ => fun
  | [d1, d2, d3, d4] => { results := [.lit (.bool true)], args := [d1, d2, d3, d4] }
  | _ => none }
def fnKNearestSetRow : OpenClaim := { program := "ytjgpiealnfbkcaa", sum := "46fee417fac266a055368eec013ac36c8e2301b24fbee74a3a8457fb796ee2e1", func := "pub-orthodrome/laws.FnKNearestSet", spec := "fnKNearestSet", inPlace := ["math.archTrunc", "math.Float64bits", "math.Float64frombits"], unfollowed := true, recurses := true, apart := false }
def FnKNearestSetSaid : Prop := fnKNearestSetRow.holds Try.pinned (OpenSpec.ofChange fnKNearestSetSpec)

/-- ITS FALSE NEIGHBOUR: 'it returns false'. Refute it at one input. -/
def fnKNearestSetWrong : ChangeSpec := { name := "fnKNearestSet", fn := fun _ => fun
  | [d1, d2, d3, d4] => { results := [.lit (.bool false)], args := [d1, d2, d3, d4] }
  | _ => none }
def FnKNearestSetWrongFalsely : Prop := fnKNearestSetRow.holds Try.pinned (OpenSpec.ofChange fnKNearestSetWrong)

/-- 'laws.FnTreeSetSorts': WHATEVER THE INPUT: true; the input reads as it did. -/
def fnTreeSetSortsSpec : ChangeSpec := { name := "fnTreeSetSorts", fn := fun _ => fun
  | [d] => { results := [.lit (.bool true)], args := [d] }
  | _ => none }
def fnTreeSetSortsRow : OpenClaim := { program := "ytjgpiealnfbkcaa", sum := "46fee417fac266a055368eec013ac36c8e2301b24fbee74a3a8457fb796ee2e1", func := "pub-orthodrome/laws.FnTreeSetSorts", spec := "fnTreeSetSorts", unfollowed := true, recurses := true, apart := false }
def FnTreeSetSortsSaid : Prop := fnTreeSetSortsRow.holds Try.pinned (OpenSpec.ofChange fnTreeSetSortsSpec)

/-- ITS FALSE NEIGHBOUR: 'it returns false'. Refute it at one input. -/
def fnTreeSetSortsWrong : ChangeSpec := { name := "fnTreeSetSorts", fn := fun _ => fun
  | [d] => { results := [.lit (.bool false)], args := [d] }
  | _ => none }
def FnTreeSetSortsWrongFalsely : Prop := fnTreeSetSortsRow.holds Try.pinned (OpenSpec.ofChange fnTreeSetSortsWrong)

/- THE SECOND FORM. 'bulk': how many values and letters a reading holds, each counted each time it is reached (what is shared counts as often as it is met; a slice's spare places count too). A statement '..UptoSaid' is the law's where the arguments, and the package variables that the reading takes, are together of bulk at most 1048576: NARROWER than '..Said'. Prove '..Said' where nothing that the law and all that it calls make is longer than what came in: it says more and counts as full. Else prove '..UptoSaid'. A law counts once. -/
mutual
def uptoBulk {H : Type} : DataW H → Nat
  | .lit (.string bytes) => bytes.length + 1
  | .lit _ => 1
  | .nil => 1
  | .ptr d => uptoBulk d + 1
  | .slice elems spare => uptoBulkAll elems + uptoBulkAll spare + 1
  | .agg parts => uptoBulkAll parts + 1
  | .iface _ d => uptoBulk d + 1
  | .map entries => uptoBulkEntries entries + 1
  | .held _ => 1
def uptoBulkAll {H : Type} : List (DataW H) → Nat
  | [] => 0
  | d :: r => uptoBulk d + uptoBulkAll r
def uptoBulkEntries {H : Type} : List (Lit × DataW H) → Nat
  | [] => 0
  | x :: r => uptoBulkEntry x + uptoBulkEntries r
def uptoBulkEntry {H : Type} : Lit × DataW H → Nat
  | (.string bytes, d) => bytes.length + uptoBulk d + 1
  | (_, d) => uptoBulk d + 1
 end
def uptoSmall : (H : Type) → List (DataW H) → Bool := fun _ ds => decide (uptoBulkAll ds ≤ 1048576)
def OpenSpec.upto (s : _root_.Go.ChangeSpec) : _root_.Go.OpenSpec := { _root_.Go.OpenSpec.ofChange s with cond := some uptoSmall }

/-- 'laws.FnKGrown', WHERE WHAT IT READS IS OF BULK AT MOST 1048576: true; the input reads as it did. -/
def fnKGrownUptoRow : OpenClaim := { program := "ytjgpiealnfbkcaa", sum := "46fee417fac266a055368eec013ac36c8e2301b24fbee74a3a8457fb796ee2e1", func := "pub-orthodrome/laws.FnKGrown", spec := "fnKGrown", inPlace := ["math.archTrunc", "math.Float64bits", "math.Float64frombits"], unfollowed := true, recurses := true, apart := false, narrowed := true }
def FnKGrownUptoSaid : Prop := fnKGrownUptoRow.holds Try.pinned (OpenSpec.upto fnKGrownSpec)

/-- 'laws.FnKTree', WHERE WHAT IT READS IS OF BULK AT MOST 1048576: true; the input reads as it did. -/
def fnKTreeUptoRow : OpenClaim := { program := "ytjgpiealnfbkcaa", sum := "46fee417fac266a055368eec013ac36c8e2301b24fbee74a3a8457fb796ee2e1", func := "pub-orthodrome/laws.FnKTree", spec := "fnKTree", inPlace := ["math.archTrunc", "math.Float64bits", "math.Float64frombits"], unfollowed := true, recurses := true, apart := false, narrowed := true }
def FnKTreeUptoSaid : Prop := fnKTreeUptoRow.holds Try.pinned (OpenSpec.upto fnKTreeSpec)

/-- 'laws.FnKNearestSet', WHERE WHAT IT READS IS OF BULK AT MOST 1048576: true; the input reads as it did. -/
def fnKNearestSetUptoRow : OpenClaim := { program := "ytjgpiealnfbkcaa", sum := "46fee417fac266a055368eec013ac36c8e2301b24fbee74a3a8457fb796ee2e1", func := "pub-orthodrome/laws.FnKNearestSet", spec := "fnKNearestSet", inPlace := ["math.archTrunc", "math.Float64bits", "math.Float64frombits"], unfollowed := true, recurses := true, apart := false, narrowed := true }
def FnKNearestSetUptoSaid : Prop := fnKNearestSetUptoRow.holds Try.pinned (OpenSpec.upto fnKNearestSetSpec)

/-- 'laws.FnTreeSetSorts', WHERE WHAT IT READS IS OF BULK AT MOST 1048576: true; the input reads as it did. -/
def fnTreeSetSortsUptoRow : OpenClaim := { program := "ytjgpiealnfbkcaa", sum := "46fee417fac266a055368eec013ac36c8e2301b24fbee74a3a8457fb796ee2e1", func := "pub-orthodrome/laws.FnTreeSetSorts", spec := "fnTreeSetSorts", unfollowed := true, recurses := true, apart := false, narrowed := true }
def FnTreeSetSortsUptoSaid : Prop := fnTreeSetSortsUptoRow.holds Try.pinned (OpenSpec.upto fnTreeSetSortsSpec)

end Rows
end Go.Proofs.Ytjgpiealnfbkcaa
