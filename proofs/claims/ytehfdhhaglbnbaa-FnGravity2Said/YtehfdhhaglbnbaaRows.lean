/-
  No cell of these rows narrows 'for every input' (looked for: loops, veiled, ifaces, maps, wideKeys, modest, calm, conditions, laid).
  DERIVED. THE GIVEN ROWS OF THIS SEAT. 5 by the template 'for every input the law returns true; each argument reads behind the call as it read before'; 0 by the template 'total and deterministic' (their statements: YtehfdhhaglbnbaaTotals.lean).
  GIVEN WITH THE SEED: the statements are not yours to turn. If you find one false, say at which input.
  Laid BY PROGRAM, IN A SANDBOX (cutbox-rows.mjs): the forced cells as the released guide's own fill.sh prints them over the translation 98f4baa809cf431e… (all of the seat's roots in one cut). By AI agents, Wed Nov 11 2026. No macro, syntax, notation, axiom, sorry.
-/
import Derived.Test.YtehfdhhaglbnbaaChecked
import GoSem.Claim
import GoSem.ClaimJoined
import GoSem.ClaimMapViews
import Derived.JoinedTies
import Derived.KernelRfl
namespace Go.Proofs.Ytehfdhhaglbnbaa
/- THE CELL 'sum', in the pinned program and in every row, IS THE sha256 OF THE DUMP (.gsa) THAT YtehfdhhaglbnbaaProg.lean LOADS. Nothing in Lean hashes anything: it is a label: what it is worth is what the hold of that sum in a sandbox is worth. -/
noncomputable def Try.pinned : Pinned := { name := "ytehfdhhaglbnbaa", sum := "98f4baa809cf431e87020a16dd8705fa64522c7f98d539580b74c0385d5d38cc", checked := Try.checked }
namespace Rows
def none {H : Type} : Left H := { results := [], args := [] }

/-- 'laws.FnGravity2': WHATEVER THE INPUT: true; the input reads as it did. -/
def fnGravity2Spec : ChangeSpec := { name := "fnGravity2", fn := fun _ => fun
  | [d1, d2, d3] => { results := [.lit (.bool true)], args := [d1, d2, d3] }
  | _ => none }
def fnGravity2Row : OpenClaim := { program := "ytehfdhhaglbnbaa", sum := "98f4baa809cf431e87020a16dd8705fa64522c7f98d539580b74c0385d5d38cc", func := "pub-orthodrome/laws.FnGravity2", spec := "fnGravity2", inPlace := ["math.archTrunc", "math.Float64bits", "math.Float64frombits", "math.sqrt"], apart := false }
def FnGravity2Said : Prop := fnGravity2Row.holds Try.pinned (OpenSpec.ofChange fnGravity2Spec)

/-- ITS FALSE NEIGHBOUR: 'it returns false'. Refute it at one input. -/
def fnGravity2Wrong : ChangeSpec := { name := "fnGravity2", fn := fun _ => fun
  | [d1, d2, d3] => { results := [.lit (.bool false)], args := [d1, d2, d3] }
  | _ => none }
def FnGravity2WrongFalsely : Prop := fnGravity2Row.holds Try.pinned (OpenSpec.ofChange fnGravity2Wrong)

/-- 'laws.FnLength2': WHATEVER THE INPUT: true; the input reads as it did. -/
def fnLength2Spec : ChangeSpec := { name := "fnLength2", fn := fun _ => fun
  | [d] => { results := [.lit (.bool true)], args := [d] }
  | _ => none }
def fnLength2Row : OpenClaim := { program := "ytehfdhhaglbnbaa", sum := "98f4baa809cf431e87020a16dd8705fa64522c7f98d539580b74c0385d5d38cc", func := "pub-orthodrome/laws.FnLength2", spec := "fnLength2", inPlace := ["math.archTrunc", "math.Float64bits", "math.Float64frombits", "math.archHypot", "math.sqrt"], apart := false }
def FnLength2Said : Prop := fnLength2Row.holds Try.pinned (OpenSpec.ofChange fnLength2Spec)

/-- ITS FALSE NEIGHBOUR: 'it returns false'. Refute it at one input. -/
def fnLength2Wrong : ChangeSpec := { name := "fnLength2", fn := fun _ => fun
  | [d] => { results := [.lit (.bool false)], args := [d] }
  | _ => none }
def FnLength2WrongFalsely : Prop := fnLength2Row.holds Try.pinned (OpenSpec.ofChange fnLength2Wrong)

/-- 'laws.FnLength3': WHATEVER THE INPUT: true; the input reads as it did. -/
def fnLength3Spec : ChangeSpec := { name := "fnLength3", fn := fun _ => fun
  | [d] => { results := [.lit (.bool true)], args := [d] }
  | _ => none }
def fnLength3Row : OpenClaim := { program := "ytehfdhhaglbnbaa", sum := "98f4baa809cf431e87020a16dd8705fa64522c7f98d539580b74c0385d5d38cc", func := "pub-orthodrome/laws.FnLength3", spec := "fnLength3", inPlace := ["math.archTrunc", "math.Float64bits", "math.Float64frombits", "math.archHypot", "math.sqrt"], apart := false }
def FnLength3Said : Prop := fnLength3Row.holds Try.pinned (OpenSpec.ofChange fnLength3Spec)

/-- ITS FALSE NEIGHBOUR: 'it returns false'. Refute it at one input. -/
def fnLength3Wrong : ChangeSpec := { name := "fnLength3", fn := fun _ => fun
  | [d] => { results := [.lit (.bool false)], args := [d] }
  | _ => none }
def FnLength3WrongFalsely : Prop := fnLength3Row.holds Try.pinned (OpenSpec.ofChange fnLength3Wrong)

/-- 'laws.FnTriangle2': WHATEVER THE INPUT: true; the input reads as it did. -/
def fnTriangle2Spec : ChangeSpec := { name := "fnTriangle2", fn := fun _ => fun
  | [d1, d2, d3] => { results := [.lit (.bool true)], args := [d1, d2, d3] }
  | _ => none }
def fnTriangle2Row : OpenClaim := { program := "ytehfdhhaglbnbaa", sum := "98f4baa809cf431e87020a16dd8705fa64522c7f98d539580b74c0385d5d38cc", func := "pub-orthodrome/laws.FnTriangle2", spec := "fnTriangle2", inPlace := ["math.archTrunc", "math.Float64bits", "math.Float64frombits", "math.archHypot", "math.sqrt"], apart := false }
def FnTriangle2Said : Prop := fnTriangle2Row.holds Try.pinned (OpenSpec.ofChange fnTriangle2Spec)

/-- ITS FALSE NEIGHBOUR: 'it returns false'. Refute it at one input. -/
def fnTriangle2Wrong : ChangeSpec := { name := "fnTriangle2", fn := fun _ => fun
  | [d1, d2, d3] => { results := [.lit (.bool false)], args := [d1, d2, d3] }
  | _ => none }
def FnTriangle2WrongFalsely : Prop := fnTriangle2Row.holds Try.pinned (OpenSpec.ofChange fnTriangle2Wrong)

/-- 'laws.FnTriangle3': WHATEVER THE INPUT: true; the input reads as it did. -/
def fnTriangle3Spec : ChangeSpec := { name := "fnTriangle3", fn := fun _ => fun
  | [d1, d2, d3] => { results := [.lit (.bool true)], args := [d1, d2, d3] }
  | _ => none }
def fnTriangle3Row : OpenClaim := { program := "ytehfdhhaglbnbaa", sum := "98f4baa809cf431e87020a16dd8705fa64522c7f98d539580b74c0385d5d38cc", func := "pub-orthodrome/laws.FnTriangle3", spec := "fnTriangle3", inPlace := ["math.archTrunc", "math.Float64bits", "math.Float64frombits", "math.archHypot", "math.sqrt"], apart := false }
def FnTriangle3Said : Prop := fnTriangle3Row.holds Try.pinned (OpenSpec.ofChange fnTriangle3Spec)

/-- ITS FALSE NEIGHBOUR: 'it returns false'. Refute it at one input. -/
def fnTriangle3Wrong : ChangeSpec := { name := "fnTriangle3", fn := fun _ => fun
  | [d1, d2, d3] => { results := [.lit (.bool false)], args := [d1, d2, d3] }
  | _ => none }
def FnTriangle3WrongFalsely : Prop := fnTriangle3Row.holds Try.pinned (OpenSpec.ofChange fnTriangle3Wrong)

/- THE SECOND FORM. 'bulk': how many values and letters a reading holds, each counted each time it is reached (what is shared counts as often as it is met; a slice's spare places count too). A statement '..UptoSaid' is the law's where the arguments, and the package variables that the reading takes, are together of bulk at most 1048576: NARROWER than '..Said'. Prove '..Said' where nothing that the law and all that it calls make is longer than what came in: it says more and counts as full. Else prove '..UptoSaid'. A law counts once. -/
mutual
def uptoBulk {H : Type} : DataW H → Nat
  | .lit (.string bytes) => bytes.length + 1
  | .lit _ => 1
  | .nil => 1
  | .ptr d => uptoBulk d + 1
  | .slice elems spare => uptoBulkAll elems + uptoBulkAll spare + 1
  | .agg parts => uptoBulkAll parts + 1
  | .iface _ d => uptoBulk d + 1
  | .map entries => uptoBulkEntries entries + 1
  | .held _ => 1
def uptoBulkAll {H : Type} : List (DataW H) → Nat
  | [] => 0
  | d :: r => uptoBulk d + uptoBulkAll r
def uptoBulkEntries {H : Type} : List (Lit × DataW H) → Nat
  | [] => 0
  | x :: r => uptoBulkEntry x + uptoBulkEntries r
def uptoBulkEntry {H : Type} : Lit × DataW H → Nat
  | (.string bytes, d) => bytes.length + uptoBulk d + 1
  | (_, d) => uptoBulk d + 1
 end
def uptoSmall : (H : Type) → List (DataW H) → Bool := fun _ ds => decide (uptoBulkAll ds ≤ 1048576)
def OpenSpec.upto (s : _root_.Go.ChangeSpec) : _root_.Go.OpenSpec := { _root_.Go.OpenSpec.ofChange s with cond := some uptoSmall }

/-- 'laws.FnGravity2', WHERE WHAT IT READS IS OF BULK AT MOST 1048576: true; the input reads as it did. -/
def fnGravity2UptoRow : OpenClaim := { program := "ytehfdhhaglbnbaa", sum := "98f4baa809cf431e87020a16dd8705fa64522c7f98d539580b74c0385d5d38cc", func := "pub-orthodrome/laws.FnGravity2", spec := "fnGravity2", inPlace := ["math.archTrunc", "math.Float64bits", "math.Float64frombits", "math.sqrt"], apart := false, narrowed := true }
def FnGravity2UptoSaid : Prop := fnGravity2UptoRow.holds Try.pinned (OpenSpec.upto fnGravity2Spec)

/-- 'laws.FnLength2', WHERE WHAT IT READS IS OF BULK AT MOST 1048576: true; the input reads as it did. -/
def fnLength2UptoRow : OpenClaim := { program := "ytehfdhhaglbnbaa", sum := "98f4baa809cf431e87020a16dd8705fa64522c7f98d539580b74c0385d5d38cc", func := "pub-orthodrome/laws.FnLength2", spec := "fnLength2", inPlace := ["math.archTrunc", "math.Float64bits", "math.Float64frombits", "math.archHypot", "math.sqrt"], apart := false, narrowed := true }
def FnLength2UptoSaid : Prop := fnLength2UptoRow.holds Try.pinned (OpenSpec.upto fnLength2Spec)

/-- 'laws.FnLength3', WHERE WHAT IT READS IS OF BULK AT MOST 1048576: true; the input reads as it did. -/
def fnLength3UptoRow : OpenClaim := { program := "ytehfdhhaglbnbaa", sum := "98f4baa809cf431e87020a16dd8705fa64522c7f98d539580b74c0385d5d38cc", func := "pub-orthodrome/laws.FnLength3", spec := "fnLength3", inPlace := ["math.archTrunc", "math.Float64bits", "math.Float64frombits", "math.archHypot", "math.sqrt"], apart := false, narrowed := true }
def FnLength3UptoSaid : Prop := fnLength3UptoRow.holds Try.pinned (OpenSpec.upto fnLength3Spec)

/-- 'laws.FnTriangle2', WHERE WHAT IT READS IS OF BULK AT MOST 1048576: true; the input reads as it did. -/
def fnTriangle2UptoRow : OpenClaim := { program := "ytehfdhhaglbnbaa", sum := "98f4baa809cf431e87020a16dd8705fa64522c7f98d539580b74c0385d5d38cc", func := "pub-orthodrome/laws.FnTriangle2", spec := "fnTriangle2", inPlace := ["math.archTrunc", "math.Float64bits", "math.Float64frombits", "math.archHypot", "math.sqrt"], apart := false, narrowed := true }
def FnTriangle2UptoSaid : Prop := fnTriangle2UptoRow.holds Try.pinned (OpenSpec.upto fnTriangle2Spec)

/-- 'laws.FnTriangle3', WHERE WHAT IT READS IS OF BULK AT MOST 1048576: true; the input reads as it did. -/
def fnTriangle3UptoRow : OpenClaim := { program := "ytehfdhhaglbnbaa", sum := "98f4baa809cf431e87020a16dd8705fa64522c7f98d539580b74c0385d5d38cc", func := "pub-orthodrome/laws.FnTriangle3", spec := "fnTriangle3", inPlace := ["math.archTrunc", "math.Float64bits", "math.Float64frombits", "math.archHypot", "math.sqrt"], apart := false, narrowed := true }
def FnTriangle3UptoSaid : Prop := fnTriangle3UptoRow.holds Try.pinned (OpenSpec.upto fnTriangle3Spec)

end Rows
end Go.Proofs.Ytehfdhhaglbnbaa
