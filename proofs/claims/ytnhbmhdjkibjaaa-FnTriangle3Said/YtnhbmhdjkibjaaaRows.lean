/-
  No cell of these rows narrows 'for every input' (looked for: loops, veiled, ifaces, maps, wideKeys, modest, calm, conditions, laid).
  DERIVED. THE GIVEN ROWS OF THIS SEAT. 2 by the template 'for every input the law returns true; each argument reads behind the call as it read before'; 0 by the template 'total and deterministic' (their statements: YtnhbmhdjkibjaaaTotals.lean).
  GIVEN WITH THE SEED: the statements are not yours to turn. If you find one false, say at which input.
  Laid BY PROGRAM, IN A SANDBOX (cutbox-rows.mjs): the forced cells as the released guide's own fill.sh prints them over the translation aca855171a6699b9… (all of the seat's roots in one cut). By AI agents, Wed Nov 11 2026. No macro, syntax, notation, axiom, sorry.
-/
import Derived.Test.YtnhbmhdjkibjaaaChecked
import GoSem.Claim
import GoSem.ClaimJoined
import GoSem.ClaimMapViews
import Derived.JoinedTies
import Derived.KernelRfl
namespace Go.Proofs.Ytnhbmhdjkibjaaa
/- THE CELL 'sum', in the pinned program and in every row, IS THE sha256 OF THE DUMP (.gsa) THAT YtnhbmhdjkibjaaaProg.lean LOADS. Nothing in Lean hashes anything: it is a label: what it is worth is what the hold of that sum in a sandbox is worth. -/
noncomputable def Try.pinned : Pinned := { name := "ytnhbmhdjkibjaaa", sum := "aca855171a6699b933e459ced991537ddd879d53ba1947809d65bd681e24220a", checked := Try.checked }
namespace Rows
def none {H : Type} : Left H := { results := [], args := [] }

/-- 'laws.FnTriangle2': WHATEVER THE INPUT: true; the input reads as it did. -/
def fnTriangle2Spec : ChangeSpec := { name := "fnTriangle2", fn := fun _ => fun
  | [d1, d2, d3] => { results := [.lit (.bool true)], args := [d1, d2, d3] }
  | _ => none }
def fnTriangle2Row : OpenClaim := { program := "ytnhbmhdjkibjaaa", sum := "aca855171a6699b933e459ced991537ddd879d53ba1947809d65bd681e24220a", func := "pub-orthodrome/laws.FnTriangle2", spec := "fnTriangle2", inPlace := ["math.archTrunc", "math.Float64bits", "math.Float64frombits", "math.archHypot", "math.sqrt"], apart := false }
def FnTriangle2Said : Prop := fnTriangle2Row.holds Try.pinned (OpenSpec.ofChange fnTriangle2Spec)

/-- ITS FALSE NEIGHBOUR: 'it returns false'. Refute it at one input. -/
def fnTriangle2Wrong : ChangeSpec := { name := "fnTriangle2", fn := fun _ => fun
  | [d1, d2, d3] => { results := [.lit (.bool false)], args := [d1, d2, d3] }
  | _ => none }
def FnTriangle2WrongFalsely : Prop := fnTriangle2Row.holds Try.pinned (OpenSpec.ofChange fnTriangle2Wrong)

/-- 'laws.FnTriangle3': WHATEVER THE INPUT: true; the input reads as it did. -/
def fnTriangle3Spec : ChangeSpec := { name := "fnTriangle3", fn := fun _ => fun
  | [d1, d2, d3] => { results := [.lit (.bool true)], args := [d1, d2, d3] }
  | _ => none }
def fnTriangle3Row : OpenClaim := { program := "ytnhbmhdjkibjaaa", sum := "aca855171a6699b933e459ced991537ddd879d53ba1947809d65bd681e24220a", func := "pub-orthodrome/laws.FnTriangle3", spec := "fnTriangle3", inPlace := ["math.archTrunc", "math.Float64bits", "math.Float64frombits", "math.archHypot", "math.sqrt"], apart := false }
def FnTriangle3Said : Prop := fnTriangle3Row.holds Try.pinned (OpenSpec.ofChange fnTriangle3Spec)

/-- ITS FALSE NEIGHBOUR: 'it returns false'. Refute it at one input. -/
def fnTriangle3Wrong : ChangeSpec := { name := "fnTriangle3", fn := fun _ => fun
  | [d1, d2, d3] => { results := [.lit (.bool false)], args := [d1, d2, d3] }
  | _ => none }
def FnTriangle3WrongFalsely : Prop := fnTriangle3Row.holds Try.pinned (OpenSpec.ofChange fnTriangle3Wrong)

/- THE SECOND FORM. 'bulk': how many values and letters a reading holds, each counted each time it is reached (what is shared counts as often as it is met; a slice's spare places count too). A statement '..UptoSaid' is the law's where the arguments, and the package variables that the reading takes, are together of bulk at most 1048576: NARROWER than '..Said'. Prove '..Said' where nothing that the law and all that it calls make is longer than what came in: it says more and counts as full. Else prove '..UptoSaid'. A law counts once. -/
mutual
def uptoBulk {H : Type} : DataW H → Nat
  | .lit (.string bytes) => bytes.length + 1
  | .lit _ => 1
  | .nil => 1
  | .ptr d => uptoBulk d + 1
  | .slice elems spare => uptoBulkAll elems + uptoBulkAll spare + 1
  | .agg parts => uptoBulkAll parts + 1
  | .iface _ d => uptoBulk d + 1
  | .map entries => uptoBulkEntries entries + 1
  | .held _ => 1
def uptoBulkAll {H : Type} : List (DataW H) → Nat
  | [] => 0
  | d :: r => uptoBulk d + uptoBulkAll r
def uptoBulkEntries {H : Type} : List (Lit × DataW H) → Nat
  | [] => 0
  | x :: r => uptoBulkEntry x + uptoBulkEntries r
def uptoBulkEntry {H : Type} : Lit × DataW H → Nat
  | (.string bytes, d) => bytes.length + uptoBulk d + 1
  | (_, d) => uptoBulk d + 1
 end
def uptoSmall : (H : Type) → List (DataW H) → Bool := fun _ ds => decide (uptoBulkAll ds ≤ 1048576)
def OpenSpec.upto (s : _root_.Go.ChangeSpec) : _root_.Go.OpenSpec := { _root_.Go.OpenSpec.ofChange s with cond := some uptoSmall }

/-- 'laws.FnTriangle2', WHERE WHAT IT READS IS OF BULK AT MOST 1048576: true; the input reads as it did. -/
def fnTriangle2UptoRow : OpenClaim := { program := "ytnhbmhdjkibjaaa", sum := "aca855171a6699b933e459ced991537ddd879d53ba1947809d65bd681e24220a", func := "pub-orthodrome/laws.FnTriangle2", spec := "fnTriangle2", inPlace := ["math.archTrunc", "math.Float64bits", "math.Float64frombits", "math.archHypot", "math.sqrt"], apart := false, narrowed := true }
def FnTriangle2UptoSaid : Prop := fnTriangle2UptoRow.holds Try.pinned (OpenSpec.upto fnTriangle2Spec)

/-- 'laws.FnTriangle3', WHERE WHAT IT READS IS OF BULK AT MOST 1048576: true; the input reads as it did. -/
def fnTriangle3UptoRow : OpenClaim := { program := "ytnhbmhdjkibjaaa", sum := "aca855171a6699b933e459ced991537ddd879d53ba1947809d65bd681e24220a", func := "pub-orthodrome/laws.FnTriangle3", spec := "fnTriangle3", inPlace := ["math.archTrunc", "math.Float64bits", "math.Float64frombits", "math.archHypot", "math.sqrt"], apart := false, narrowed := true }
def FnTriangle3UptoSaid : Prop := fnTriangle3UptoRow.holds Try.pinned (OpenSpec.upto fnTriangle3Spec)

end Rows
end Go.Proofs.Ytnhbmhdjkibjaaa
