/-
  No cell of these rows narrows 'for every input' (looked for: loops, veiled, ifaces, maps, wideKeys, modest, calm, conditions, laid).
  DERIVED. THE GIVEN ROWS OF THIS SEAT. 5 by the template 'for every input the law returns true; each argument reads behind the call as it read before'; 0 by the template 'total and deterministic' (their statements: YtmjhjnnlhjfbcaaTotals.lean).
  GIVEN WITH THE SEED: the statements are not yours to turn. If you find one false, say at which input.
  Laid BY PROGRAM, IN A SANDBOX (cutbox-rows.mjs): the forced cells as the released guide's own fill.sh prints them over the translation 0d59f2131ed77489… (all of the seat's roots in one cut). By AI agents, Wed Nov 11 2026. No macro, syntax, notation, axiom, sorry.
-/
import Derived.Test.YtmjhjnnlhjfbcaaChecked
import GoSem.Claim
import GoSem.ClaimJoined
import GoSem.ClaimMapViews
import Derived.JoinedTies
import Derived.KernelRfl
namespace Go.Proofs.Ytmjhjnnlhjfbcaa
/- THE CELL 'sum', in the pinned program and in every row, IS THE sha256 OF THE DUMP (.gsa) THAT YtmjhjnnlhjfbcaaProg.lean LOADS. Nothing in Lean hashes anything: it is a label: what it is worth is what the hold of that sum in a sandbox is worth. -/
noncomputable def Try.pinned : Pinned := { name := "ytmjhjnnlhjfbcaa", sum := "0d59f2131ed77489687ab4547e8ade1da5545d12ff56379e5eef07a5e3862c51", checked := Try.checked }
namespace Rows
def none {H : Type} : Left H := { results := [], args := [] }

/-- 'laws.FnCoordClone': WHATEVER THE INPUT: true; the input reads as it did. -/
def fnCoordCloneSpec : ChangeSpec := { name := "fnCoordClone", fn := fun _ => fun
  | [d] => { results := [.lit (.bool true)], args := [d] }
  | _ => none }
def fnCoordCloneRow : OpenClaim := { program := "ytmjhjnnlhjfbcaa", sum := "0d59f2131ed77489687ab4547e8ade1da5545d12ff56379e5eef07a5e3862c51", func := "pub-orthodrome/laws.FnCoordClone", spec := "fnCoordClone", inPlace := ["math.Float64bits"], apart := false }
def FnCoordCloneSaid : Prop := fnCoordCloneRow.holds Try.pinned (OpenSpec.ofChange fnCoordCloneSpec)

/-- ITS FALSE NEIGHBOUR: 'it returns false'. Refute it at one input. -/
def fnCoordCloneWrong : ChangeSpec := { name := "fnCoordClone", fn := fun _ => fun
  | [d] => { results := [.lit (.bool false)], args := [d] }
  | _ => none }
def FnCoordCloneWrongFalsely : Prop := fnCoordCloneRow.holds Try.pinned (OpenSpec.ofChange fnCoordCloneWrong)

/-- 'laws.FnBoxOverlaps': WHATEVER THE INPUT: true; the input reads as it did. -/
def fnBoxOverlapsSpec : ChangeSpec := { name := "fnBoxOverlaps", fn := fun _ => fun
  | [d1, d2, d3] => { results := [.lit (.bool true)], args := [d1, d2, d3] }
  | _ => none }
def fnBoxOverlapsRow : OpenClaim := { program := "ytmjhjnnlhjfbcaa", sum := "0d59f2131ed77489687ab4547e8ade1da5545d12ff56379e5eef07a5e3862c51", func := "pub-orthodrome/laws.FnBoxOverlaps", spec := "fnBoxOverlaps", unfollowed := true, recurses := true, apart := false }
def FnBoxOverlapsSaid : Prop := fnBoxOverlapsRow.holds Try.pinned (OpenSpec.ofChange fnBoxOverlapsSpec)

/-- ITS FALSE NEIGHBOUR: 'it returns false'. Refute it at one input. -/
def fnBoxOverlapsWrong : ChangeSpec := { name := "fnBoxOverlaps", fn := fun _ => fun
  | [d1, d2, d3] => { results := [.lit (.bool false)], args := [d1, d2, d3] }
  | _ => none }
def FnBoxOverlapsWrongFalsely : Prop := fnBoxOverlapsRow.holds Try.pinned (OpenSpec.ofChange fnBoxOverlapsWrong)

/-- 'laws.FnBoxHas2': WHATEVER THE INPUT: true; the input reads as it did. -/
def fnBoxHas2Spec : ChangeSpec := { name := "fnBoxHas2", fn := fun _ => fun
  | [d1, d2, d3] => { results := [.lit (.bool true)], args := [d1, d2, d3] }
  | _ => none }
def fnBoxHas2Row : OpenClaim := { program := "ytmjhjnnlhjfbcaa", sum := "0d59f2131ed77489687ab4547e8ade1da5545d12ff56379e5eef07a5e3862c51", func := "pub-orthodrome/laws.FnBoxHas2", spec := "fnBoxHas2", inPlace := ["math.archTrunc", "math.Float64bits", "math.Float64frombits"], apart := false }
def FnBoxHas2Said : Prop := fnBoxHas2Row.holds Try.pinned (OpenSpec.ofChange fnBoxHas2Spec)

/-- ITS FALSE NEIGHBOUR: 'it returns false'. Refute it at one input. -/
def fnBoxHas2Wrong : ChangeSpec := { name := "fnBoxHas2", fn := fun _ => fun
  | [d1, d2, d3] => { results := [.lit (.bool false)], args := [d1, d2, d3] }
  | _ => none }
def FnBoxHas2WrongFalsely : Prop := fnBoxHas2Row.holds Try.pinned (OpenSpec.ofChange fnBoxHas2Wrong)

/-- 'laws.FnBoxHas3': WHATEVER THE INPUT: true; the input reads as it did. -/
def fnBoxHas3Spec : ChangeSpec := { name := "fnBoxHas3", fn := fun _ => fun
  | [d1, d2, d3] => { results := [.lit (.bool true)], args := [d1, d2, d3] }
  | _ => none }
def fnBoxHas3Row : OpenClaim := { program := "ytmjhjnnlhjfbcaa", sum := "0d59f2131ed77489687ab4547e8ade1da5545d12ff56379e5eef07a5e3862c51", func := "pub-orthodrome/laws.FnBoxHas3", spec := "fnBoxHas3", inPlace := ["math.archTrunc", "math.Float64bits", "math.Float64frombits"], apart := false }
def FnBoxHas3Said : Prop := fnBoxHas3Row.holds Try.pinned (OpenSpec.ofChange fnBoxHas3Spec)

/-- ITS FALSE NEIGHBOUR: 'it returns false'. Refute it at one input. -/
def fnBoxHas3Wrong : ChangeSpec := { name := "fnBoxHas3", fn := fun _ => fun
  | [d1, d2, d3] => { results := [.lit (.bool false)], args := [d1, d2, d3] }
  | _ => none }
def FnBoxHas3WrongFalsely : Prop := fnBoxHas3Row.holds Try.pinned (OpenSpec.ofChange fnBoxHas3Wrong)

/-- 'laws.FnKSquare': WHATEVER THE INPUT: true; the input reads as it did. -/
def fnKSquareSpec : ChangeSpec := { name := "fnKSquare", fn := fun _ => fun
  | [d1, d2] => { results := [.lit (.bool true)], args := [d1, d2] }
  | _ => none }
def fnKSquareRow : OpenClaim := { program := "ytmjhjnnlhjfbcaa", sum := "0d59f2131ed77489687ab4547e8ade1da5545d12ff56379e5eef07a5e3862c51", func := "pub-orthodrome/laws.FnKSquare", spec := "fnKSquare", inPlace := ["math.archTrunc", "math.Float64bits", "math.Float64frombits"], unfollowed := true, recurses := true, apart := false }
def FnKSquareSaid : Prop := fnKSquareRow.holds Try.pinned (OpenSpec.ofChange fnKSquareSpec)

/-- ITS FALSE NEIGHBOUR: 'it returns false'. Refute it at one input. -/
def fnKSquareWrong : ChangeSpec := { name := "fnKSquare", fn := fun _ => fun
  | [d1, d2] => { results := [.lit (.bool false)], args := [d1, d2] }
  | _ => none }
def FnKSquareWrongFalsely : Prop := fnKSquareRow.holds Try.pinned (OpenSpec.ofChange fnKSquareWrong)

/- THE SECOND FORM. 'bulk': how many values and letters a reading holds, each counted each time it is reached (what is shared counts as often as it is met; a slice's spare places count too). A statement '..UptoSaid' is the law's where the arguments, and the package variables that the reading takes, are together of bulk at most 1048576: NARROWER than '..Said'. Prove '..Said' where nothing that the law and all that it calls make is longer than what came in: it says more and counts as full. Else prove '..UptoSaid'. A law counts once. -/
mutual
def uptoBulk {H : Type} : DataW H → Nat
  | .lit (.string bytes) => bytes.length + 1
  | .lit _ => 1
  | .nil => 1
  | .ptr d => uptoBulk d + 1
  | .slice elems spare => uptoBulkAll elems + uptoBulkAll spare + 1
  | .agg parts => uptoBulkAll parts + 1
  | .iface _ d => uptoBulk d + 1
  | .map entries => uptoBulkEntries entries + 1
  | .held _ => 1
def uptoBulkAll {H : Type} : List (DataW H) → Nat
  | [] => 0
  | d :: r => uptoBulk d + uptoBulkAll r
def uptoBulkEntries {H : Type} : List (Lit × DataW H) → Nat
  | [] => 0
  | x :: r => uptoBulkEntry x + uptoBulkEntries r
def uptoBulkEntry {H : Type} : Lit × DataW H → Nat
  | (.string bytes, d) => bytes.length + uptoBulk d + 1
  | (_, d) => uptoBulk d + 1
 end
def uptoSmall : (H : Type) → List (DataW H) → Bool := fun _ ds => decide (uptoBulkAll ds ≤ 1048576)
def OpenSpec.upto (s : _root_.Go.ChangeSpec) : _root_.Go.OpenSpec := { _root_.Go.OpenSpec.ofChange s with cond := some uptoSmall }

/-- 'laws.FnCoordClone', WHERE WHAT IT READS IS OF BULK AT MOST 1048576: true; the input reads as it did. -/
def fnCoordCloneUptoRow : OpenClaim := { program := "ytmjhjnnlhjfbcaa", sum := "0d59f2131ed77489687ab4547e8ade1da5545d12ff56379e5eef07a5e3862c51", func := "pub-orthodrome/laws.FnCoordClone", spec := "fnCoordClone", inPlace := ["math.Float64bits"], apart := false, narrowed := true }
def FnCoordCloneUptoSaid : Prop := fnCoordCloneUptoRow.holds Try.pinned (OpenSpec.upto fnCoordCloneSpec)

/-- 'laws.FnBoxOverlaps', WHERE WHAT IT READS IS OF BULK AT MOST 1048576: true; the input reads as it did. -/
def fnBoxOverlapsUptoRow : OpenClaim := { program := "ytmjhjnnlhjfbcaa", sum := "0d59f2131ed77489687ab4547e8ade1da5545d12ff56379e5eef07a5e3862c51", func := "pub-orthodrome/laws.FnBoxOverlaps", spec := "fnBoxOverlaps", unfollowed := true, recurses := true, apart := false, narrowed := true }
def FnBoxOverlapsUptoSaid : Prop := fnBoxOverlapsUptoRow.holds Try.pinned (OpenSpec.upto fnBoxOverlapsSpec)

/-- 'laws.FnBoxHas2', WHERE WHAT IT READS IS OF BULK AT MOST 1048576: true; the input reads as it did. -/
def fnBoxHas2UptoRow : OpenClaim := { program := "ytmjhjnnlhjfbcaa", sum := "0d59f2131ed77489687ab4547e8ade1da5545d12ff56379e5eef07a5e3862c51", func := "pub-orthodrome/laws.FnBoxHas2", spec := "fnBoxHas2", inPlace := ["math.archTrunc", "math.Float64bits", "math.Float64frombits"], apart := false, narrowed := true }
def FnBoxHas2UptoSaid : Prop := fnBoxHas2UptoRow.holds Try.pinned (OpenSpec.upto fnBoxHas2Spec)

/-- 'laws.FnBoxHas3', WHERE WHAT IT READS IS OF BULK AT MOST 1048576: true; the input reads as it did. -/
def fnBoxHas3UptoRow : OpenClaim := { program := "ytmjhjnnlhjfbcaa", sum := "0d59f2131ed77489687ab4547e8ade1da5545d12ff56379e5eef07a5e3862c51", func := "pub-orthodrome/laws.FnBoxHas3", spec := "fnBoxHas3", inPlace := ["math.archTrunc", "math.Float64bits", "math.Float64frombits"], apart := false, narrowed := true }
def FnBoxHas3UptoSaid : Prop := fnBoxHas3UptoRow.holds Try.pinned (OpenSpec.upto fnBoxHas3Spec)

/-- 'laws.FnKSquare', WHERE WHAT IT READS IS OF BULK AT MOST 1048576: true; the input reads as it did. -/
def fnKSquareUptoRow : OpenClaim := { program := "ytmjhjnnlhjfbcaa", sum := "0d59f2131ed77489687ab4547e8ade1da5545d12ff56379e5eef07a5e3862c51", func := "pub-orthodrome/laws.FnKSquare", spec := "fnKSquare", inPlace := ["math.archTrunc", "math.Float64bits", "math.Float64frombits"], unfollowed := true, recurses := true, apart := false, narrowed := true }
def FnKSquareUptoSaid : Prop := fnKSquareUptoRow.holds Try.pinned (OpenSpec.upto fnKSquareSpec)

end Rows
end Go.Proofs.Ytmjhjnnlhjfbcaa
