/-
  NARROWER THAN 'FOR EVERY INPUT', by the rows' own cells (each row's printed sentence says how): FnEndssOf: loops · FnSetLayout: loops · FnPush: loops · FnBoxExtendOrder: loops.
  DERIVED. THE GIVEN ROWS OF THIS SEAT. 4 by the template 'for every input the law returns true; each argument reads behind the call as it read before'; 0 by the template 'total and deterministic' (their statements: YtmagcmeknclljaaTotals.lean).
  GIVEN WITH THE SEED: the statements are not yours to turn. If you find one false, say at which input.
  Laid BY PROGRAM, IN A SANDBOX (cutbox-rows.mjs): the forced cells as the released guide's own fill.sh prints them over the translation c7322bc7dc6dfddf… (all of the seat's roots in one cut). By AI agents, Wed Nov 11 2026. No macro, syntax, notation, axiom, sorry.
-/
import Derived.Test.YtmagcmeknclljaaChecked
import GoSem.Claim
import GoSem.ClaimJoined
import GoSem.ClaimMapViews
import Derived.JoinedTies
import Derived.KernelRfl
namespace Go.Proofs.Ytmagcmeknclljaa
/- THE CELL 'sum', in the pinned program and in every row, IS THE sha256 OF THE DUMP (.gsa) THAT YtmagcmeknclljaaProg.lean LOADS. Nothing in Lean hashes anything: it is a label: what it is worth is what the hold of that sum in a sandbox is worth. -/
noncomputable def Try.pinned : Pinned := { name := "ytmagcmeknclljaa", sum := "c7322bc7dc6dfddf1e0d81595c7bc0c321f53820aa3be937fde701620ea5d5a4", checked := Try.checked }
namespace Rows
def none {H : Type} : Left H := { results := [], args := [] }

/-- 'laws.FnEndssOf': WHATEVER THE INPUT: true; the input reads as it did. -/
def fnEndssOfSpec : ChangeSpec := { name := "fnEndssOf", fn := fun _ => fun
  | [d] => { results := [.lit (.bool true)], args := [d] }
  | _ => none }
def fnEndssOfRow : OpenClaim := { program := "ytmagcmeknclljaa", sum := "c7322bc7dc6dfddf1e0d81595c7bc0c321f53820aa3be937fde701620ea5d5a4", func := "pub-orthodrome/laws.FnEndssOf", spec := "fnEndssOf", unfollowed := true, recurses := true, loops := true, apart := false }
def FnEndssOfSaid : Prop := fnEndssOfRow.holds Try.pinned (OpenSpec.ofChange fnEndssOfSpec)

/-- ITS FALSE NEIGHBOUR: 'it returns false'. Refute it at one input. -/
def fnEndssOfWrong : ChangeSpec := { name := "fnEndssOf", fn := fun _ => fun
  | [d] => { results := [.lit (.bool false)], args := [d] }
  | _ => none }
def FnEndssOfWrongFalsely : Prop := fnEndssOfRow.holds Try.pinned (OpenSpec.ofChange fnEndssOfWrong)

/-- 'laws.FnSetLayout': WHATEVER THE INPUT: true; the input reads as it did. -/
def fnSetLayoutSpec : ChangeSpec := { name := "fnSetLayout", fn := fun _ => fun
  | [d1, d2] => { results := [.lit (.bool true)], args := [d1, d2] }
  | _ => none }
def fnSetLayoutRow : OpenClaim := { program := "ytmagcmeknclljaa", sum := "c7322bc7dc6dfddf1e0d81595c7bc0c321f53820aa3be937fde701620ea5d5a4", func := "pub-orthodrome/laws.FnSetLayout", spec := "fnSetLayout", inPlace := ["math.Float64bits"], unfollowed := true, recurses := true, loops := true, apart := false }
def FnSetLayoutSaid : Prop := fnSetLayoutRow.holds Try.pinned (OpenSpec.ofChange fnSetLayoutSpec)

/-- ITS FALSE NEIGHBOUR: 'it returns false'. Refute it at one input. -/
def fnSetLayoutWrong : ChangeSpec := { name := "fnSetLayout", fn := fun _ => fun
  | [d1, d2] => { results := [.lit (.bool false)], args := [d1, d2] }
  | _ => none }
def FnSetLayoutWrongFalsely : Prop := fnSetLayoutRow.holds Try.pinned (OpenSpec.ofChange fnSetLayoutWrong)

/-- 'laws.FnPush': WHATEVER THE INPUT: true; the input reads as it did. -/
def fnPushSpec : ChangeSpec := { name := "fnPush", fn := fun _ => fun
  | [d1, d2] => { results := [.lit (.bool true)], args := [d1, d2] }
  | _ => none }
def fnPushRow : OpenClaim := { program := "ytmagcmeknclljaa", sum := "c7322bc7dc6dfddf1e0d81595c7bc0c321f53820aa3be937fde701620ea5d5a4", func := "pub-orthodrome/laws.FnPush", spec := "fnPush", inPlace := ["math.Float64bits"], unfollowed := true, recurses := true, loops := true, apart := false }
def FnPushSaid : Prop := fnPushRow.holds Try.pinned (OpenSpec.ofChange fnPushSpec)

/-- ITS FALSE NEIGHBOUR: 'it returns false'. Refute it at one input. -/
def fnPushWrong : ChangeSpec := { name := "fnPush", fn := fun _ => fun
  | [d1, d2] => { results := [.lit (.bool false)], args := [d1, d2] }
  | _ => none }
def FnPushWrongFalsely : Prop := fnPushRow.holds Try.pinned (OpenSpec.ofChange fnPushWrong)

/-- 'laws.FnBoxExtendOrder': WHATEVER THE INPUT: true; the input reads as it did. -/
def fnBoxExtendOrderSpec : ChangeSpec := { name := "fnBoxExtendOrder", fn := fun _ => fun
  | [d1, d2, d3] => { results := [.lit (.bool true)], args := [d1, d2, d3] }
  | _ => none }
def fnBoxExtendOrderRow : OpenClaim := { program := "ytmagcmeknclljaa", sum := "c7322bc7dc6dfddf1e0d81595c7bc0c321f53820aa3be937fde701620ea5d5a4", func := "pub-orthodrome/laws.FnBoxExtendOrder", spec := "fnBoxExtendOrder", inPlace := ["math.Float64frombits", "math.archMin", "math.Float64bits", "math.archMax"], unfollowed := true, recurses := true, loops := true, apart := false }
def FnBoxExtendOrderSaid : Prop := fnBoxExtendOrderRow.holds Try.pinned (OpenSpec.ofChange fnBoxExtendOrderSpec)

/-- ITS FALSE NEIGHBOUR: 'it returns false'. Refute it at one input. -/
def fnBoxExtendOrderWrong : ChangeSpec := { name := "fnBoxExtendOrder", fn := fun _ => fun
  | [d1, d2, d3] => { results := [.lit (.bool false)], args := [d1, d2, d3] }
  | _ => none }
def FnBoxExtendOrderWrongFalsely : Prop := fnBoxExtendOrderRow.holds Try.pinned (OpenSpec.ofChange fnBoxExtendOrderWrong)

/- THE SECOND FORM. 'bulk': how many values and letters a reading holds, each counted each time it is reached (what is shared counts as often as it is met; a slice's spare places count too). A statement '..UptoSaid' is the law's where the arguments, and the package variables that the reading takes, are together of bulk at most 1048576: NARROWER than '..Said'. Prove '..Said' where nothing that the law and all that it calls make is longer than what came in: it says more and counts as full. Else prove '..UptoSaid'. A law counts once. -/
mutual
def uptoBulk {H : Type} : DataW H → Nat
  | .lit (.string bytes) => bytes.length + 1
  | .lit _ => 1
  | .nil => 1
  | .ptr d => uptoBulk d + 1
  | .slice elems spare => uptoBulkAll elems + uptoBulkAll spare + 1
  | .agg parts => uptoBulkAll parts + 1
  | .iface _ d => uptoBulk d + 1
  | .map entries => uptoBulkEntries entries + 1
  | .held _ => 1
def uptoBulkAll {H : Type} : List (DataW H) → Nat
  | [] => 0
  | d :: r => uptoBulk d + uptoBulkAll r
def uptoBulkEntries {H : Type} : List (Lit × DataW H) → Nat
  | [] => 0
  | x :: r => uptoBulkEntry x + uptoBulkEntries r
def uptoBulkEntry {H : Type} : Lit × DataW H → Nat
  | (.string bytes, d) => bytes.length + uptoBulk d + 1
  | (_, d) => uptoBulk d + 1
 end
def uptoSmall : (H : Type) → List (DataW H) → Bool := fun _ ds => decide (uptoBulkAll ds ≤ 1048576)
def OpenSpec.upto (s : _root_.Go.ChangeSpec) : _root_.Go.OpenSpec := { _root_.Go.OpenSpec.ofChange s with cond := some uptoSmall }

/-- 'laws.FnEndssOf', WHERE WHAT IT READS IS OF BULK AT MOST 1048576: true; the input reads as it did. -/
def fnEndssOfUptoRow : OpenClaim := { program := "ytmagcmeknclljaa", sum := "c7322bc7dc6dfddf1e0d81595c7bc0c321f53820aa3be937fde701620ea5d5a4", func := "pub-orthodrome/laws.FnEndssOf", spec := "fnEndssOf", unfollowed := true, recurses := true, loops := true, apart := false, narrowed := true }
def FnEndssOfUptoSaid : Prop := fnEndssOfUptoRow.holds Try.pinned (OpenSpec.upto fnEndssOfSpec)

/-- 'laws.FnSetLayout', WHERE WHAT IT READS IS OF BULK AT MOST 1048576: true; the input reads as it did. -/
def fnSetLayoutUptoRow : OpenClaim := { program := "ytmagcmeknclljaa", sum := "c7322bc7dc6dfddf1e0d81595c7bc0c321f53820aa3be937fde701620ea5d5a4", func := "pub-orthodrome/laws.FnSetLayout", spec := "fnSetLayout", inPlace := ["math.Float64bits"], unfollowed := true, recurses := true, loops := true, apart := false, narrowed := true }
def FnSetLayoutUptoSaid : Prop := fnSetLayoutUptoRow.holds Try.pinned (OpenSpec.upto fnSetLayoutSpec)

/-- 'laws.FnPush', WHERE WHAT IT READS IS OF BULK AT MOST 1048576: true; the input reads as it did. -/
def fnPushUptoRow : OpenClaim := { program := "ytmagcmeknclljaa", sum := "c7322bc7dc6dfddf1e0d81595c7bc0c321f53820aa3be937fde701620ea5d5a4", func := "pub-orthodrome/laws.FnPush", spec := "fnPush", inPlace := ["math.Float64bits"], unfollowed := true, recurses := true, loops := true, apart := false, narrowed := true }
def FnPushUptoSaid : Prop := fnPushUptoRow.holds Try.pinned (OpenSpec.upto fnPushSpec)

/-- 'laws.FnBoxExtendOrder', WHERE WHAT IT READS IS OF BULK AT MOST 1048576: true; the input reads as it did. -/
def fnBoxExtendOrderUptoRow : OpenClaim := { program := "ytmagcmeknclljaa", sum := "c7322bc7dc6dfddf1e0d81595c7bc0c321f53820aa3be937fde701620ea5d5a4", func := "pub-orthodrome/laws.FnBoxExtendOrder", spec := "fnBoxExtendOrder", inPlace := ["math.Float64frombits", "math.archMin", "math.Float64bits", "math.archMax"], unfollowed := true, recurses := true, loops := true, apart := false, narrowed := true }
def FnBoxExtendOrderUptoSaid : Prop := fnBoxExtendOrderUptoRow.holds Try.pinned (OpenSpec.upto fnBoxExtendOrderSpec)

end Rows
end Go.Proofs.Ytmagcmeknclljaa
