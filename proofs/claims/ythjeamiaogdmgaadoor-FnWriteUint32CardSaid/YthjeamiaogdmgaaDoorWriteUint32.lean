/-
  A written word is read back and has the bytes of the other way of writing: the plain statement. Ours.
-/
import Derived.Test.YthjeamiaogdmgaaDoorBytes4
namespace Go.Proofs.YthjeamiaogdmgaaDoor
open Go.Sx
set_option linter.unusedVariables false
set_option maxRecDepth 100000
theorem main (F : Nat) (hF : 5 ≤ F) (v : Nat) (hv : v < 4294967296) (big : Bool) : laws_FnWriteUint32 F (v : Int) big = some true := by
  unfold laws_FnWriteUint32
  rw [write32_is, sbind]
  dsimp only
  rw [read32_is F big v hv, sbind, br_true]
  unfold laws_FnWriteUint32_j1
  dsimp only
  rw [br_true, decide_eq_true rfl]
  unfold laws_FnWriteUint32_j2
  dsimp only
  rw [br_true, decide_eq_true rfl]
  unfold laws_FnWriteUint32_j3
  rw [br_true, wkbOut_is F hF big v hv, sbind]
  unfold laws_ySame laws_FnWriteUint32_j4
  rw [sbind]
  simp
theorem fact_FnWriteUint32 (a : Int) (b : Bool) {p : Prop} (g0 : IntKind.min .u32 ≤ a ∧ a ≤ IntKind.max .u32) (g1 : p) : laws_FnWriteUint32 100 a b = some true := by
  have h1 : IntKind.min .u32 = 0 := by decide
  have h2 : IntKind.max .u32 = 4294967295 := by decide
  rw [h1, h2] at g0
  obtain ⟨n, rfl⟩ : ∃ n : Nat, a = n := ⟨a.toNat, by omega⟩
  exact main 100 (by decide) n (by omega) b
end Go.Proofs.YthjeamiaogdmgaaDoor
