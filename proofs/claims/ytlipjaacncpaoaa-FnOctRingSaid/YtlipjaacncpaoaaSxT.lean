/-
  Steps of a walk over the symbolic state: regions whose operations that turn memory may come in several orders. Ours; it knows no program.
-/
import Derived.Test.YtlipjaacncpaoaaSxQ
namespace Go.Sx
set_option linter.unusedVariables false
set_option linter.unusedSectionVars false
set_option linter.unusedSimpArgs false
variable [Gv]

section
variable {E : Env} {P : Program} {Q : Exit → Act → World → Prop} {s : St} {ops : Array Oper} {rest : List Oper} {o : Oper} {Bs : List Nat} {late pl : List (Nat × Nat)} {ix : Nat}

def planTo (ops : Array Oper) (late : List (Nat × Nat)) : List (Nat × Nat) → Array Bool → Option (Array Bool)
  | [], listed => some listed
  | (i, 0) :: r, listed => if (decide (Region.ready .any ops listed = [i])) = true then planTo ops late r (listed.setIfInBounds i true) else none
  | (i, 1) :: r, listed => if ((Region.ready .any ops listed).contains i && Region.free .any ops listed i && ((List.range ops.size).all fun j => listed.getD j true || j == i || levOf late j == 0 || waitsB ops i ops.size j)) = true then planTo ops late r (listed.setIfInBounds i true) else none
  | (i, _ + 2) :: r, listed => if ((Region.ready .any ops listed).contains i && Region.free .any ops listed i && ((List.range ops.size).all fun j => listed.getD j true || j == i || Nat.ble (levOf late j) 1 || waitsB ops i ops.size j)) = true then planTo ops late r (listed.setIfInBounds i true) else none

def wpPlanA (P : Program) (ops : Array Oper) (Q : Exit → Act → World → Prop) (Bs : List Nat) (late : List (Nat × Nat)) (K : Act → World → Prop) : List (Nat × Nat) → Act → World → Prop := wpPlan P ops (Exit.then K Q) Bs late

def planToOk (ops : Array Oper) (late plan : List (Nat × Nat)) (f : Nat) (last : Array Bool) : Bool :=
  Region.noSelect ops && decide (f + plan.length = ops.size) && decide (planTo ops late plan (Array.replicate ops.size false) = some last)
abbrev AX (E : Env) (P : Program) (ops : Array Oper) (Q : Exit → Act → World → Prop) (Bs : List Nat) (late : List (Nat × Nat)) (f : Nat) (listed : Array Bool) (s : St) : Prop := TX E (wpAnyX P ops Q Bs (levOf late) f listed) s

def AllOf (E : Env) (P : Program) (ops : Array Oper) (Q : Exit → Act → World → Prop) (Bs : List Nat) (late : List (Nat × Nat)) (f : Nat) (listed : Array Bool) (s : St) : List Nat → Prop
  | [] => True
  | i :: r => TX E (fun a w => wpOp P ops (noPanic Q) i (fun a' w' => Lev Bs (levOf late i) w w' ∧ wpAnyX P ops Q Bs (levOf late) f (listed.setIfInBounds i true) a' w') a w) s ∧ AllOf E P ops Q Bs late f listed s r
abbrev NX (E : Env) (P : Program) (ops : Array Oper) (Q : Exit → Act → World → Prop) (Bs : List Nat) (late : List (Nat × Nat)) (f : Nat) (listed : Array Bool) (i : Nat) (s : St) : Prop :=
  TX E (fun a w => wpOp P ops (noPanic Q) i (fun a' w' => Lev Bs (levOf late i) w w' ∧ wpAnyX P ops Q Bs (levOf late) f (listed.setIfInBounds i true) a' w') a w) s
theorem all_cons {f : Nat} {listed : Array Bool} {i : Nat} {is : List Nat} (h : NX E P ops Q Bs late f listed i s) (h' : AllOf E P ops Q Bs late f listed s is) : AllOf E P ops Q Bs late f listed s (i :: is) := ⟨h, h'⟩

def firstOk (ops : Array Oper) (late : List (Nat × Nat)) (fl i : Nat) (listed : Array Bool) : Bool :=
  Region.noSelect ops && decide (listed.size = ops.size) && ((List.range ops.size).all fun j => !(listed.getD j false) || ((ops[j]?).map fun o => o.after.all fun e => !(Region.binds .any e) || listed.getD e.on false).getD true) &&
  (Region.ready .any ops listed).contains i && Region.free .any ops listed i && ((List.range ops.size).all fun j => listed.getD j true || j == i || Nat.ble (levOf late j + 1) fl || waitsB ops i ops.size j)
def OXV (E : Env) (P : Program) (o : Oper) (i : Nat) {X : Type} (S : X → St) (s : St) : Prop :=
  ∀ (Q : Exit → Act → World → Prop) a w U, SymAt E s a w U → ∀ K : Act → World → Prop, (∀ x a' w', Sym E (S x) a' w' → (∀ r, s.H[i]? = some r → ∀ k, k < w.heap.size → k ∉ r.blk → w'.heap[k]? = w.heap[k]?) → K a' w') → o.wp P a w K Q
section
variable {dst : Option Tmp} {ty : TypeId} {pos : String} {af : Array Edge} {g : Option (Nat × Bool)}
end
def BsOut (H : List Res) (i : Nat) (Bs : List Nat) : Prop := ∀ b ∈ Bs, ∃ (m : Nat) (r : Res), m ≠ i ∧ H[m]? = some r ∧ b ∈ r.blk
def BsOutL (H : List Res) (is : List Nat) (Bs : List Nat) : Prop := ∀ b ∈ Bs, ∃ (m : Nat) (r : Res), m ∉ is ∧ H[m]? = some r ∧ b ∈ r.blk
def OXB (E : Env) (P : Program) (o : Oper) (HA : List Res) {X : Type} (S : X → St) (s : St) : Prop :=
  ∀ (Q : Exit → Act → World → Prop) a w U, SymAt E s a w U → ∀ K : Act → World → Prop, (∀ x a' w', Sym E (S x) a' w' → Ext (HA.flatMap Res.blk) w w' → K a' w') → o.wp P a w K Q
section
variable {dst : Option Tmp} {ty : TypeId} {pos : String} {af : Array Edge} {g : Option (Nat × Bool)}
end

/-! #### readers of nothing but slots -/
variable {dst : Option Tmp} {ty : TypeId} {pos : String} {af : Array Edge} {g : Option (Nat × Bool)}
def fmax3 (x y z : Nat) : Option Nat := (fmax x y).bind fun t => fmax t z
section
variable {dst : Option Tmp} {ty : TypeId} {pos : String} {af : Array Edge} {g : Option (Nat × Bool)}
end
/-! #### loops whose rounds are told one by one -/
end
/-! #### nothing is appended to nil -/
section
variable {P : Program} {s : St} {dst : Option Tmp} {ty : TypeId} {pos : String} {af : Array Edge} {g : Option (Nat × Bool)}
end
/-! #### a type that does not have an interface's methods -/
end Go.Sx
