/-
  What single operations give on plain values; the plain functions that stand for them. Ours; it knows no program.
-/
import Derived.Test.YtjgpiealnfbkcaaSxD
namespace Go.Sx
set_option linter.unusedVariables false
set_option linter.unusedSectionVars false
set_option linter.unusedSimpArgs false
variable [Gv]

/-! ### the plain functions -/
def fadd (x y : Nat) : Option Nat := FloatKind.f64.format.add x y
def fsub (x y : Nat) : Option Nat := FloatKind.f64.format.sub x y
def fmul (x y : Nat) : Option Nat := FloatKind.f64.format.mul x y
def fdiv (x y : Nat) : Option Nat := FloatKind.f64.format.div x y
def feq (x y : Nat) : Bool := FloatKind.f64.format.order x y == some .eq
def fne (x y : Nat) : Bool := FloatKind.f64.format.order x y != some .eq
def flt (x y : Nat) : Bool := FloatKind.f64.format.order x y == some .lt
def fle (x y : Nat) : Bool := FloatKind.f64.format.order x y == some .lt || FloatKind.f64.format.order x y == some .eq
def fgt (x y : Nat) : Bool := FloatKind.f64.format.order x y == some .gt
def fge (x y : Nat) : Bool := FloatKind.f64.format.order x y == some .gt || FloatKind.f64.format.order x y == some .eq
def fneg (x : Nat) : Nat := Op.negFloat .f64 x
def f2i (k : IntKind) (x : Nat) : Option Int := floatToIntVal .f64 x k
def i2f (n : Int) : Nat := FloatKind.f64.nearest n
def iadd (k : IntKind) (a b : Int) : Int := k.wrap (a + b)
def isub (k : IntKind) (a b : Int) : Int := k.wrap (a - b)
def imul (k : IntKind) (a b : Int) : Int := k.wrap (a * b)
def iquo (k : IntKind) (a b : Int) : Option Int := if b = 0 then none else some (k.wrap (a.tdiv b))
def irem (a b : Int) : Option Int := if b = 0 then none else some (a.tmod b)
def iand (k : IntKind) (a b : Int) : Int := k.wrap (BitVec.ofInt k.bits a &&& BitVec.ofInt k.bits b).toNat
def ior (k : IntKind) (a b : Int) : Int := k.wrap (BitVec.ofInt k.bits a ||| BitVec.ofInt k.bits b).toNat
def ixor (k : IntKind) (a b : Int) : Int := k.wrap (BitVec.ofInt k.bits a ^^^ BitVec.ofInt k.bits b).toNat
def iandn (k : IntKind) (a b : Int) : Int := k.wrap (BitVec.ofInt k.bits a &&& ~~~ BitVec.ofInt k.bits b).toNat
def ishl (k : IntKind) (a b : Int) : Option Int := if b < 0 then none else some (k.wrap (a * 2 ^ (min b.toNat k.bits)))
def ishr (k : IntKind) (a b : Int) : Option Int := if b < 0 then none else some (a.fdiv (2 ^ (min b.toNat k.bits)))
def icv (k : IntKind) (a : Int) : Int := k.wrap a
def fmax (x y : Nat) : Option Nat := match FloatKind.f64.format.order x y with
  | none => none | some .lt => some y | some .gt => some x | some .eq => some (if (FloatKind.f64.decode x).neg then y else x)
def fmin (x y : Nat) : Option Nat := match FloatKind.f64.format.order x y with
  | none => none | some .lt => some x | some .gt => some y | some .eq => some (if (FloatKind.f64.decode x).neg then x else y)
def imax (x y : Int) : Int := if y > x then y else x
def imin (x y : Int) : Int := if y < x then y else x

section
variable {P : Program} {t : TypeId}
theorem eg_int {op : BinOp} {X Y : Operand} {k k' : IntKind} {a b : Int} : Runs P (eqGuard op t X Y (.int k a) (.int k' b)) () := fun w => by cases op <;> rfl
theorem eg_flt {op : BinOp} {X Y : Operand} {k k' : FloatKind} {a b : Nat} : Runs P (eqGuard op t X Y (.float k a) (.float k' b)) () := fun w => by cases op <;> rfl
variable {k : IntKind} {a b : Int}
theorem ru_add : Runs P (binOp .add t (.int k a) (.int k b)) (.int k (iadd k a b)) := fun w => by simp [binOp, Op.intArith, iadd]
theorem ru_rem {r : Int} (h : irem a b = some r) : Runs P (binOp .rem t (.int k a) (.int k b)) (.int k r) := fun w => by
  unfold irem at h; split at h
  · cases h
  · rename_i hb; cases h; simp [binOp, Op.intDiv, hb]
theorem ru_eql : Runs P (binOp .eql t (.int k a) (.int k b)) (.bool (decide (a = b))) := fun w => by simp [binOp, Op.intCmp]; rfl
theorem ru_neq : Runs P (binOp .neq t (.int k a) (.int k b)) (.bool (!decide (a = b))) := fun w => by simp [binOp, Op.intCmp]; rfl
theorem ru_lss : Runs P (binOp .lss t (.int k a) (.int k b)) (.bool (decide (a < b))) := fun w => by simp [binOp, Op.intCmp]
theorem ru_leq : Runs P (binOp .leq t (.int k a) (.int k b)) (.bool (decide (a ≤ b))) := fun w => by simp [binOp, Op.intCmp]
theorem ru_gtr : Runs P (binOp .gtr t (.int k a) (.int k b)) (.bool (decide (b < a))) := fun w => by simp [binOp, Op.intCmp]
theorem ru_geq : Runs P (binOp .geq t (.int k a) (.int k b)) (.bool (decide (b ≤ a))) := fun w => by simp [binOp, Op.intCmp]

variable {x y r : Nat}
theorem ru_fsub (h : fsub x y = some r) : Runs P (binOp .sub t (.float .f64 x) (.float .f64 y)) (.float .f64 r) := fun w => by unfold fsub at h; simp [binOp, Op.floatArith, h]
theorem ru_fne : Runs P (binOp .neq t (.float .f64 x) (.float .f64 y)) (.bool (fne x y)) := fun w => by simp [binOp, Op.floatCmp, fne]
theorem ru_fle : Runs P (binOp .leq t (.float .f64 x) (.float .f64 y)) (.bool (fle x y)) := fun w => by simp [binOp, Op.floatCmp, fle]
theorem ru_fge : Runs P (binOp .geq t (.float .f64 x) (.float .f64 y)) (.bool (fge x y)) := fun w => by simp [binOp, Op.floatCmp, fge]

variable {p q : Bool}
theorem ru_fneg : Runs P (Op.unary .neg (.float .f64 x)) (.float .f64 (fneg x)) := fun w => by simp [Op.unary, fneg]
theorem ru_not : Runs P (Op.unary .not (.bool p)) (.bool (!p)) := fun w => by simp [Op.unary]
variable {t1 t2 : TypeId} {k' : IntKind}
end

section
variable {P : Program} {s : St} {d : Option Tmp} {ty : TypeId} {pos : String} {af : Array Edge} {g : Option (Nat × Bool)}
theorem rd_ext {f : Nat} {Xs : List Operand} {ts : Array TypeId} {us : List Value} {v : Value} (ha : evs s.L Xs = some (us.map Vl)) (hr : Runs P (callFunc f us.toArray) (.value v)) :
    Rd P s ⟨d, .call { callee := .value (.func f), args := ⟨Xs⟩, argTypes := ts }, ty, pos, af, g⟩ (Vl v) := fun E a w U hs => by
  have hm : Xs.map a.eval = us := by
    have := evs_all2 hs ha
    have key : ∀ (us vs : List Value), All2 (fun x v => x.R w U v) (us.map Vl) vs → vs = us := by
      intro us
      induction us with
      | nil => intro vs h; cases vs with | nil => rfl | cons _ _ => exact h.elim
      | cons u us ih => intro vs h; cases vs with | nil => exact h.elim | cons v vs => exact congr (congrArg _ h.1) (ih vs h.2)
    exact key us _ this
  refine ⟨v, rfl, fun w' _ => ?_⟩
  have e : (execOp a.eval ⟨d, .call { callee := .value (.func f), args := ⟨Xs⟩, argTypes := ts }, ty, pos, af, g⟩).run P w' = (callFunc f (Xs.map a.eval).toArray).run P w' := by
    have hρ : a.eval (.func f) = .func (.func f) #[] #[] := rfl
    simp [execOp, resolve, hρ, Deferred.ofValue, invoke]
  rw [e, hm]
  exact hr w'
theorem rd_fmin {X Y : Operand} {x y r : Nat} {ts : Array TypeId} (hx : ev s.L X = some (Vl (.float .f64 x))) (hy : ev s.L Y = some (Vl (.float .f64 y))) (h : fmin x y = some r) :
    Rd P s ⟨d, .call { callee := .builtin .min, args := #[X, Y], argTypes := ts }, ty, pos, af, g⟩ (Vl (.float .f64 r)) := fun E a w U hs => by
  have e1 : a.eval X = .float .f64 x := look_ev hs hx
  have e2 : a.eval Y = .float .f64 y := look_ev hs hy
  refine ⟨_, rfl, fun w' _ => ?_⟩
  unfold fmin at h
  simp only [execOp, resolve, invoke, builtin, Builtin.min_, Builtin.min2, e1, e2, List.map_toArray, List.map_cons, List.map_nil, List.foldlM_cons, List.foldlM_nil]
  split at h <;> simp_all [Builtin.min2]
end
end Go.Sx
