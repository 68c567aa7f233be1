/-
  Library functions without a Go body; structs compared. Ours; it knows no program.
-/
import Derived.Test.YtjgpiealnfbkcaaSxG
import Derived.Laws.StructEq
namespace Go.Sx
set_option linter.unusedVariables false
set_option linter.unusedSectionVars false
set_option linter.unusedSimpArgs false
variable [Gv]

/-! ### functions without a Go body -/
def fint (way : Ieee.Toward) (x : Nat) : Option Nat :=
  match FloatKind.f64.decode x with
  | .nan s t => if FloatKind.f64.format.quiet t = t then some x else none
  | d => some (FloatKind.f64.encode (d.integral way))
def fsqrt (x : Nat) : Option Nat := FloatKind.f64.format.sqrt x
def fbits (x : Nat) : Int := x
def ffrom (n : Int) : Nat := n.toNat

section
variable {P : Program} {f : Nat} {fn : Func} {e : Array Value → Sem Value}
theorem ru_ext (hf : P.funcs[f]? = some fn) (hn : (fn.name == "runtime.NumGoroutine") = false) (hb : fn.body.isNone = true) (hx : Extern.findNext fn = none) (he : Extern.find fn = some e) {args : Array Value} {v : Value}
    (hr : Runs P (e args) v) : Runs P (callFunc f args) (.value v) := fun w => by
  have hn' : ¬ fn.name = "runtime.NumGoroutine" := by simpa using hn
  have hb' : fn.body = none := by simpa using hb
  simp [callFunc, hf, hn', hb', hx, he, hr w]
end

/-! ### hypot -/
def fhypot (x y : Nat) : Option Nat :=
  if x % 2 ^ 63 = Extern.MathAsm.posInf ∨ y % 2 ^ 63 = Extern.MathAsm.posInf then none
  else if x % 2 ^ 63 > Extern.MathAsm.posInf ∨ y % 2 ^ 63 > Extern.MathAsm.posInf then none
  else if x % 2 ^ 63 = 0 ∧ y % 2 ^ 63 = 0 then some 0
  else (fdiv (if Extern.MathAsm.lt (x % 2 ^ 63) (y % 2 ^ 63) then x % 2 ^ 63 else y % 2 ^ 63) (if Extern.MathAsm.lt (x % 2 ^ 63) (y % 2 ^ 63) then y % 2 ^ 63 else x % 2 ^ 63)).bind fun r =>
    (fmul r r).bind fun m => (fadd m Extern.MathAsm.one).bind fun a => (fsqrt a).bind fun s => fmul s (if Extern.MathAsm.lt (x % 2 ^ 63) (y % 2 ^ 63) then y % 2 ^ 63 else x % 2 ^ 63)
section
variable {P : Program}
end

/-! ### structs compared -/
def Eqt (P : Program) (d : Nat) (t : TypeId) (x y : Value) (b : Bool) : Prop := Runs P (Op.equalIn d t x y) b
def Eqf (P : Program) (d : Nat) (xs ys : List Value) (fs : List Field) (b : Bool) : Prop := Runs P (Op.eqFields d ⟨xs⟩ ⟨ys⟩ fs) b
section
variable {P : Program} {d : Nat} {t : TypeId}
end

section
variable {P : Program} {s : St} {dst : Option Tmp} {ty : TypeId} {pos : String} {af : Array Edge} {g : Option (Nat × Bool)}
end
end Go.Sx
