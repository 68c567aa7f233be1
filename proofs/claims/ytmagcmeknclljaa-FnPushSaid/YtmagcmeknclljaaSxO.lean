/-
  Steps of a walk over the symbolic state: floats up to the bits of a NaN. Ours; it knows no program.
-/
import Derived.Test.YtmagcmeknclljaaSxN
namespace Go.Sx
set_option linter.unusedVariables false
set_option linter.unusedSectionVars false
set_option linter.unusedSimpArgs false
variable [Gv]

def isn (x : Nat) : Bool := (FloatKind.f64.decode x).isNaN
def qn : Nat := 9221120237041090561
def Fl (x : Nat) : SV := ⟨fun _ _ v => ∃ y, v = .float .f64 y ∧ (y = x ∨ (isn x = true ∧ isn y = true)), fun _ _ h => h⟩
theorem all2c_imp {w : World} {U : Nat → Prop} : ∀ {l m : List SV} {vs : List Value}, All2 Imp l m → All2 (fun s v => s.C w U v) l vs → All2 (fun s v => s.C w U v) m vs
  | [], [], [], _, _ => trivial
  | _ :: _, _ :: _, _ :: _, h, k => ⟨⟨h.1 _ _ _ k.1.1, k.1.2⟩, all2c_imp h.2 k.2⟩
  | [], _ :: _, _, h, _ => h.elim
  | _ :: _, [], _, h, _ => h.elim
  | [], [], _ :: _, _, k => k.elim
  | _ :: _, _ :: _, [], _, k => k.elim
theorem imp_ag {l m : List SV} (h : All2 Imp l m) : Imp (Ag l) (Ag m) := fun w U v ⟨vs, e, hv⟩ => ⟨vs, e, all2c_imp h hv⟩
def num (x : Nat) : Option Nat := if isn x = true then none else some x
def gadd (x y : Nat) : Nat := (fadd x y).getD qn
def gsub (x y : Nat) : Nat := (fsub x y).getD qn
def gmul (x y : Nat) : Nat := (fmul x y).getD qn
def gdiv (x y : Nat) : Nat := (fdiv x y).getD qn
def gsqrt (x : Nat) : Nat := (fsqrt x).getD qn
def gint (way : Ieee.Toward) (x : Nat) : Nat := (fint way x).getD qn

def FlIn (L : List (Nat × SV)) (X : Operand) (x : Nat) : Prop := ∃ sv, ev L X = some sv ∧ Imp sv (Fl x)
section
variable {E : Env} {P : Program} {s : St} {dst : Option Tmp} {ty : TypeId} {pos : String} {af : Array Edge} {g : Option (Nat × Bool)}

def fop : BinOp → Nat → Nat → Option Nat
  | .add, x, y => fadd x y
  | .sub, x, y => fsub x y
  | .mul, x, y => fmul x y
  | .quo, x, y => fdiv x y
  | _, _, _ => none
theorem tx_slot {K' : Act → World → Prop} (t : Nat) {x y : SV} (ht : look s.L t = some x) (hi : Imp x y) (k : TX E K' { s with L := (t, y) :: s.L }) : TX E K' s := fun a w ⟨U, hs⟩ => k a w ⟨U, hs.imp ht hi⟩
def RunsF (P : Program) (e : Sem Next) (x : SV) : Prop := ∀ w U, ∃ v w', e.run P w = .ok (.value v) w' ∧ (w' = w ∨ w' = w.drew) ∧ x.R w' U v
end
end Go.Sx
