/-
  Library functions without a Go body; structs compared. Ours; it knows no program.
-/
import Derived.Test.YthobbfpoooommaaGreatSxG
import Derived.Laws.StructEq
namespace Go.Sx
set_option linter.unusedVariables false
set_option linter.unusedSectionVars false
set_option linter.unusedSimpArgs false
variable [Gv]

/-! ### functions without a Go body -/
def fint (way : Ieee.Toward) (x : Nat) : Option Nat :=
  match FloatKind.f64.decode x with
  | .nan s t => if FloatKind.f64.format.quiet t = t then some x else none
  | d => some (FloatKind.f64.encode (d.integral way))
def fsqrt (x : Nat) : Option Nat := FloatKind.f64.format.sqrt x
def fbits (x : Nat) : Int := x
def ffrom (n : Int) : Nat := n.toNat

section
variable {P : Program} {f : Nat} {fn : Func} {e : Array Value → Sem Value}
theorem ru_ext (hf : P.funcs[f]? = some fn) (hn : (fn.name == "runtime.NumGoroutine") = false) (hb : fn.body.isNone = true) (hx : Extern.findNext fn = none) (he : Extern.find fn = some e) {args : Array Value} {v : Value}
    (hr : Runs P (e args) v) : Runs P (callFunc f args) (.value v) := fun w => by
  have hn' : ¬ fn.name = "runtime.NumGoroutine" := by simpa using hn
  have hb' : fn.body = none := by simpa using hb
  simp [callFunc, hf, hn', hb', hx, he, hr w]
theorem ex_bits {x : Nat} : Runs P (Extern.MathFloatBits.float64bits #[.float .f64 x]) (.int .u64 (fbits x)) := fun w => rfl
theorem ex_from {n : Int} : Runs P (Extern.MathFloatBits.float64frombits #[.int .u64 n]) (.float .f64 (ffrom n)) := fun w => rfl
end

/-! ### hypot -/
def fhypot (x y : Nat) : Option Nat :=
  if x % 2 ^ 63 = Extern.MathAsm.posInf ∨ y % 2 ^ 63 = Extern.MathAsm.posInf then none
  else if x % 2 ^ 63 > Extern.MathAsm.posInf ∨ y % 2 ^ 63 > Extern.MathAsm.posInf then none
  else if x % 2 ^ 63 = 0 ∧ y % 2 ^ 63 = 0 then some 0
  else (fdiv (if Extern.MathAsm.lt (x % 2 ^ 63) (y % 2 ^ 63) then x % 2 ^ 63 else y % 2 ^ 63) (if Extern.MathAsm.lt (x % 2 ^ 63) (y % 2 ^ 63) then y % 2 ^ 63 else x % 2 ^ 63)).bind fun r =>
    (fmul r r).bind fun m => (fadd m Extern.MathAsm.one).bind fun a => (fsqrt a).bind fun s => fmul s (if Extern.MathAsm.lt (x % 2 ^ 63) (y % 2 ^ 63) then y % 2 ^ 63 else x % 2 ^ 63)
section
variable {P : Program}
end

/-! ### structs compared -/
def Eqt (P : Program) (d : Nat) (t : TypeId) (x y : Value) (b : Bool) : Prop := Runs P (Op.equalIn d t x y) b
def Eqf (P : Program) (d : Nat) (xs ys : List Value) (fs : List Field) (b : Bool) : Prop := Runs P (Op.eqFields d ⟨xs⟩ ⟨ys⟩ fs) b
section
variable {P : Program} {d : Nat} {t : TypeId}
theorem eqt_flt {x y : Nat} (h : P.underlying t = some (.float .f64)) : Eqt P (d + 1) t (.float .f64 x) (.float .f64 y) (feq x y) := fun w => by
  simp [Op.equalIn, run_underlying h, Op.floatEq, feq]
theorem eqt_struct {xs ys : List Value} {fs : List Field} {b : Bool} (h : P.underlying t = some (.struct ⟨fs⟩)) (hs : P.stoodInHeld t = false) (hf : Eqf P d xs ys fs b) : Eqt P (d + 1) t (.agg ⟨xs⟩) (.agg ⟨ys⟩) b := fun w => by
  have hfs : P.fieldsOf t = ⟨fs⟩ := by simp [Program.fieldsOf, h]
  rw [run_equalIn_struct w d t ⟨xs⟩ ⟨ys⟩ (by rw [hfs]; exact h) hs, hfs]
  exact hf w
theorem eqf_nil {xs ys : List Value} : Eqf P d xs ys [] true := fun w => rfl
theorem eqf_cons {xs ys : List Value} {f : Field} {fs : List Field} {x y : Value} {b c : Bool} (hn : (f.name == "_") = false) (hx : Runs P (part f.type ⟨xs⟩ f.offset) x) (hy : Runs P (part f.type ⟨ys⟩ f.offset) y)
    (h : Eqt P d f.type x y b) (hr : Eqf P d xs ys fs c) : Eqf P d xs ys (f :: fs) (b && c) := fun w => by
  have hn' : f.name ≠ "_" := by simpa using hn
  simp only [Op.eqFields, hn', ne_eq, not_false_eq_true, if_true, Sem.run_bind, hx w, hy w, Result.andThen_ok]
  rw [h w]
  cases b
  · simp
  · simpa using hr w
theorem part_flat {xs : List Value} {o : Nat} {x : Value} (hf : Flat P t) (h : xs[o]? = some x) : Runs P (part t ⟨xs⟩ o) x := fun w => by
  simp [part, run_isAgg_flat hf, h]
end

theorem ag_vl {w : World} {U : Nat → Prop} {us : List Value} {v : Value} (h : (Ag (us.map Vl)).R w U v) : v = .agg ⟨us⟩ := by
  obtain ⟨vs, e, h⟩ := h
  have key : ∀ (us vs : List Value), All2 (fun s v => s.C w U v) (us.map Vl) vs → vs = us := by
    intro us
    induction us with
    | nil => intro vs h; cases vs with | nil => rfl | cons _ _ => exact h.elim
    | cons u us ih => intro vs h; cases vs with | nil => exact h.elim | cons v vs => exact congr (congrArg _ h.1.1) (ih vs h.2)
  rw [e, key _ _ h]

section
variable {P : Program} {s : St} {dst : Option Tmp} {ty : TypeId} {pos : String} {af : Array Edge} {g : Option (Nat × Bool)}
theorem rd_eq_ag {t t2 : TypeId} {X Y : Operand} {us vs : List Value} {b : Bool} (hx : ev s.L X = some (Ag (us.map Vl))) (hy : ev s.L Y = some (Ag (vs.map Vl))) (hg : P.eqGuardType P.depth t = false) (h : Eqt P 10000 t (.agg ⟨us⟩) (.agg ⟨vs⟩) b) :
    Rd P s ⟨dst, .binOp .eql t X Y t2, ty, pos, af, g⟩ (Vl (.bool b)) := fun E a w U hs => by
  have e1 := ag_vl (look_ev hs hx)
  have e2 := ag_vl (look_ev hs hy)
  refine ⟨_, rfl, fun w' _ => ?_⟩
  have h' : (Op.equal t (.agg ⟨us⟩) (.agg ⟨vs⟩)).run P w' = .ok b w' := h w'
  simp [execOp, e1, e2, eqGuard, hg, binOp, h']
end
end Go.Sx
