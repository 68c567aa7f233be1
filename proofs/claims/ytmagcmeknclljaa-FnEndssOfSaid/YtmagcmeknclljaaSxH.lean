/-
  Library functions without a Go body; structs compared. Ours; it knows no program.
-/
import Derived.Test.YtmagcmeknclljaaSxG
import Derived.Laws.StructEq
namespace Go.Sx
set_option linter.unusedVariables false
set_option linter.unusedSectionVars false
set_option linter.unusedSimpArgs false
variable [Gv]

/-! ### functions without a Go body -/
def fint (way : Ieee.Toward) (x : Nat) : Option Nat :=
  match FloatKind.f64.decode x with
  | .nan s t => if FloatKind.f64.format.quiet t = t then some x else none
  | d => some (FloatKind.f64.encode (d.integral way))
def fsqrt (x : Nat) : Option Nat := FloatKind.f64.format.sqrt x
def fbits (x : Nat) : Int := x
def ffrom (n : Int) : Nat := n.toNat

section
variable {P : Program} {f : Nat} {fn : Func} {e : Array Value → Sem Value}
theorem ru_ext (hf : P.funcs[f]? = some fn) (hn : (fn.name == "runtime.NumGoroutine") = false) (hb : fn.body.isNone = true) (hx : Extern.findNext fn = none) (he : Extern.find fn = some e) {args : Array Value} {v : Value}
    (hr : Runs P (e args) v) : Runs P (callFunc f args) (.value v) := fun w => by
  have hn' : ¬ fn.name = "runtime.NumGoroutine" := by simpa using hn
  have hb' : fn.body = none := by simpa using hb
  simp [callFunc, hf, hn', hb', hx, he, hr w]
theorem ex_int {nm : String} {way : Ieee.Toward} {x r : Nat} (h : fint way x = some r) : Runs P (Extern.MathFloor.toIntegral nm way #[.float .f64 x]) (.float .f64 r) := fun w => by
  have e : Extern.MathFloor.toIntegral nm way #[.float .f64 x] = (match FloatKind.f64.decode x with
    | .nan s t => if FloatKind.f64.format.quiet t = t then pure (.float .f64 x) else do
        let kept ← choose (.extern "math.Floor,Ceil,Trunc,RoundToEven.signallingNaN kept" 2)
        pure (.float .f64 (if kept == 1 then x else FloatKind.f64.encode (.nan s (FloatKind.f64.format.quiet t))))
    | d => pure (.float .f64 (FloatKind.f64.encode (d.integral way)))) := rfl
  rw [e]
  unfold fint at h
  cases hdd : FloatKind.f64.decode x with
  | nan s t =>
    rw [hdd] at h
    simp only at h ⊢
    split at h
    · rename_i hq; cases h; rw [if_pos hq]; rfl
    · cases h
  | number s m i => rw [hdd] at h; cases h; rfl
  | infinity s => rw [hdd] at h; cases h; rfl
theorem ex_sqrt {x r : Nat} (h : fsqrt x = some r) : Runs P (Extern.MathSqrt.sqrt #[.float .f64 x]) (.float .f64 r) := fun w => by
  have e : Extern.MathSqrt.sqrt #[.float .f64 x] = (match FloatKind.f64.format.sqrt x with
    | some r => pure (.float .f64 r)
    | none => do pure (.float .f64 (← choose (.nanBits .f64 x x)))) := rfl
  unfold fsqrt at h
  rw [e, h]; rfl
theorem ex_bits {x : Nat} : Runs P (Extern.MathFloatBits.float64bits #[.float .f64 x]) (.int .u64 (fbits x)) := fun w => rfl
theorem ex_from {n : Int} : Runs P (Extern.MathFloatBits.float64frombits #[.int .u64 n]) (.float .f64 (ffrom n)) := fun w => rfl
end

/-! ### hypot -/
def fhypot (x y : Nat) : Option Nat :=
  if x % 2 ^ 63 = Extern.MathAsm.posInf ∨ y % 2 ^ 63 = Extern.MathAsm.posInf then none
  else if x % 2 ^ 63 > Extern.MathAsm.posInf ∨ y % 2 ^ 63 > Extern.MathAsm.posInf then none
  else if x % 2 ^ 63 = 0 ∧ y % 2 ^ 63 = 0 then some 0
  else (fdiv (if Extern.MathAsm.lt (x % 2 ^ 63) (y % 2 ^ 63) then x % 2 ^ 63 else y % 2 ^ 63) (if Extern.MathAsm.lt (x % 2 ^ 63) (y % 2 ^ 63) then y % 2 ^ 63 else x % 2 ^ 63)).bind fun r =>
    (fmul r r).bind fun m => (fadd m Extern.MathAsm.one).bind fun a => (fsqrt a).bind fun s => fmul s (if Extern.MathAsm.lt (x % 2 ^ 63) (y % 2 ^ 63) then y % 2 ^ 63 else x % 2 ^ 63)
section
variable {P : Program}
theorem as_add {x y r : Nat} (h : fadd x y = some r) : Runs P (Extern.MathAsm.add x y) r := fun w => by unfold fadd at h; simp [Extern.MathAsm.add, Extern.MathAsm.arith, Op.floatArith, h]
theorem as_mul {x y r : Nat} (h : fmul x y = some r) : Runs P (Extern.MathAsm.mul x y) r := fun w => by unfold fmul at h; simp [Extern.MathAsm.mul, Extern.MathAsm.arith, Op.floatArith, h]
theorem as_div {x y r : Nat} (h : fdiv x y = some r) : Runs P (Extern.MathAsm.div x y) r := fun w => by unfold fdiv at h; simp [Extern.MathAsm.div, Extern.MathAsm.arith, Op.floatArith, h]
theorem ex_hypot {x y r : Nat} (h : fhypot x y = some r) : Runs P (Extern.MathHypot.archHypot #[.float .f64 x, .float .f64 y]) (.float .f64 r) := fun w => by
  have e : Extern.MathHypot.archHypot #[.float .f64 x, .float .f64 y] = (if x % 2 ^ 63 == Extern.MathAsm.posInf || y % 2 ^ 63 == Extern.MathAsm.posInf then pure (.float .f64 Extern.MathAsm.posInf)
      else if x % 2 ^ 63 > Extern.MathAsm.posInf || y % 2 ^ 63 > Extern.MathAsm.posInf then pure (.float .f64 Extern.MathAsm.nan)
      else if x % 2 ^ 63 == 0 && y % 2 ^ 63 == 0 then pure (.float .f64 0)
      else match (if Extern.MathAsm.lt (x % 2 ^ 63) (y % 2 ^ 63) then (y % 2 ^ 63, x % 2 ^ 63) else (x % 2 ^ 63, y % 2 ^ 63)) with
        | (big, small) => do
          let r ← Extern.MathAsm.div small big
          let r ← Extern.MathAsm.add (← Extern.MathAsm.mul r r) Extern.MathAsm.one
          match ← Extern.MathSqrt.sqrt #[.float .f64 r] with
          | .float _ r => do pure (.float .f64 (← Extern.MathAsm.mul r big))
          | _ => stuck "sqrt: a float expected") := rfl
  unfold fhypot at h
  rw [e]; clear e
  generalize x % 2 ^ 63 = p at h ⊢
  generalize y % 2 ^ 63 = q at h ⊢
  split at h
  · cases h
  rename_i h1
  split at h
  · cases h
  rename_i h2
  have e1 : (p == Extern.MathAsm.posInf || q == Extern.MathAsm.posInf) = false := by simpa using h1
  have e2 : (decide (p > Extern.MathAsm.posInf) || decide (q > Extern.MathAsm.posInf)) = false := by simp only [not_or] at h2; simp [h2.1, h2.2]
  simp only [e1, e2, Bool.or_eq_true, Bool.and_eq_true, beq_iff_eq, decide_eq_true_eq, if_neg h1, if_neg h2]
  split at h
  · rename_i h3; cases h; simp [h3]
  · rename_i h3
    simp only [if_neg h3]
    obtain ⟨a, ha, h⟩ := Option.bind_eq_some_iff.1 h
    obtain ⟨m, hm, h⟩ := Option.bind_eq_some_iff.1 h
    obtain ⟨s, hs, h⟩ := Option.bind_eq_some_iff.1 h
    obtain ⟨t, ht, h⟩ := Option.bind_eq_some_iff.1 h
    cases hl : Extern.MathAsm.lt p q <;> simp only [hl, if_true, Bool.false_eq_true, if_false] at ha h ⊢
    all_goals
      simp only [Sem.run_bind, as_div ha w, as_mul hm w, as_add hs w, ex_sqrt ht w, as_mul h w, Result.andThen_ok, Sem.run_pure]
end

/-! ### structs compared -/
def Eqt (P : Program) (d : Nat) (t : TypeId) (x y : Value) (b : Bool) : Prop := Runs P (Op.equalIn d t x y) b
def Eqf (P : Program) (d : Nat) (xs ys : List Value) (fs : List Field) (b : Bool) : Prop := Runs P (Op.eqFields d ⟨xs⟩ ⟨ys⟩ fs) b
section
variable {P : Program} {d : Nat} {t : TypeId}
theorem eqt_flt {x y : Nat} (h : P.underlying t = some (.float .f64)) : Eqt P (d + 1) t (.float .f64 x) (.float .f64 y) (feq x y) := fun w => by
  simp [Op.equalIn, run_underlying h, Op.floatEq, feq]
theorem eqt_int {k k' : IntKind} {x y : Int} (h : P.underlying t = some (.int k')) : Eqt P (d + 1) t (.int k x) (.int k y) (decide (x = y)) := fun w => by
  have := run_equalIn_int (P := P) w d t k k' x y h
  rw [this]; congr 1
theorem eqt_bool {x y : Bool} (h : P.underlying t = some .bool) : Eqt P (d + 1) t (.bool x) (.bool y) (x == y) := fun w => run_equalIn_bool w d t x y h
theorem eqt_struct {xs ys : List Value} {fs : List Field} {b : Bool} (h : P.underlying t = some (.struct ⟨fs⟩)) (hs : P.stoodInHeld t = false) (hf : Eqf P d xs ys fs b) : Eqt P (d + 1) t (.agg ⟨xs⟩) (.agg ⟨ys⟩) b := fun w => by
  have hfs : P.fieldsOf t = ⟨fs⟩ := by simp [Program.fieldsOf, h]
  rw [run_equalIn_struct w d t ⟨xs⟩ ⟨ys⟩ (by rw [hfs]; exact h) hs, hfs]
  exact hf w
theorem eqf_nil {xs ys : List Value} : Eqf P d xs ys [] true := fun w => rfl
theorem eqf_cons {xs ys : List Value} {f : Field} {fs : List Field} {x y : Value} {b c : Bool} (hn : (f.name == "_") = false) (hx : Runs P (part f.type ⟨xs⟩ f.offset) x) (hy : Runs P (part f.type ⟨ys⟩ f.offset) y)
    (h : Eqt P d f.type x y b) (hr : Eqf P d xs ys fs c) : Eqf P d xs ys (f :: fs) (b && c) := fun w => by
  have hn' : f.name ≠ "_" := by simpa using hn
  simp only [Op.eqFields, hn', ne_eq, not_false_eq_true, if_true, Sem.run_bind, hx w, hy w, Result.andThen_ok]
  rw [h w]
  cases b
  · simp
  · simpa using hr w
theorem part_flat {xs : List Value} {o : Nat} {x : Value} (hf : Flat P t) (h : xs[o]? = some x) : Runs P (part t ⟨xs⟩ o) x := fun w => by
  simp [part, run_isAgg_flat hf, h]
theorem part_agg {xs ys : List Value} {o n : Nat} (hf : Agg P t n) (h : (xs.drop o).take n = ys) : Runs P (part t ⟨xs⟩ o) (.agg ⟨ys⟩) := fun w => by
  subst h
  simp [part, run_isAgg_agg hf, run_size_agg hf]
end

theorem ag_vl {w : World} {U : Nat → Prop} {us : List Value} {v : Value} (h : (Ag (us.map Vl)).R w U v) : v = .agg ⟨us⟩ := by
  obtain ⟨vs, e, h⟩ := h
  have key : ∀ (us vs : List Value), All2 (fun s v => s.C w U v) (us.map Vl) vs → vs = us := by
    intro us
    induction us with
    | nil => intro vs h; cases vs with | nil => rfl | cons _ _ => exact h.elim
    | cons u us ih => intro vs h; cases vs with | nil => exact h.elim | cons v vs => exact congr (congrArg _ h.1.1) (ih vs h.2)
  rw [e, key _ _ h]

section
variable {P : Program} {s : St} {dst : Option Tmp} {ty : TypeId} {pos : String} {af : Array Edge} {g : Option (Nat × Bool)}
theorem rd_eq_ag {t t2 : TypeId} {X Y : Operand} {us vs : List Value} {b : Bool} (hx : ev s.L X = some (Ag (us.map Vl))) (hy : ev s.L Y = some (Ag (vs.map Vl))) (hg : P.eqGuardType P.depth t = false) (h : Eqt P 10000 t (.agg ⟨us⟩) (.agg ⟨vs⟩) b) :
    Rd P s ⟨dst, .binOp .eql t X Y t2, ty, pos, af, g⟩ (Vl (.bool b)) := fun E a w U hs => by
  have e1 := ag_vl (look_ev hs hx)
  have e2 := ag_vl (look_ev hs hy)
  refine ⟨_, rfl, fun w' _ => ?_⟩
  have h' : (Op.equal t (.agg ⟨us⟩) (.agg ⟨vs⟩)).run P w' = .ok b w' := h w'
  simp [execOp, e1, e2, eqGuard, hg, binOp, h']
theorem rd_ne_ag {t t2 : TypeId} {X Y : Operand} {us vs : List Value} {b : Bool} (hx : ev s.L X = some (Ag (us.map Vl))) (hy : ev s.L Y = some (Ag (vs.map Vl))) (hg : P.eqGuardType P.depth t = false) (h : Eqt P 10000 t (.agg ⟨us⟩) (.agg ⟨vs⟩) b) :
    Rd P s ⟨dst, .binOp .neq t X Y t2, ty, pos, af, g⟩ (Vl (.bool (!b))) := fun E a w U hs => by
  have e1 := ag_vl (look_ev hs hx)
  have e2 := ag_vl (look_ev hs hy)
  refine ⟨_, rfl, fun w' _ => ?_⟩
  have h' : (Op.equal t (.agg ⟨us⟩) (.agg ⟨vs⟩)).run P w' = .ok b w' := h w'
  simp [execOp, e1, e2, eqGuard, hg, binOp, h']
end
end Go.Sx
