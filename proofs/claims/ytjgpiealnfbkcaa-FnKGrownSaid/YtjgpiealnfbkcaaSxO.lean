/-
  Steps of a walk over the symbolic state: floats up to the bits of a NaN. Ours; it knows no program.
-/
import Derived.Test.YtjgpiealnfbkcaaSxN
namespace Go.Sx
set_option linter.unusedVariables false
set_option linter.unusedSectionVars false
set_option linter.unusedSimpArgs false
variable [Gv]

def isn (x : Nat) : Bool := (FloatKind.f64.decode x).isNaN
def qn : Nat := 9221120237041090561
theorem isn_qn : isn qn = true := by decide
def Fl (x : Nat) : SV := ⟨fun _ _ v => ∃ y, v = .float .f64 y ∧ (y = x ∨ (isn x = true ∧ isn y = true)), fun _ _ h => h⟩
theorem imp_vf {x : Nat} : Imp (Vl (.float .f64 x)) (Fl x) := fun w U v h => ⟨x, h, .inl rfl⟩
def num (x : Nat) : Option Nat := if isn x = true then none else some x
theorem isn_word (s : Bool) (t : Nat) (h0 : 0 < t) (h1 : t < 2 ^ 52) : isn (Ieee.double.word s (Ieee.double.infRung + t)) = true := by
  have hi : Ieee.double.infRung = 2047 * 2 ^ 52 := by decide
  have hb : Ieee.double.binade = 2 ^ 52 := by decide
  have hs : Ieee.double.signWeight = 2 ^ 63 := by decide
  unfold isn FloatKind.decode
  show (Ieee.double.read _).isNaN = true
  unfold Ieee.Format.read Ieee.Format.word
  rw [hs, hi, hb]
  have hr : (if s = true then 2 ^ 63 + (2047 * 2 ^ 52 + t) else 2047 * 2 ^ 52 + t) % 2 ^ 63 = 2047 * 2 ^ 52 + t := by cases s <;> simp <;> omega
  simp only [hr]
  rw [if_neg (by omega), if_neg (by omega), if_neg (by omega)]
  rfl
def gadd (x y : Nat) : Nat := (fadd x y).getD qn
def gsub (x y : Nat) : Nat := (fsub x y).getD qn
def gmul (x y : Nat) : Nat := (fmul x y).getD qn
def gdiv (x y : Nat) : Nat := (fdiv x y).getD qn
def gsqrt (x : Nat) : Nat := (fsqrt x).getD qn
def gint (way : Ieee.Toward) (x : Nat) : Nat := (fint way x).getD qn

theorem isn_datum {x : Nat} : isn x = true ↔ ∃ s t, FloatKind.f64.format.read x = .nan s t := by
  unfold isn FloatKind.decode
  cases h : FloatKind.f64.format.read x with
  | nan s t => simp [Ieee.Datum.isNaN]
  | infinity s => simp [Ieee.Datum.isNaN]
  | number s m i => simp [Ieee.Datum.isNaN]

theorem order_nan {x y : Nat} (h : isn x = true ∨ isn y = true) : FloatKind.f64.format.order x y = none := by
  unfold Ieee.Format.order
  rcases h with h | h
  · obtain ⟨s, t, e⟩ := isn_datum.1 h; rw [e]; simp [Ieee.Datum.order]
  · obtain ⟨s, t, e⟩ := isn_datum.1 h; rw [e]; cases FloatKind.f64.format.read x <;> simp [Ieee.Datum.order]

def FlIn (L : List (Nat × SV)) (X : Operand) (x : Nat) : Prop := ∃ sv, ev L X = some sv ∧ Imp sv (Fl x)
theorem fl_v {L : List (Nat × SV)} {X : Operand} {x : Nat} (h : ev L X = some (Vl (.float .f64 x))) : FlIn L X x := ⟨_, h, imp_vf⟩
theorem fl_f {L : List (Nat × SV)} {X : Operand} {x : Nat} (h : ev L X = some (Fl x)) : FlIn L X x := ⟨_, h, imp_refl⟩

section
variable {E : Env} {P : Program} {s : St} {dst : Option Tmp} {ty : TypeId} {pos : String} {af : Array Edge} {g : Option (Nat × Bool)}

theorem flIn_ev {a : Act} {w : World} {U : Nat → Prop} (hs : SymAt E s a w U) {X : Operand} {x : Nat} (h : FlIn s.L X x) : ∃ y, a.eval X = .float .f64 y ∧ (y = x ∨ (isn x = true ∧ isn y = true)) := by
  obtain ⟨sv, h1, h2⟩ := h
  exact h2 _ _ _ (look_ev hs h1)

def fop : BinOp → Nat → Nat → Option Nat
  | .add, x, y => fadd x y
  | .sub, x, y => fsub x y
  | .mul, x, y => fmul x y
  | .quo, x, y => fdiv x y
  | _, _, _ => none
theorem order_fl {x y x' y' : Nat} (hx : x' = x ∨ (isn x = true ∧ isn x' = true)) (hy : y' = y ∨ (isn y = true ∧ isn y' = true)) : FloatKind.f64.format.order x' y' = FloatKind.f64.format.order x y := by
  rcases hx with rfl | ⟨n1, n2⟩
  · rcases hy with rfl | ⟨m1, m2⟩
    · rfl
    · rw [order_nan (.inr m1), order_nan (.inr m2)]
  · rw [order_nan (.inl n1), order_nan (.inl n2)]
theorem rd_fcmp {op : BinOp} {tx t2 : TypeId} {X Y : Operand} {x y : Nat} {b : Bool} (hx : FlIn s.L X x) (hy : FlIn s.L Y y)
    (hb : (match op with | .eql => some (feq x y) | .neq => some (fne x y) | .lss => some (flt x y) | .leq => some (fle x y) | .gtr => some (fgt x y) | .geq => some (fge x y) | _ => none) = some b) :
    Rd P s ⟨dst, .binOp op tx X Y t2, ty, pos, af, g⟩ (Vl (.bool b)) := fun E a w U hs => by
  obtain ⟨x', ex, hx'⟩ := flIn_ev hs hx
  obtain ⟨y', ey, hy'⟩ := flIn_ev hs hy
  have ho := order_fl hx' hy'
  refine ⟨_, rfl, fun w' _ => ?_⟩
  cases op <;> simp only at hb <;> first | (cases hb; done) | (cases hb; simp [execOp, ex, ey, eqGuard, binOp, Op.floatCmp, ho, feq, fne, flt, fle, fgt, fge]) | (cases hb; simp [execOp, ex, ey, eqGuard, binOp, Op.floatEq, Op.floatCmp, ho, feq, fne, flt, fle, fgt, fge])

theorem neg_rung (x : Nat) : fneg x % 2 ^ 63 = x % 2 ^ 63 := by
  have e : fneg x = x ^^^ 2 ^ 63 := rfl
  rw [e, Nat.xor_mod_two_pow]; simp
theorem tx_slot {K' : Act → World → Prop} (t : Nat) {x y : SV} (ht : look s.L t = some x) (hi : Imp x y) (k : TX E K' { s with L := (t, y) :: s.L }) : TX E K' s := fun a w ⟨U, hs⟩ => k a w ⟨U, hs.imp ht hi⟩
theorem tx_cell {K' : Act → World → Prop} (i o : Nat) {x y : SV} {r : Res} (hi : s.H[i]? = some r) (ho : r.cs[o]? = some x) (hxy : Imp x y) {H' : List Res} (hH : s.H.set i { r with cs := r.cs.set o y } = H') (k : TX E K' { s with H := H' }) : TX E K' s := fun a w ⟨U, hs⟩ => by
  subst hH
  have hset : ∀ {cs : List SV} {o : Nat} {vs : List Value}, cs[o]? = some x → All2 (fun s v => s.C w U v) cs vs → All2 (fun s v => s.C w U v) (cs.set o y) vs := by
    intro cs
    induction cs with
    | nil => intro o vs h _; simp at h
    | cons c cs ih =>
      intro o vs h hv
      cases vs with
      | nil => exact hv.elim
      | cons v vs =>
        cases o with
        | zero =>
          simp at h; subst h
          exact ⟨⟨hxy _ _ _ hv.1.1, hv.1.2⟩, hv.2⟩
        | succ o => exact ⟨hv.1, ih (by simpa using h) hv.2⟩
  have hown : { r with cs := r.cs.set o y }.own w U := by
    have h := hs.own r (List.mem_of_getElem? hi)
    unfold Res.own at h ⊢
    split
    · rename_i hr
      have hr' : r.row = none := hr
      simp only [hr'] at h
      obtain ⟨b, vs, h1, h2, h3⟩ := h
      exact ⟨b, vs, h1, h2, hset ho h3⟩
    · rename_i sz hr
      have hr' : r.row = some sz := hr
      simp only [hr'] at h
      rcases h with ⟨h1, h2⟩ | ⟨b, n, cap, vs, sp, h1, h2, h3, h4, h5, h6⟩
      · rw [h2] at ho; simp at ho
      · exact .inr ⟨b, n, cap, vs, sp, h1, h2, hset ho h3, by simpa using h4, h5, h6⟩
  have := hs.reown hi { r with cs := r.cs.set o y } rfl hown rfl rfl rfl (Nat.le_refl _) (fun _ _ _ => rfl)
  exact k a w ⟨U, this⟩

/-! #### functions without a Go body, on floats up to the bits of a NaN -/
def RunsF (P : Program) (e : Sem Next) (x : SV) : Prop := ∀ w U, ∃ v w', e.run P w = .ok (.value v) w' ∧ (w' = w ∨ w' = w.drew) ∧ x.R w' U v
theorem ox_extf {d f : Nat} {fn : Func} {Xs : List Operand} {ts : Array TypeId} {x r : Nat} {X : Operand} (hX : Xs = [X]) (hx : FlIn s.L X x) (hf : P.funcs[f]? = some fn)
    (hr : ∀ y, (y = x ∨ (isn x = true ∧ isn y = true)) → RunsF P (callFunc f #[.float .f64 y]) (Fl r)) (hd : dst = some d) (hn : Nat.ble (d + 1) s.n = true) :
    OX E P ⟨dst, .call { callee := .value (.func f), args := ⟨Xs⟩, argTypes := ts }, ty, pos, af, g⟩ 0 (fun _ : Unit => { s with L := (d, Fl r) :: s.L }) s := fun Q a w U hs K k => by
  subst hX
  obtain ⟨y, ey, hy⟩ := flIn_ev hs hx
  obtain ⟨v, w', hrun, hw, hR⟩ := hr y hy w U
  have hexec : (execOp a.eval ⟨dst, .call { callee := .value (.func f), args := ⟨[X]⟩, argTypes := ts }, ty, pos, af, g⟩).run P w = .ok (.value v) w' := by
    have e0 : a.eval (.func f) = .func (.func f) #[] #[] := rfl
    simp [execOp, resolve, e0, Deferred.ofValue, invoke, ey, hrun]
  unfold Oper.wp
  rw [hexec]
  show K (a.put dst v) w'
  rw [hd]
  have hs' : SymAt E s a w' U ∧ Ext [] w w' := by
    rcases hw with rfl | rfl
    · exact ⟨hs, Ext.refl _ _⟩
    · exact ⟨hs.world (fun _ _ => rfl) (Nat.le_refl _) rfl rfl rfl, ⟨rfl, rfl, rfl, Nat.le_refl _, fun _ _ _ => rfl⟩⟩
  exact k () _ _ ⟨U, hs'.1.put hn hR⟩ (fun _ => hs'.2) (fun h => by cases h)

theorem runs_ext {f : Nat} {fn : Func} {e : Array Value → Sem Value} (hf : P.funcs[f]? = some fn) (hn : (fn.name == "runtime.NumGoroutine") = false) (hb : fn.body.isNone = true) (hx : Extern.findNext fn = none) (he : Extern.find fn = some e) {args : Array Value} {x : SV}
    (hr : ∀ w U, ∃ v w', (e args).run P w = .ok v w' ∧ (w' = w ∨ w' = w.drew) ∧ x.R w' U v) : RunsF P (callFunc f args) x := fun w U => by
  obtain ⟨v, w', h1, h2, h3⟩ := hr w U
  have hn' : ¬ fn.name = "runtime.NumGoroutine" := by simpa using hn
  have hb' : fn.body = none := by simpa using hb
  exact ⟨v, w', by simp [callFunc, hf, hn', hb', hx, he, h1], h2, h3⟩

theorem quiet_nan (s : Bool) (t : Nat) : isn (FloatKind.f64.encode (.nan s (FloatKind.f64.format.quiet t))) = true := by
  show isn (Ieee.double.word s (Ieee.double.infRung + (Ieee.double.quiet t) % Ieee.double.binade)) = true
  have hb : Ieee.double.binade = 2 ^ 52 := by decide
  rw [hb]
  refine isn_word s _ ?_ (Nat.mod_lt _ (by omega))
  have h1 : (Ieee.double.quiet t) % 2 ^ 52 = (t % 2 ^ 52) ||| 2 ^ 51 := by
    unfold Ieee.Format.quiet
    show (t ||| 2 ^ 51) % 2 ^ 52 = _
    rw [Nat.or_mod_two_pow]
  rw [h1]
  have := Nat.right_le_or (n := t % 2 ^ 52) (m := 2 ^ 51)
  omega

theorem gint_runs {nm : String} {way : Ieee.Toward} {x y : Nat} (hy : y = x ∨ (isn x = true ∧ isn y = true)) : ∀ w U, ∃ v w', (Extern.MathFloor.toIntegral nm way #[.float .f64 y]).run P w = .ok v w' ∧ (w' = w ∨ w' = w.drew) ∧ (Fl (gint way x)).R w' U v := by
  intro w U
  have e : Extern.MathFloor.toIntegral nm way #[.float .f64 y] = (match FloatKind.f64.decode y with
    | .nan s t => if FloatKind.f64.format.quiet t = t then pure (.float .f64 y) else do
        let kept ← choose (.extern "math.Floor,Ceil,Trunc,RoundToEven.signallingNaN kept" 2)
        pure (.float .f64 (if kept == 1 then y else FloatKind.f64.encode (.nan s (FloatKind.f64.format.quiet t))))
    | d => pure (.float .f64 (FloatKind.f64.encode (d.integral way)))) := rfl
  have hg : isn x = true → isn (gint way x) = true := by
    intro h
    unfold gint fint
    unfold isn at h
    cases hd : FloatKind.f64.decode x with
    | nan s t =>
      simp only
      split
      · show isn x = true; unfold isn; exact h
      · exact isn_qn
    | number s m i => rw [hd] at h; cases h
    | infinity s => rw [hd] at h; cases h
  rw [e]
  cases hd : FloatKind.f64.decode y with
  | nan s t =>
    have hny : isn y = true := by unfold isn; rw [hd]; rfl
    have hnx : isn x = true := by rcases hy with rfl | ⟨h, _⟩ <;> assumption
    have hgx := hg hnx
    simp only
    by_cases hq : FloatKind.f64.format.quiet t = t
    · rw [if_pos hq]
      exact ⟨_, w, rfl, .inl rfl, y, rfl, .inr ⟨hgx, hny⟩⟩
    · rw [if_neg hq]
      refine ⟨_, w.drew, by simp [Question.forced]; rfl, .inr rfl, _, rfl, .inr ⟨hgx, ?_⟩⟩
      split
      · exact hny
      · exact quiet_nan s t
  | number s m i =>
    have hny : isn y = false := by unfold isn; rw [hd]; rfl
    have hxy : y = x := by rcases hy with h | ⟨_, h⟩; exact h; rw [hny] at h; cases h
    subst hxy
    exact ⟨_, w, rfl, .inl rfl, _, rfl, .inl (by simp [gint, fint, hd])⟩
  | infinity s =>
    have hny : isn y = false := by unfold isn; rw [hd]; rfl
    have hxy : y = x := by rcases hy with h | ⟨_, h⟩; exact h; rw [hny] at h; cases h
    subst hxy
    exact ⟨_, w, rfl, .inl rfl, _, rfl, .inl (by simp [gint, fint, hd])⟩

end
end Go.Sx
