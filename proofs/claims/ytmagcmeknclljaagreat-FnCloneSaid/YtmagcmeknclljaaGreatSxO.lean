/-
  Steps of a walk over the symbolic state: floats up to the bits of a NaN. Ours; it knows no program.
-/
import Derived.Test.YtmagcmeknclljaaGreatSxN
namespace Go.Sx
set_option linter.unusedVariables false
set_option linter.unusedSectionVars false
set_option linter.unusedSimpArgs false
variable [Gv]

def isn (x : Nat) : Bool := (FloatKind.f64.decode x).isNaN
def qn : Nat := 9221120237041090561
def Fl (x : Nat) : SV := ⟨fun _ _ v => ∃ y, v = .float .f64 y ∧ (y = x ∨ (isn x = true ∧ isn y = true)), fun _ _ h => h⟩
theorem all2c_imp {w : World} {U : Nat → Prop} : ∀ {l m : List SV} {vs : List Value}, All2 Imp l m → All2 (fun s v => s.C w U v) l vs → All2 (fun s v => s.C w U v) m vs
  | [], [], [], _, _ => trivial
  | _ :: _, _ :: _, _ :: _, h, k => ⟨⟨h.1 _ _ _ k.1.1, k.1.2⟩, all2c_imp h.2 k.2⟩
  | [], _ :: _, _, h, _ => h.elim
  | _ :: _, [], _, h, _ => h.elim
  | [], [], _ :: _, _, k => k.elim
  | _ :: _, _ :: _, [], _, k => k.elim
theorem imp_ag {l m : List SV} (h : All2 Imp l m) : Imp (Ag l) (Ag m) := fun w U v ⟨vs, e, hv⟩ => ⟨vs, e, all2c_imp h hv⟩
def num (x : Nat) : Option Nat := if isn x = true then none else some x
def gadd (x y : Nat) : Nat := (fadd x y).getD qn
def gsub (x y : Nat) : Nat := (fsub x y).getD qn
def gmul (x y : Nat) : Nat := (fmul x y).getD qn
def gdiv (x y : Nat) : Nat := (fdiv x y).getD qn
def gsqrt (x : Nat) : Nat := (fsqrt x).getD qn
def gint (way : Ieee.Toward) (x : Nat) : Nat := (fint way x).getD qn

def FlIn (L : List (Nat × SV)) (X : Operand) (x : Nat) : Prop := ∃ sv, ev L X = some sv ∧ Imp sv (Fl x)
section
variable {E : Env} {P : Program} {s : St} {dst : Option Tmp} {ty : TypeId} {pos : String} {af : Array Edge} {g : Option (Nat × Bool)}

def fop : BinOp → Nat → Nat → Option Nat
  | .add, x, y => fadd x y
  | .sub, x, y => fsub x y
  | .mul, x, y => fmul x y
  | .quo, x, y => fdiv x y
  | _, _, _ => none
theorem tx_cell {K' : Act → World → Prop} (i o : Nat) {x y : SV} {r : Res} (hi : s.H[i]? = some r) (ho : r.cs[o]? = some x) (hxy : Imp x y) {H' : List Res} (hH : s.H.set i { r with cs := r.cs.set o y } = H') (k : TX E K' { s with H := H' }) : TX E K' s := fun a w ⟨U, hs⟩ => by
  subst hH
  have hset : ∀ {cs : List SV} {o : Nat} {vs : List Value}, cs[o]? = some x → All2 (fun s v => s.C w U v) cs vs → All2 (fun s v => s.C w U v) (cs.set o y) vs := by
    intro cs
    induction cs with
    | nil => intro o vs h _; simp at h
    | cons c cs ih =>
      intro o vs h hv
      cases vs with
      | nil => exact hv.elim
      | cons v vs =>
        cases o with
        | zero =>
          simp at h; subst h
          exact ⟨⟨hxy _ _ _ hv.1.1, hv.1.2⟩, hv.2⟩
        | succ o => exact ⟨hv.1, ih (by simpa using h) hv.2⟩
  have hown : { r with cs := r.cs.set o y }.own w U := by
    have h := hs.own r (List.mem_of_getElem? hi)
    unfold Res.own at h ⊢
    split
    · rename_i hr
      have hr' : r.row = none := hr
      simp only [hr'] at h
      obtain ⟨b, vs, h1, h2, h3⟩ := h
      exact ⟨b, vs, h1, h2, hset ho h3⟩
    · rename_i sz hr
      have hr' : r.row = some sz := hr
      simp only [hr'] at h
      rcases h with ⟨h1, h2⟩ | ⟨b, n, cap, vs, sp, h1, h2, h3, h4, h5, h6⟩
      · rw [h2] at ho; simp at ho
      · exact .inr ⟨b, n, cap, vs, sp, h1, h2, hset ho h3, by simpa using h4, h5, h6⟩
  have := hs.reown hi { r with cs := r.cs.set o y } rfl hown rfl rfl rfl (Nat.le_refl _) (fun _ _ _ => rfl)
  exact k a w ⟨U, this⟩

/-! #### functions without a Go body, on floats up to the bits of a NaN -/
def RunsF (P : Program) (e : Sem Next) (x : SV) : Prop := ∀ w U, ∃ v w', e.run P w = .ok (.value v) w' ∧ (w' = w ∨ w' = w.drew) ∧ x.R w' U v
end
end Go.Sx
