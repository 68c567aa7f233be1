/-
  Steps of a walk over the symbolic state: panics, and closures that catch them. Ours; it knows no program.
-/
import Derived.Test.YtpakkblinocenaaSxS
import Derived.Recover
namespace Go.Sx
set_option linter.unusedVariables false
set_option linter.unusedSectionVars false
set_option linter.unusedSimpArgs false
variable [Gv]

section
variable {E : Env} {P : Program} {Q : Exit → Act → World → Prop} {s : St} {ops : Array Oper} {rest : List Oper} {o : Oper} {dst : Option Tmp} {ty : TypeId} {pos : String} {af : Array Edge} {g : Option (Nat × Bool)}

abbrev pch (tx : TypeId) (vx : Value) : List PanicEntry := [{ v := .iface tx vx, recovered := false }]
def PanE (E : Env) (e : Ending) (w' : World) : Prop := ∃ tx vx, e = .panicked (pch tx vx) ∧ Ext E.M E.w0 w'
def Fx (P : Program) (f : Nat) (A : List SV) (HA : List Res) {X : Type} (pan : Bool) (r : X → SV) (HR : X → List Res) : Prop :=
  ∀ (w : World) (U : Nat → Prop) (args : List Value), All2 (fun s v => s.R w U v) A args → (∀ q ∈ HA, q.own w U) → (HA.flatMap Res.blk).Nodup → (∀ q ∈ HA, ∀ b ∈ q.blk, ¬ U b) →
    (∀ k, U k → k < w.heap.size) → GOk w U → Calls P f args.toArray w (bif pan then PanE ⟨w, U, HA.flatMap Res.blk⟩ else PostE ⟨w, U, HA.flatMap Res.blk⟩ r HR)
theorem Fx.fn {f : Nat} {A : List SV} {HA : List Res} {X : Type} {r : X → SV} {HR : X → List Res} (h : Fx P f A HA false r HR) : Fn P f A HA r HR := h
def Pan (P : Program) (s : St) (o : Oper) : Prop := ∀ E a w U, SymAt E s a w U → ∃ tx vx w', (execOp a.eval o).run P w = .halt (.panic (.iface tx vx)) w' ∧ Ext [] w w'
def PanQ (E : Env) (Q : Exit → Act → World → Prop) (s : St) : Prop := ∀ tx vx, TX E (Q (.panic (pch tx vx))) s
def Catch (P : Program) (f : Nat) (A : List SV) (HA HR : List Res) : Prop :=
  ∀ (w : World) (U : Nat → Prop) (args : List Value) (tx : TypeId) (vx : Value), All2 (fun s v => s.R w U v) A args → (∀ q ∈ HA, q.own w U) → (HA.flatMap Res.blk).Nodup → (∀ q ∈ HA, ∀ b ∈ q.blk, ¬ U b) →
    (∀ k, U k → k < w.heap.size) → GOk w U → CallsD P f args.toArray (.panicking (pch tx vx)) w fun e u' w' => settle u' = .returning ∧ PostE ⟨w, U, HA.flatMap Res.blk⟩ (fun _ : Unit => Vl (.tuple #[])) (fun _ => HR) e w'
theorem imp_eq {x y : SV} (h : x = y) : Imp x y := h ▸ imp_refl
def Pf (v : Value) (m : Nat) : SV := ⟨fun _ _ u => ∃ a n c, v = .slice a n c ∧ u = .slice a m c, fun _ _ h => h⟩
def ovw {α : Type} (xs : List α) (m : Nat) (ys : List α) : Option (List α) := if m + ys.length ≤ xs.length then some (xs.take m ++ ys ++ xs.drop (m + ys.length)) else none
theorem tx_anynan {K' : Act → World → Prop} (t : Nat) {x : Nat} (ht : look s.L t = some (Fl x)) (k : ∀ y, (y = x ∨ (isn x = true ∧ isn y = true)) → TX E K' { s with L := (t, Vl (.float .f64 y)) :: s.L }) : TX E K' s := fun a w ⟨U, hs⟩ => by
  obtain ⟨v, hv, y, e, hy⟩ := hs.slot t _ ht
  refine k y hy a w ⟨U, { hs with
    slot := fun k z hk => by
      simp only [look] at hk
      by_cases ek : t = k
      · subst ek
        have : Nat.beq t t = true := by simp
        rw [this] at hk; simp at hk; subst hk
        exact ⟨v, hv, e⟩
      · have hb' : Nat.beq t k = false := by
          cases h' : Nat.beq t k with
          | false => rfl
          | true => exact absurd (Nat.eq_of_beq_eq_true h') ek
        rw [hb'] at hk
        exact hs.slot k z hk }⟩
theorem anynan_eq {α : Type} {f : Nat → Option α} {x y : Nat} {r : α} (h : y = x ∨ (isn x = true ∧ isn y = true)) (hf : isn x = true → isn y = true → f y = f x) (hx : f x = some r) : f y = some r := by
  rcases h with rfl | ⟨h1, h2⟩
  · exact hx
  · rw [hf h1 h2]; exact hx
end
end Go.Sx
