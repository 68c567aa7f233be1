/-
  Steps of a walk over the symbolic state: rows cut whole, arrays as rows. Ours; it knows no program.
-/
import Derived.Test.YtjgpiealnfbkcaaSxT
import Derived.Laws.BytesString
import Derived.LaidEql
namespace Go.Sx
set_option linter.unusedVariables false
set_option linter.unusedSectionVars false
set_option linter.unusedSimpArgs false
variable [Gv]

section
variable {E : Env} {P : Program} {Q : Exit → Act → World → Prop} {s : St} {dst : Option Tmp} {ty : TypeId} {pos : String} {af : Array Edge} {g : Option (Nat × Bool)}

def Sp (v : Value) (size lo m : Nat) : SV := ⟨fun _ _ u => (v = .slice none 0 0 ∧ u = .slice none 0 0 ∧ lo = 0 ∧ m = 0) ∨ ∃ b n c o c', v = .slice (some ⟨b, 0, none⟩) n c ∧ u = .slice (some ⟨b, o, none⟩) m c' ∧ (m = 0 ∨ o = lo * size), fun _ _ h => h⟩
theorem cut_len {α : Type} {xs ys : List α} {lo hi : Int} (hc : cut xs lo hi = some ys) : 0 ≤ lo ∧ lo ≤ hi ∧ hi ≤ xs.length ∧ ys.length = hi.toNat - lo.toNat ∧ lo.toNat + ys.length ≤ xs.length := by
  unfold cut at hc
  split at hc
  case isFalse => cases hc
  rename_i hb
  cases hc
  have : ((xs.take hi.toNat).drop lo.toNat).length = hi.toNat - lo.toNat := by simp; omega
  exact ⟨hb.1, hb.2.1, hb.2.2, this, by rw [this]; omega⟩
def cpat {α : Type} (xs : List α) (lo m : Nat) (zs : List α) : List α := xs.take lo ++ zs.take m ++ xs.drop (lo + Nat.min zs.length m)
def idxn {α : Type} (N : Nat) (xs : List α) (i : Int) : Option α := if i < N then idx xs i else none
def need {α : Type} (n : Nat) (xs : List α) : Option Unit := if n ≤ xs.length then some () else none
def Mf (name : String) (x : SV) : SV := ⟨fun w U u => ∃ v, u = .func (.method name) #[v] #[] ∧ x.R w U v, fun h1 h2 ⟨v, e, h⟩ => ⟨v, e, x.mono h1 h2 h⟩⟩
theorem rd_mkmeth {name : String} {X : Operand} {x : SV} (hx : ev s.L X = some x) : Rd P s ⟨dst, .makeFunc (.method name) #[X] #[], ty, pos, af, g⟩ (Mf name x) := fun E a w U hs =>
  ⟨.func (.method name) #[a.eval X] #[], ⟨_, rfl, look_ev hs hx⟩, fun w' _ => by simp [execOp, Instr.makeFunc]⟩
theorem rd_nilck_mf {name : String} {X : Operand} {t : TypeId} {x : SV} (hx : ev s.L X = some (Mf name (If t x))) (h : ∀ w U v, x.R w U v → ∀ w', (nilAhead (P.types.size + Made.depth) t v name).run P w' = .ok (some false) w') :
    Rd P s ⟨dst, .nilCheck X, ty, pos, af, g⟩ (Mf name (If t x)) := fun E a w U hs => by
  obtain ⟨v, e1, u, hv, hu⟩ := look_ev hs hx
  subst hv
  refine ⟨_, ⟨_, rfl, _, rfl, hu⟩, fun w' _ => ?_⟩
  simp [execOp, e1, h w U u hu w']
def bytesOf (xs : List Int) : ByteArray := xs.foldl (fun r n => r.push (UInt8.ofNat n.toNat)) ByteArray.empty
def Ln (m : Nat) : SV := ⟨fun _ _ u => ∃ a c, u = .slice a m c, fun _ _ h => h⟩
abbrev Vg (x : Nat) : SV := Vl (.float .f64 x)
end
end Go.Sx
