/-
  Steps of a walk over the symbolic state: rows cut whole, arrays as rows. Ours; it knows no program.
-/
import Derived.Test.YthobbfpoooommaaGreatSxT
import Derived.Laws.BytesString
import Derived.LaidEql
namespace Go.Sx
set_option linter.unusedVariables false
set_option linter.unusedSectionVars false
set_option linter.unusedSimpArgs false
variable [Gv]

section
variable {E : Env} {P : Program} {Q : Exit → Act → World → Prop} {s : St} {dst : Option Tmp} {ty : TypeId} {pos : String} {af : Array Edge} {g : Option (Nat × Bool)}

def Sp (v : Value) (size lo m : Nat) : SV := ⟨fun _ _ u => (v = .slice none 0 0 ∧ u = .slice none 0 0 ∧ lo = 0 ∧ m = 0) ∨ ∃ b n c o c', v = .slice (some ⟨b, 0, none⟩) n c ∧ u = .slice (some ⟨b, o, none⟩) m c' ∧ (m = 0 ∨ o = lo * size), fun _ _ h => h⟩
def cpat {α : Type} (xs : List α) (lo m : Nat) (zs : List α) : List α := xs.take lo ++ zs.take m ++ xs.drop (lo + Nat.min zs.length m)
def idxn {α : Type} (N : Nat) (xs : List α) (i : Int) : Option α := if i < N then idx xs i else none
def need {α : Type} (n : Nat) (xs : List α) : Option Unit := if n ≤ xs.length then some () else none
def Mf (name : String) (x : SV) : SV := ⟨fun w U u => ∃ v, u = .func (.method name) #[v] #[] ∧ x.R w U v, fun h1 h2 ⟨v, e, h⟩ => ⟨v, e, x.mono h1 h2 h⟩⟩
def bytesOf (xs : List Int) : ByteArray := xs.foldl (fun r n => r.push (UInt8.ofNat n.toNat)) ByteArray.empty
def Ln (m : Nat) : SV := ⟨fun _ _ u => ∃ a c, u = .slice a m c, fun _ _ h => h⟩
abbrev Vg (x : Nat) : SV := Vl (.float .f64 x)
end
end Go.Sx
