/-
  Steps of a walk over the symbolic state: rows cut whole, arrays as rows. Ours; it knows no program.
-/
import Derived.Test.YtnhbmhdjkibjaaaDoorSxT
namespace Go.Sx
set_option linter.unusedVariables false
set_option linter.unusedSimpArgs false

section
variable {E : Env} {P : Program} {Q : Exit → Act → World → Prop} {s : St} {dst : Option Tmp} {ty : TypeId} {pos : String} {af : Array Edge} {g : Option (Nat × Bool)}

/-- a row of one's own, cut whole, is itself -/
theorem rd_cut_allr {α : Type} {K : Kd α} {e' : TypeId} {v : Value} {xs : List α} {i : Nat} {X : Operand} {t e : TypeId} {z : Option Value} {bytes : Nat} (hx : ev s.L X = some (Vl v)) (hi : s.H[i]? = some (Rw K e' v xs)) (hK : Nat.ble 1 K.size = true)
    (ht : P.underlying t = some (.slice e)) (he : (P.info? e).map (fun i => (i.zero, i.size, i.bytes)) = some (z, K.size, bytes)) : Rd P s ⟨dst, .slice t X none none none, ty, pos, af, g⟩ (Vl v) := fun E a w U hs => by
  have e1 : a.eval X = v := look_ev hs hx
  cases hinfo : P.info? e with
  | none => rw [hinfo] at he; simp at he
  | some inf =>
    rw [hinfo] at he; simp at he
    refine ⟨v, rfl, fun w' _ => ?_⟩
    rcases hs.row (Nat.le_of_ble_eq_true hK) hi with ⟨h, h'⟩ | ⟨b, cap, vs, sp, h, _, _, _, hc, _⟩
    · subst h; simp [execOp, Instr.sliceAt, Instr.slice, e1, run_underlying ht, Instr.sliceBounds, run_sliceBound, sizeOf, typeInfo, hinfo, he.2.1]
    · subst h; simp [execOp, Instr.sliceAt, Instr.slice, e1, run_underlying ht, Instr.sliceBounds, run_sliceBound, sizeOf, typeInfo, hinfo, he.2.1, addr_add, hc]
end
end Go.Sx
