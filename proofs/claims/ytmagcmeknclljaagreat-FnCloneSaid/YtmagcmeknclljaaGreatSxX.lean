/-
  Shorter names for steps that are often taken together. Ours.
-/
import Derived.Test.YtmagcmeknclljaaGreatSxZ
namespace Go.Sx
set_option linter.unusedVariables false
set_option linter.unusedSectionVars false
variable [Gv] {E : Env} {P : Program} {Q : Exit → Act → World → Prop} {ops : Array Oper} {rest : List Oper} {o : Oper} {n : Nat} {D : List Deferred} {L : List (Nat × SV)} {H : List Res}

abbrev Vi (x : Int) : SV := Vl (.int .i64 x)
abbrev Vp (x : Addr) : SV := Vl (.pointer (some x))
abbrev Vb (x : Bool) : SV := Vl (.bool x)

abbrev Vn : SV := Vl (.slice none 0 0)
abbrev Ve : SV := Vl .nilIface
theorem s0 {d : Nat} {x : SV} (hr : Rd P (St.mk n D L H) o x) (k : SX E P ops Q rest ((St.mk n D ((d, x) :: L) H))) (hd : o.dst = some d := by rfl) (hn : Nat.ble (d + 1) n = true := by rfl) (hw : o.guard = none := by rfl) : SX E P ops Q (o :: rest) (St.mk n D L H) :=
  sx_rd' hr hd hn (wt_none' hw) k
theorem cr {id : Nat} {l : List Oper} {y : Code} (h : ∀ K : Act → World → Prop, (∀ a w, y.wp P Q a w → K a w) → SX E P l.toArray (Exit.then K Q) l (St.mk n D L H)) : CX E P (.seq (.region id l.toArray false) y) Q (St.mk n D L H) :=
  cx_seq' fun K hK => cx_region' (h K hK)
theorem nk {y : Code} {K : Act → World → Prop} (hK : ∀ a w, y.wp P Q a w → K a w) (h : CX E P y Q (St.mk n D L H)) : SX E P #[] (Exit.then K Q) [] (St.mk n D L H) :=
  sx_nil' (tx_k' hK h)
end Go.Sx
