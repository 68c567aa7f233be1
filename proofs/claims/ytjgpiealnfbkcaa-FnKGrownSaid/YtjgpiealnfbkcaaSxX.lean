/-
  Shorter names for steps that are often taken together. Ours.
-/
import Derived.Test.YtjgpiealnfbkcaaSxZ
namespace Go.Sx
set_option linter.unusedVariables false
set_option linter.unusedSectionVars false
variable [Gv] {E : Env} {P : Program} {Q : Exit → Act → World → Prop} {ops : Array Oper} {rest : List Oper} {o : Oper} {n : Nat} {D : List Deferred} {L : List (Nat × SV)} {H : List Res}

abbrev Vi (x : Int) : SV := Vl (.int .i64 x)
abbrev Vp (x : Addr) : SV := Vl (.pointer (some x))
abbrev Vb (x : Bool) : SV := Vl (.bool x)

abbrev Vn : SV := Vl (.slice none 0 0)
abbrev Ve : SV := Vl .nilIface
theorem s1 {d : Nat} {x : SV} (hr : Rd P (St.mk n D L H) o x) (hd : o.dst = some d) (hn : Nat.ble (d + 1) n = true) (hw : o.guard = none) (k : SX E P ops Q rest ((St.mk n D ((d, x) :: L) H))) : SX E P ops Q (o :: rest) (St.mk n D L H) :=
  sx_rd' hr hd hn (wt_none' hw) k
theorem s0 {d : Nat} {x : SV} (hr : Rd P (St.mk n D L H) o x) (k : SX E P ops Q rest ((St.mk n D ((d, x) :: L) H))) (hd : o.dst = some d := by rfl) (hn : Nat.ble (d + 1) n = true := by rfl) (hw : o.guard = none := by rfl) : SX E P ops Q (o :: rest) (St.mk n D L H) :=
  sx_rd' hr hd hn (wt_none' hw) k
theorem cr {id : Nat} {l : List Oper} {y : Code} (h : ∀ K : Act → World → Prop, (∀ a w, y.wp P Q a w → K a w) → SX E P l.toArray (Exit.then K Q) l (St.mk n D L H)) : CX E P (.seq (.region id l.toArray false) y) Q (St.mk n D L H) :=
  cx_seq' fun K hK => cx_region' (h K hK)
theorem nk {y : Code} {K : Act → World → Prop} (hK : ∀ a w, y.wp P Q a w → K a w) (h : CX E P y Q (St.mk n D L H)) : SX E P #[] (Exit.then K Q) [] (St.mk n D L H) :=
  sx_nil' (tx_k' hK h)
/-! #### shorter still -/
theorem sb {dst : Option Tmp} {ty : TypeId} {pos : String} {af : Array Edge} {g : Option (Nat × Bool)} {op : BinOp} {tx t2 : TypeId} {X Y : Operand} {x y v : Value} (hx : ev L X = some (Vl x)) (hy : ev L Y = some (Vl y)) (hg : Runs P (eqGuard op tx X Y x y) ()) (hr : Runs P (binOp op tx x y) v) {d : Nat} (k : SX E P ops Q rest (St.mk n D ((d, (Vl v)) :: L) H)) (hd : dst = some d := by rfl) (hn : Nat.ble (d + 1) n = true := by rfl) (hw : g = none := by rfl) : SX E P ops Q (⟨dst, .binOp op tx X Y t2, ty, pos, af, g⟩ :: rest) (St.mk n D L H) :=
  s0 (rd_bin' hx hy hg hr) k hd hn hw
theorem sl {dst : Option Tmp} {ty : TypeId} {pos : String} {af : Array Edge} {g : Option (Nat × Bool)} {t : TypeId} {X : Operand} {i o : Nat} {r : Res} {q p : Addr} {x : SV} (hx : ev L X = some (Vl (.pointer (some p)))) (hr : AtRes (St.mk n D L H) i r q p o) (hc : r.cs[o]? = some x) (ht : Flat P t) {d : Nat} (k : SX E P ops Q rest (St.mk n D ((d, x) :: L) H)) (hd : dst = some d := by rfl) (hn : Nat.ble (d + 1) n = true := by rfl) (hw : g = none := by rfl) : SX E P ops Q (⟨dst, .load t X, ty, pos, af, g⟩ :: rest) (St.mk n D L H) :=
  s0 (rd_load' hx hr hc ht) k hd hn hw
theorem sv {dst : Option Tmp} {ty : TypeId} {pos : String} {af : Array Edge} {g : Option (Nat × Bool)} {t : TypeId} {ps : List (Nat × Operand)} {fs : List Field} {zs : List Value} {z : Value} {size bytes : Nat} {pls : List (Nat × Nat)} {qs : List (Nat × List SV)} {r : List SV} (hp : PartsEv L ps qs) (ht : P.underlying t = some (.struct ⟨fs⟩)) (hfs : ∀ f ∈ fs, (P.info? f.type).isSome = true) (hpl : placesOf P fs = pls) (hz : (P.info? t).map (fun i => (i.zero, i.size, i.bytes)) = some (some z, size, bytes)) (hzc : z.cells = ⟨zs⟩) (h1 : zs.all (·.oneCell') = true) (hf : fillS (fun i : Nat => pls[i]?) (zs.map Vl) qs = some r) {d : Nat} (k : SX E P ops Q rest (St.mk n D ((d, (Ag r)) :: L) H)) (hd : dst = some d := by rfl) (hn : Nat.ble (d + 1) n = true := by rfl) (hw : g = none := by rfl) : SX E P ops Q (⟨dst, .build t ⟨ps⟩, ty, pos, af, g⟩ :: rest) (St.mk n D L H) :=
  s0 (rd_build' hp ht hfs hpl hz hzc h1 hf) k hd hn hw
abbrev Ur (q : Addr) (e : TypeId) (l : List SV) : Res := ⟨.pointer (some q), l, e, none⟩
abbrev Vw (g : Gs) : SV := Vl (Vs g)
abbrev Rg {α : Type} (K : Kd α) (e : TypeId) (g : Gs) (xs : List α) : Res := Rw K e (Vs g) xs
theorem un {L : List (Nat × SV)} : Sub [] L := trivial
theorem uc {k : Nat} {x : SV} {r L : List (Nat × SV)} (h : look L k = some x) (h' : Sub r L) : Sub ((k, x) :: r) L := ⟨h, h'⟩
theorem fs {v : Value} {x y : SV} : Frz v x y y := .inl (.inl rfl)
theorem fl {v : Value} {x y z : SV} {l m : List SV} (h : Frz v x y z) (h' : FrzL v x l m) : FrzL v x (y :: l) (z :: m) := ⟨h, h'⟩
def bL : Nat → Nat → List Bool
  | 0, _ => []
  | n + 1, m => (m % 2 == 1) :: bL n (m / 2)
abbrev bA (n m : Nat) : Array Bool := ⟨bL n m⟩
theorem no {late : List (Nat × Nat)} {ix f l : Nat} {listed : Array Bool} {X : Type} {S : X → St} (hi : ops[ix]? = some o) (h : OX E P o l S (St.mk n D L H)) (k : ∀ x, AX E P ops Q [] late f (listed.setIfInBounds ix true) (S x)) (hl : Nat.ble l (levOf late ix) = true := by rfl) (hw : o.guard = none := by rfl) : NX E P ops Q [] late f listed ix (St.mk n D L H) :=
  nx_ox' (last := listed.setIfInBounds ix true) hi h hl bs_nil (wt_none' hw) rfl k
abbrev A2 := Addr × Addr
abbrev A3 := Addr × Addr × Addr
abbrev A4 := Addr × Addr × Addr × Addr
abbrev A5 := Addr × Addr × Addr × Addr × Addr
abbrev A6 := Addr × Addr × Addr × Addr × Addr × Addr
abbrev A7 := Addr × Addr × Addr × Addr × Addr × Addr × Addr
abbrev A8 := Addr × Addr × Addr × Addr × Addr × Addr × Addr × Addr
theorem an {Bs : List Nat} {late : List (Nat × Nat)} {f : Nat} {listed : Array Bool} {s : St} (f' m b : Nat) {X : Type} (J : X → St) (h2 : ∀ v, AX E P ops Q Bs late f' (bA m b) (J v)) (h1 : (∀ v, AX E P ops Q Bs late f' (bA m b) (J v)) → AX E P ops Q Bs late f listed s) : AX E P ops Q Bs late f listed s :=
  ax_node (bA m b) J h2 h1
theorem U1 {L R : List (Nat × SV)} {k1 : Nat} {x1 : SV} (h1 : look L k1 = some x1) (t : Sub R L) : Sub ((k1, x1) :: R) L := uc h1 t
theorem tk {K' : Act → World → Prop} {L' : List (Nat × SV)} {H' : List Res} (is : List Nat) (hL : Sub L' L) (hp : PickAt H is H') (k : TX E K' (St.mk n D L' H')) (hn : is.Nodup := by decide) : TX E K' (St.mk n D L H) :=
  tx_pick' is hL hn hp k
theorem so {l : Nat} {X : Type} {S : X → St} (h : OX E P o l S (St.mk n D L H)) (k : ∀ x, SX E P ops Q rest (S x)) (hw : o.guard = none := by rfl) : SX E P ops Q (o :: rest) (St.mk n D L H) :=
  sx_ox' h (wt_none' hw) k
end Go.Sx
