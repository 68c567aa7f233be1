/-
  Shorter names for steps that are often taken together. Ours.
-/
import Derived.Test.YtmagcmeknclljaaSxZ
namespace Go.Sx
set_option linter.unusedVariables false
set_option linter.unusedSectionVars false
variable [Gv] {E : Env} {P : Program} {Q : Exit → Act → World → Prop} {ops : Array Oper} {rest : List Oper} {o : Oper} {n : Nat} {D : List Deferred} {L : List (Nat × SV)} {H : List Res}

abbrev Vi (x : Int) : SV := Vl (.int .i64 x)
abbrev Vp (x : Addr) : SV := Vl (.pointer (some x))
abbrev Vb (x : Bool) : SV := Vl (.bool x)

abbrev Vn : SV := Vl (.slice none 0 0)
abbrev Ve : SV := Vl .nilIface
theorem s1 {d : Nat} {x : SV} (hr : Rd P (St.mk n D L H) o x) (hd : o.dst = some d) (hn : Nat.ble (d + 1) n = true) (hw : o.guard = none) (k : SX E P ops Q rest ((St.mk n D ((d, x) :: L) H))) : SX E P ops Q (o :: rest) (St.mk n D L H) :=
  sx_rd' hr hd hn (wt_none' hw) k
theorem s0 {d : Nat} {x : SV} (hr : Rd P (St.mk n D L H) o x) (k : SX E P ops Q rest ((St.mk n D ((d, x) :: L) H))) (hd : o.dst = some d := by rfl) (hn : Nat.ble (d + 1) n = true := by rfl) (hw : o.guard = none := by rfl) : SX E P ops Q (o :: rest) (St.mk n D L H) :=
  sx_rd' hr hd hn (wt_none' hw) k
theorem cr {id : Nat} {l : List Oper} {y : Code} (h : ∀ K : Act → World → Prop, (∀ a w, y.wp P Q a w → K a w) → SX E P l.toArray (Exit.then K Q) l (St.mk n D L H)) : CX E P (.seq (.region id l.toArray false) y) Q (St.mk n D L H) :=
  cx_seq' fun K hK => cx_region' (h K hK)
theorem nk {y : Code} {K : Act → World → Prop} (hK : ∀ a w, y.wp P Q a w → K a w) (h : CX E P y Q (St.mk n D L H)) : SX E P #[] (Exit.then K Q) [] (St.mk n D L H) :=
  sx_nil' (tx_k' hK h)
/-! #### shorter still -/
theorem sj {α : Type} {a b : α} (h : some a = some b) : a = b := Option.some.inj h
theorem sm {dst : Option Tmp} {ty : TypeId} {pos : String} {af : Array Edge} {g : Option (Nat × Bool)} {X : Operand} {x : SV} (hx : ev L X = some x) {d : Nat} (k : SX E P ops Q rest (St.mk n D ((d, x) :: L) H)) (hd : dst = some d := by rfl) (hn : Nat.ble (d + 1) n = true := by rfl) (hw : g = none := by rfl) : SX E P ops Q (⟨dst, .move X, ty, pos, af, g⟩ :: rest) (St.mk n D L H) :=
  s0 (rd_move' hx) k hd hn hw
theorem sa {dst : Option Tmp} {ty : TypeId} {pos : String} {af : Array Edge} {g : Option (Nat × Bool)} {X : Operand} {x : SV} (hx : ev L X = some x) {d : Nat} (k : SX E P ops Q rest (St.mk n D ((d, x) :: L) H)) (hd : dst = some d := by rfl) (hn : Nat.ble (d + 1) n = true := by rfl) (hw : g = none := by rfl) : SX E P ops Q (⟨dst, .assign X, ty, pos, af, g⟩ :: rest) (St.mk n D L H) :=
  s0 (rd_assign' hx) k hd hn hw
theorem sb {dst : Option Tmp} {ty : TypeId} {pos : String} {af : Array Edge} {g : Option (Nat × Bool)} {op : BinOp} {tx t2 : TypeId} {X Y : Operand} {x y v : Value} (hx : ev L X = some (Vl x)) (hy : ev L Y = some (Vl y)) (hg : Runs P (eqGuard op tx X Y x y) ()) (hr : Runs P (binOp op tx x y) v) {d : Nat} (k : SX E P ops Q rest (St.mk n D ((d, (Vl v)) :: L) H)) (hd : dst = some d := by rfl) (hn : Nat.ble (d + 1) n = true := by rfl) (hw : g = none := by rfl) : SX E P ops Q (⟨dst, .binOp op tx X Y t2, ty, pos, af, g⟩ :: rest) (St.mk n D L H) :=
  s0 (rd_bin' hx hy hg hr) k hd hn hw
theorem sf {dst : Option Tmp} {ty : TypeId} {pos : String} {af : Array Edge} {g : Option (Nat × Bool)} {t : TypeId} {X : Operand} {q : Addr} {f : Nat} {fs : Array Field} {fd : Field} (hx : ev L X = some (Vl (.pointer (some q)))) (ht : P.underlying t = some (.struct fs)) (hf : fs[f]? = some fd) {z : Option Value} {m bytes : Nat} (hz : (P.info? fd.type).map (fun i => (i.zero, i.size, i.bytes)) = some (z, m + 1, bytes)) (hoff : fd.offset = 0) {d : Nat} (k : SX E P ops Q rest (St.mk n D ((d, (Vl (.pointer (some q)))) :: L) H)) (hd : dst = some d := by rfl) (hn : Nat.ble (d + 1) n = true := by rfl) (hw : g = none := by rfl) : SX E P ops Q (⟨dst, .fieldAddr t X f, ty, pos, af, g⟩ :: rest) (St.mk n D L H) :=
  s0 (rd_field0' hx ht hf hz hoff) k hd hn hw
theorem sg {dst : Option Tmp} {ty : TypeId} {pos : String} {af : Array Edge} {g : Option (Nat × Bool)} {t : TypeId} {X : Operand} {q : Addr} {f : Nat} {fs : Array Field} {fd : Field} (hx : ev L X = some (Vl (.pointer (some q)))) (ht : P.underlying t = some (.struct fs)) (hf : fs[f]? = some fd) {z : Option Value} {nn bytes : Nat} (hz : (P.info? fd.type).map (fun i => (i.zero, i.size, i.bytes)) = some (z, nn + 1, bytes)) {off : Nat} (hoff : fd.offset = off) {d : Nat} (k : SX E P ops Q rest (St.mk n D ((d, (Vl (.pointer (some (q.add off))))) :: L) H)) (hd : dst = some d := by rfl) (hn : Nat.ble (d + 1) n = true := by rfl) (hw : g = none := by rfl) : SX E P ops Q (⟨dst, .fieldAddr t X f, ty, pos, af, g⟩ :: rest) (St.mk n D L H) :=
  s0 (rd_field' hx ht hf hz hoff) k hd hn hw
theorem sl {dst : Option Tmp} {ty : TypeId} {pos : String} {af : Array Edge} {g : Option (Nat × Bool)} {t : TypeId} {X : Operand} {i o : Nat} {r : Res} {q p : Addr} {x : SV} (hx : ev L X = some (Vl (.pointer (some p)))) (hr : AtRes (St.mk n D L H) i r q p o) (hc : r.cs[o]? = some x) (ht : Flat P t) {d : Nat} (k : SX E P ops Q rest (St.mk n D ((d, x) :: L) H)) (hd : dst = some d := by rfl) (hn : Nat.ble (d + 1) n = true := by rfl) (hw : g = none := by rfl) : SX E P ops Q (⟨dst, .load t X, ty, pos, af, g⟩ :: rest) (St.mk n D L H) :=
  s0 (rd_load' hx hr hc ht) k hd hn hw
theorem sn {dst : Option Tmp} {ty : TypeId} {pos : String} {af : Array Edge} {g : Option (Nat × Bool)} {X : Operand} {q : Addr} (hx : ev L X = some (Vl (.pointer (some q)))) {d : Nat} (k : SX E P ops Q rest (St.mk n D ((d, (Vl (.pointer (some q)))) :: L) H)) (hd : dst = some d := by rfl) (hn : Nat.ble (d + 1) n = true := by rfl) (hw : g = none := by rfl) : SX E P ops Q (⟨dst, .nilCheck X, ty, pos, af, g⟩ :: rest) (St.mk n D L H) :=
  s0 (rd_nilck' hx) k hd hn hw
theorem se {dst : Option Tmp} {ty : TypeId} {pos : String} {af : Array Edge} {g : Option (Nat × Bool)} {X : Operand} {l : List SV} {i : Nat} {x : SV} (hx : ev L X = some (Tu l)) (hi : l[i]? = some x) {d : Nat} (k : SX E P ops Q rest (St.mk n D ((d, x) :: L) H)) (hd : dst = some d := by rfl) (hn : Nat.ble (d + 1) n = true := by rfl) (hw : g = none := by rfl) : SX E P ops Q (⟨dst, .extract X i, ty, pos, af, g⟩ :: rest) (St.mk n D L H) :=
  s0 (rd_extract' hx hi) k hd hn hw
theorem st {dst : Option Tmp} {ty : TypeId} {pos : String} {af : Array Edge} {g : Option (Nat × Bool)} {X : Operand} {t tx ta : TypeId} {ok : Bool} {x y : SV} {F : Value → Value} (hx : ev L X = some (If t x)) (hF : ∀ v w, (Instr.typeAssert (.iface t v) tx ta ok).run P w = .ok (F v) w) (hy : ∀ w U v, x.R w U v → y.R w U (F v)) {d : Nat} (k : SX E P ops Q rest (St.mk n D ((d, y) :: L) H)) (hd : dst = some d := by rfl) (hn : Nat.ble (d + 1) n = true := by rfl) (hw : g = none := by rfl) : SX E P ops Q (⟨dst, .typeAssert X tx ta ok, ty, pos, af, g⟩ :: rest) (St.mk n D L H) :=
  s0 (rd_assert' hx hF hy) k hd hn hw
theorem sk {dst : Option Tmp} {ty : TypeId} {pos : String} {af : Array Edge} {g : Option (Nat × Bool)} {α : Type} {K : Kd α} {xs : List α} {X : Operand} {t e : TypeId} (hx : ev L X = some (Sl K xs)) (ht : P.underlying t = some (.slice e)) {d : Nat} (k : SX E P ops Q rest (St.mk n D ((d, (Vl (.int .i64 xs.length))) :: L) H)) (hd : dst = some d := by rfl) (hn : Nat.ble (d + 1) n = true := by rfl) (hw : g = none := by rfl) : SX E P ops Q (⟨dst, .call { callee := .builtin .len, args := #[X], argTypes := #[t] }, ty, pos, af, g⟩ :: rest) (St.mk n D L H) :=
  s0 (rd_len' hx ht) k hd hn hw
theorem sv {dst : Option Tmp} {ty : TypeId} {pos : String} {af : Array Edge} {g : Option (Nat × Bool)} {t : TypeId} {ps : List (Nat × Operand)} {fs : List Field} {zs : List Value} {z : Value} {size bytes : Nat} {pls : List (Nat × Nat)} {qs : List (Nat × List SV)} {r : List SV} (hp : PartsEv L ps qs) (ht : P.underlying t = some (.struct ⟨fs⟩)) (hfs : ∀ f ∈ fs, (P.info? f.type).isSome = true) (hpl : placesOf P fs = pls) (hz : (P.info? t).map (fun i => (i.zero, i.size, i.bytes)) = some (some z, size, bytes)) (hzc : z.cells = ⟨zs⟩) (h1 : zs.all (·.oneCell') = true) (hf : fillS (fun i : Nat => pls[i]?) (zs.map Vl) qs = some r) {d : Nat} (k : SX E P ops Q rest (St.mk n D ((d, (Ag r)) :: L) H)) (hd : dst = some d := by rfl) (hn : Nat.ble (d + 1) n = true := by rfl) (hw : g = none := by rfl) : SX E P ops Q (⟨dst, .build t ⟨ps⟩, ty, pos, af, g⟩ :: rest) (St.mk n D L H) :=
  s0 (rd_build' hp ht hfs hpl hz hzc h1 hf) k hd hn hw
abbrev Ur (q : Addr) (e : TypeId) (l : List SV) : Res := ⟨.pointer (some q), l, e, none⟩
abbrev Vw (g : Gs) : SV := Vl (Vs g)
abbrev Rg {α : Type} (K : Kd α) (e : TypeId) (g : Gs) (xs : List α) : Res := Rw K e (Vs g) xs
theorem pn {H : List Res} : PickAt H [] [] := trivial
theorem pc {H : List Res} {i : Nat} {is : List Nat} {r : Res} {rs : List Res} (h : H[i]? = some r) (h' : PickAt H is rs) : PickAt H (i :: is) (r :: rs) := ⟨h, h'⟩
theorem un {L : List (Nat × SV)} : Sub [] L := trivial
theorem uc {k : Nat} {x : SV} {r L : List (Nat × SV)} (h : look L k = some x) (h' : Sub r L) : Sub ((k, x) :: r) L := ⟨h, h'⟩
theorem f0 {v : Value} {x y : SV} : Frz0 v x y y := .inl rfl
theorem fc {v : Value} {x y z : SV} {l m : List SV} (h : Frz0 v x y z) (h' : All2 (Frz0 v x) l m) : All2 (Frz0 v x) (y :: l) (z :: m) := ⟨h, h'⟩
theorem fs {v : Value} {x y : SV} : Frz v x y y := .inl (.inl rfl)
theorem fl {v : Value} {x y z : SV} {l m : List SV} (h : Frz v x y z) (h' : FrzL v x l m) : FrzL v x (y :: l) (z :: m) := ⟨h, h'⟩
theorem fh {v : Value} {x : SV} {p q : Res} {l m : List Res} (h1 : p.v = q.v) (h2 : p.E = q.E) (h3 : p.row = q.row) (h4 : FrzL v x p.cs q.cs) (h : FrzH v x l m) : FrzH v x (p :: l) (q :: m) := frzH_cons h1 h2 h3 h4 h
theorem p2 {H : List Res} {i1 i2 : Nat} {r1 r2 : Res} (h1 : H[i1]? = some r1) (h2 : H[i2]? = some r2) : PickAt H [i1, i2] [r1, r2] := pc h1 (pc h2 pn)
theorem p3 {H : List Res} {i1 i2 i3 : Nat} {r1 r2 r3 : Res} (h1 : H[i1]? = some r1) (h2 : H[i2]? = some r2) (h3 : H[i3]? = some r3) : PickAt H [i1, i2, i3] [r1, r2, r3] := pc h1 (pc h2 (pc h3 pn))
theorem p4 {H : List Res} {i1 i2 i3 i4 : Nat} {r1 r2 r3 r4 : Res} (h1 : H[i1]? = some r1) (h2 : H[i2]? = some r2) (h3 : H[i3]? = some r3) (h4 : H[i4]? = some r4) : PickAt H [i1, i2, i3, i4] [r1, r2, r3, r4] := pc h1 (pc h2 (pc h3 (pc h4 pn)))
theorem p5 {H : List Res} {i1 i2 i3 i4 i5 : Nat} {r1 r2 r3 r4 r5 : Res} (h1 : H[i1]? = some r1) (h2 : H[i2]? = some r2) (h3 : H[i3]? = some r3) (h4 : H[i4]? = some r4) (h5 : H[i5]? = some r5) : PickAt H [i1, i2, i3, i4, i5] [r1, r2, r3, r4, r5] := pc h1 (pc h2 (pc h3 (pc h4 (pc h5 pn))))
theorem p6 {H : List Res} {i1 i2 i3 i4 i5 i6 : Nat} {r1 r2 r3 r4 r5 r6 : Res} (h1 : H[i1]? = some r1) (h2 : H[i2]? = some r2) (h3 : H[i3]? = some r3) (h4 : H[i4]? = some r4) (h5 : H[i5]? = some r5) (h6 : H[i6]? = some r6) : PickAt H [i1, i2, i3, i4, i5, i6] [r1, r2, r3, r4, r5, r6] := pc h1 (pc h2 (pc h3 (pc h4 (pc h5 (pc h6 pn)))))
theorem p7 {H : List Res} {i1 i2 i3 i4 i5 i6 i7 : Nat} {r1 r2 r3 r4 r5 r6 r7 : Res} (h1 : H[i1]? = some r1) (h2 : H[i2]? = some r2) (h3 : H[i3]? = some r3) (h4 : H[i4]? = some r4) (h5 : H[i5]? = some r5) (h6 : H[i6]? = some r6) (h7 : H[i7]? = some r7) : PickAt H [i1, i2, i3, i4, i5, i6, i7] [r1, r2, r3, r4, r5, r6, r7] := pc h1 (pc h2 (pc h3 (pc h4 (pc h5 (pc h6 (pc h7 pn))))))
theorem u2 {L : List (Nat × SV)} {k1 k2 : Nat} {x1 x2 : SV} (h1 : look L k1 = some x1) (h2 : look L k2 = some x2) : Sub [(k1, x1), (k2, x2)] L := uc h1 (uc h2 un)
theorem u3 {L : List (Nat × SV)} {k1 k2 k3 : Nat} {x1 x2 x3 : SV} (h1 : look L k1 = some x1) (h2 : look L k2 = some x2) (h3 : look L k3 = some x3) : Sub [(k1, x1), (k2, x2), (k3, x3)] L := uc h1 (uc h2 (uc h3 un))
theorem u4 {L : List (Nat × SV)} {k1 k2 k3 k4 : Nat} {x1 x2 x3 x4 : SV} (h1 : look L k1 = some x1) (h2 : look L k2 = some x2) (h3 : look L k3 = some x3) (h4 : look L k4 = some x4) : Sub [(k1, x1), (k2, x2), (k3, x3), (k4, x4)] L := uc h1 (uc h2 (uc h3 (uc h4 un)))
theorem u5 {L : List (Nat × SV)} {k1 k2 k3 k4 k5 : Nat} {x1 x2 x3 x4 x5 : SV} (h1 : look L k1 = some x1) (h2 : look L k2 = some x2) (h3 : look L k3 = some x3) (h4 : look L k4 = some x4) (h5 : look L k5 = some x5) : Sub [(k1, x1), (k2, x2), (k3, x3), (k4, x4), (k5, x5)] L := uc h1 (uc h2 (uc h3 (uc h4 (uc h5 un))))
theorem u6 {L : List (Nat × SV)} {k1 k2 k3 k4 k5 k6 : Nat} {x1 x2 x3 x4 x5 x6 : SV} (h1 : look L k1 = some x1) (h2 : look L k2 = some x2) (h3 : look L k3 = some x3) (h4 : look L k4 = some x4) (h5 : look L k5 = some x5) (h6 : look L k6 = some x6) : Sub [(k1, x1), (k2, x2), (k3, x3), (k4, x4), (k5, x5), (k6, x6)] L := uc h1 (uc h2 (uc h3 (uc h4 (uc h5 (uc h6 un)))))
theorem u7 {L : List (Nat × SV)} {k1 k2 k3 k4 k5 k6 k7 : Nat} {x1 x2 x3 x4 x5 x6 x7 : SV} (h1 : look L k1 = some x1) (h2 : look L k2 = some x2) (h3 : look L k3 = some x3) (h4 : look L k4 = some x4) (h5 : look L k5 = some x5) (h6 : look L k6 = some x6) (h7 : look L k7 = some x7) : Sub [(k1, x1), (k2, x2), (k3, x3), (k4, x4), (k5, x5), (k6, x6), (k7, x7)] L := uc h1 (uc h2 (uc h3 (uc h4 (uc h5 (uc h6 (uc h7 un))))))
theorem u8 {L : List (Nat × SV)} {k1 k2 k3 k4 k5 k6 k7 k8 : Nat} {x1 x2 x3 x4 x5 x6 x7 x8 : SV} (h1 : look L k1 = some x1) (h2 : look L k2 = some x2) (h3 : look L k3 = some x3) (h4 : look L k4 = some x4) (h5 : look L k5 = some x5) (h6 : look L k6 = some x6) (h7 : look L k7 = some x7) (h8 : look L k8 = some x8) : Sub [(k1, x1), (k2, x2), (k3, x3), (k4, x4), (k5, x5), (k6, x6), (k7, x7), (k8, x8)] L := uc h1 (uc h2 (uc h3 (uc h4 (uc h5 (uc h6 (uc h7 (uc h8 un)))))))
theorem u9 {L : List (Nat × SV)} {k1 k2 k3 k4 k5 k6 k7 k8 k9 : Nat} {x1 x2 x3 x4 x5 x6 x7 x8 x9 : SV} (h1 : look L k1 = some x1) (h2 : look L k2 = some x2) (h3 : look L k3 = some x3) (h4 : look L k4 = some x4) (h5 : look L k5 = some x5) (h6 : look L k6 = some x6) (h7 : look L k7 = some x7) (h8 : look L k8 = some x8) (h9 : look L k9 = some x9) : Sub [(k1, x1), (k2, x2), (k3, x3), (k4, x4), (k5, x5), (k6, x6), (k7, x7), (k8, x8), (k9, x9)] L := uc h1 (uc h2 (uc h3 (uc h4 (uc h5 (uc h6 (uc h7 (uc h8 (uc h9 un))))))))
theorem u10 {L : List (Nat × SV)} {k1 k2 k3 k4 k5 k6 k7 k8 k9 k10 : Nat} {x1 x2 x3 x4 x5 x6 x7 x8 x9 x10 : SV} (h1 : look L k1 = some x1) (h2 : look L k2 = some x2) (h3 : look L k3 = some x3) (h4 : look L k4 = some x4) (h5 : look L k5 = some x5) (h6 : look L k6 = some x6) (h7 : look L k7 = some x7) (h8 : look L k8 = some x8) (h9 : look L k9 = some x9) (h10 : look L k10 = some x10) : Sub [(k1, x1), (k2, x2), (k3, x3), (k4, x4), (k5, x5), (k6, x6), (k7, x7), (k8, x8), (k9, x9), (k10, x10)] L := uc h1 (uc h2 (uc h3 (uc h4 (uc h5 (uc h6 (uc h7 (uc h8 (uc h9 (uc h10 un)))))))))
theorem u11 {L : List (Nat × SV)} {k1 k2 k3 k4 k5 k6 k7 k8 k9 k10 k11 : Nat} {x1 x2 x3 x4 x5 x6 x7 x8 x9 x10 x11 : SV} (h1 : look L k1 = some x1) (h2 : look L k2 = some x2) (h3 : look L k3 = some x3) (h4 : look L k4 = some x4) (h5 : look L k5 = some x5) (h6 : look L k6 = some x6) (h7 : look L k7 = some x7) (h8 : look L k8 = some x8) (h9 : look L k9 = some x9) (h10 : look L k10 = some x10) (h11 : look L k11 = some x11) : Sub [(k1, x1), (k2, x2), (k3, x3), (k4, x4), (k5, x5), (k6, x6), (k7, x7), (k8, x8), (k9, x9), (k10, x10), (k11, x11)] L := uc h1 (uc h2 (uc h3 (uc h4 (uc h5 (uc h6 (uc h7 (uc h8 (uc h9 (uc h10 (uc h11 un))))))))))
theorem fk {v : Value} {x : SV} {p : Res} {l m : List Res} (h : FrzH v x l m) : FrzH v x (p :: l) (p :: m) := frzH_cons rfl rfl rfl frzL_refl h
theorem ar {s : St} {i o : Nat} {r : Res} {q p : Addr} (h1 : s.H[i]? = some r) (h2 : r.v = .pointer (some q)) (h3 : r.row = none) (h4 : p = q.add o) : AtRes s i r q p o := ⟨h1, h2, h3, h4⟩
theorem lr {α : Type} {l : List α} : l.Sublist l := List.Sublist.refl l
theorem tk {K' : Act → World → Prop} {L' : List (Nat × SV)} {H' : List Res} (is : List Nat) (hL : Sub L' L) (hp : PickAt H is H') (k : TX E K' (St.mk n D L' H')) (hn : is.Nodup := by decide) : TX E K' (St.mk n D L H) :=
  tx_pick' is hL hn hp k
theorem qd {K : Act → World → (Nat → Prop) → Prop} {d : Nat} {x : SV} (hr : Rd P (St.mk n D L H) o x) (k : QX E P ops K rest (St.mk n D ((d, x) :: L) H)) (hd : o.dst = some d := by rfl) (hn : Nat.ble (d + 1) n = true := by rfl) (hw : o.guard = none := by rfl) : QX E P ops K (o :: rest) (St.mk n D L H) :=
  qx_rd' hr hd hn (wt_none' hw) k
theorem pd {Bs : List Nat} {late pl : List (Nat × Nat)} {ix : Nat} {d : Nat} {x : SV} (hi : ops[ix]? = some o) (hr : Rd P (St.mk n D L H) o x) (k : PX E P ops Q Bs late pl (St.mk n D ((d, x) :: L) H)) (hd : o.dst = some d := by rfl) (hn : Nat.ble (d + 1) n = true := by rfl) (hw : o.guard = none := by rfl) : PX E P ops Q Bs late ((ix, 1) :: pl) (St.mk n D L H) :=
  px_rd' hi hr hd hn (wt_none' hw) k
theorem so {l : Nat} {X : Type} {S : X → St} (h : OX E P o l S (St.mk n D L H)) (k : ∀ x, SX E P ops Q rest (S x)) (hw : o.guard = none := by rfl) : SX E P ops Q (o :: rest) (St.mk n D L H) :=
  sx_ox' h (wt_none' hw) k
theorem oz {dst : Option Tmp} {ty : TypeId} {pos : String} {af : Array Edge} {g : Option (Nat × Bool)} {c : Call} {f d : Nat} {A : List SV} {X : Type} {r : X → SV} (he : Ent P (St.mk n D L H) c f A) (hc : Fn P f A [] r (fun _ => [])) (hd : dst = some d := by rfl) (hdn : Nat.ble (d + 1) n = true := by rfl) : OX E P ⟨dst, .call c, ty, pos, af, g⟩ 0 (fun x : X => (St.mk n D ((d, r x) :: L) H)) (St.mk n D L H) :=
  ox_calln' he hc (fun _ => rfl) hd hdn
end Go.Sx
