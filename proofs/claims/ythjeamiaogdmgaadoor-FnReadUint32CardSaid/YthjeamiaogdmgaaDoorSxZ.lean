/-
  The steps once more, over a state that is written out. Ours; it knows no program. Printed by a program of ours out of the steps' own headings.
-/
import Derived.Test.YthjeamiaogdmgaaDoorSxU
namespace Go.Sx
set_option linter.unusedVariables false
set_option linter.unusedSectionVars false
variable [Gv] {E : Env} {P : Program} {Q : Exit → Act → World → Prop} {ops : Array Oper} {rest : List Oper} {o : Oper} {n : Nat} {D : List Deferred} {L : List (Nat × SV)} {H : List Res}
  {Bs : List Nat} {late pl : List (Nat × Nat)} {ix : Nat} {dst d : Option Tmp} {ty : TypeId} {pos : String} {af : Array Edge} {g : Option (Nat × Bool)} {fn : Func} {X : Type} {r : X → SV} {HR : X → List Res}

theorem sym_weak' {a : Act} {w : World} (h : Sym E (St.mk n D L H) a w) {L' : List (Nat × SV)} {H' H'' : List Res} (hL : Sub L' L) (hp : H.Perm H'') (hk : Keep H' H'') : Sym E (St.mk n D L' H') a w :=
  Sym.weak h hL hp hk

theorem cx_seq' {x y : Code} (h : ∀ K : Act → World → Prop, (∀ a w, y.wp P Q a w → K a w) → CX E P x (Exit.then K Q) (St.mk n D L H)) : CX E P (.seq x y) Q (St.mk n D L H) :=
  cx_seq (s := ⟨n, D, L, H⟩) h

theorem cx_join' {x y : Code} {X : Type} (J : X → St) (ok : X → Prop) (h2 : ∀ v, ok v → CX E P y Q (J v)) (h1 : ∀ K : Act → World → Prop, (∀ v, ok v → TX E K (J v)) → CX E P x (Exit.then K Q) (St.mk n D L H)) : CX E P (.seq x y) Q (St.mk n D L H) :=
  cx_join (s := ⟨n, D, L, H⟩) J ok h2 h1

theorem cx_skip' (h : TX E (Q .normal) (St.mk n D L H)) : CX E P .skip Q (St.mk n D L H) :=
  cx_skip (s := ⟨n, D, L, H⟩) h

theorem cx_exit' {id : Nat} (h : TX E (Q (.exit id)) (St.mk n D L H)) : CX E P (.exit id) Q (St.mk n D L H) :=
  cx_exit (s := ⟨n, D, L, H⟩) h

theorem cx_retc' (h : TX E (Q .ret) (St.mk n D L H)) : CX E P .ret Q (St.mk n D L H) :=
  cx_retc (s := ⟨n, D, L, H⟩) h

theorem cx_block' {id : Nat} {c : Code} (h : CX E P c (Exit.inBlock id Q) (St.mk n D L H)) : CX E P (.block id c) Q (St.mk n D L H) :=
  cx_block (s := ⟨n, D, L, H⟩) h

theorem cx_cond' {c : Operand} {x y : Code} {b : Bool} (hb : ev L c = some (Vl (.bool b))) (ht : b = true → CX E P x Q (St.mk n D L H)) (hf : b = false → CX E P y Q (St.mk n D L H)) : CX E P (.cond c x y) Q (St.mk n D L H) :=
  cx_cond (s := ⟨n, D, L, H⟩) hb ht hf

theorem cx_mono' {c : Code} {Q' : Exit → Act → World → Prop} (h : CX E P c Q (St.mk n D L H)) (hq : ∀ e a w, Q e a w → Q' e a w) : CX E P c Q' (St.mk n D L H) :=
  cx_mono (s := ⟨n, D, L, H⟩) h hq

theorem tx_k' {y : Code} {K : Act → World → Prop} (hK : ∀ a w, y.wp P Q a w → K a w) (h : CX E P y Q (St.mk n D L H)) : TX E K (St.mk n D L H) :=
  tx_k (s := ⟨n, D, L, H⟩) hK h

theorem tx_z' {s' : St} {e0 : Exit} (h : ∀ a w, Sym E (St.mk n D L H) a w → Sym E s' a w) : TX E (Zx E e0 s' e0) (St.mk n D L H) :=
  tx_z (s := ⟨n, D, L, H⟩) h

theorem cx_loop' {c : Code} {X Y : Type} {F : Nat → X → Option Y} {G : Nat → (X → Option Y) → X → Option Y} {k : Nat} {x : X} {y : Y} (J : X → St) (Z : Y → Exit → Act → World → Prop) (h0 : ∀ x, F 0 x = none) (hG : ∀ k x, F (k + 1) x = G k (F k) x) (body : ∀ k (R : X → Option Y) (K : Y → Act → World → Prop), (∀ x y, R x = some y → TX E (K y) (J x)) → ∀ x y, G k R x = some y → CX E P c (Exit.then (K y) (Z y)) (J x)) (hy : F k x = some y) (hs : ∀ a w, Sym E (St.mk n D L H) a w → Sym E (J x) a w) (hz : ∀ e a w, Z y e a w → Q e a w) : CX E P (.loop c) Q (St.mk n D L H) :=
  cx_loop (s := ⟨n, D, L, H⟩) J Z h0 hG body hy hs hz

theorem cx_cond_t' {c : Operand} {x y : Code} {b : Bool} (hb : ev L c = some (Vl (.bool b))) (h : b = true) (k : CX E P x Q (St.mk n D L H)) : CX E P (.cond c x y) Q (St.mk n D L H) :=
  cx_cond_t (s := ⟨n, D, L, H⟩) hb h k

theorem cx_cond_f' {c : Operand} {x y : Code} {b : Bool} (hb : ev L c = some (Vl (.bool b))) (h : b = false) (k : CX E P y Q (St.mk n D L H)) : CX E P (.cond c x y) Q (St.mk n D L H) :=
  cx_cond_f (s := ⟨n, D, L, H⟩) hb h k

theorem cx_region' {id : Nat} {l : List Oper} (h : SX E P l.toArray Q l (St.mk n D L H)) : CX E P (.region id l.toArray false) Q (St.mk n D L H) :=
  cx_region (s := ⟨n, D, L, H⟩) h

theorem sx_nil' (h : TX E (Q .normal) (St.mk n D L H)) : SX E P ops Q [] (St.mk n D L H) :=
  sx_nil (s := ⟨n, D, L, H⟩) h

theorem cx_draw' {id : Nat} {l : List Oper} (hm : P.follows .mixedOrders = true) (hB : Region.lexB .any l.toArray = true) (h : QX E P l.toArray (After (Q .normal)) l (St.mk n D L H)) : CX E P (.region id l.toArray true) Q (St.mk n D L H) :=
  cx_draw (s := ⟨n, D, L, H⟩) hm hB h

theorem qx_nil' {K : Act → World → Prop} (h : TX E K (St.mk n D L H)) : QX E P ops (After K) [] (St.mk n D L H) :=
  qx_nil (s := ⟨n, D, L, H⟩) h

theorem qx_end' {KQ : Act → World → (Nat → Prop) → Prop} (h : TQ E KQ (St.mk n D L H)) : QX E P ops KQ [] (St.mk n D L H) :=
  qx_end (s := ⟨n, D, L, H⟩) h

theorem sx_cut' {l1 l2 : List Oper} {X : Type} (J : X → St) (ok : X → Prop) (h2 : ∀ v, ok v → SX E P ops Q l2 (J v)) (h1 : ∀ K : Act → World → Prop, (∀ v, ok v → TX E K (J v)) → SX E P ops (Exit.then K Q) l1 (St.mk n D L H)) : SX E P ops Q (l1 ++ l2) (St.mk n D L H) :=
  sx_cut (s := ⟨n, D, L, H⟩) J ok h2 h1

theorem sx_cutn' (nn : Nat) {X : Type} (J : X → St) (ok : X → Prop) (h2 : ∀ v, ok v → SX E P ops Q (rest.drop nn) (J v)) (h1 : ∀ K : Act → World → Prop, (∀ v, ok v → TX E K (J v)) → SX E P ops (Exit.then K Q) (rest.take nn) (St.mk n D L H)) : SX E P ops Q rest (St.mk n D L H) :=
  sx_cutn (s := ⟨n, D, L, H⟩) nn J ok h2 h1

theorem qx_cutn' {KQ : Act → World → (Nat → Prop) → Prop} (nn : Nat) {X : Type} (J : X → St) (ok : X → Prop) (h2 : ∀ v, ok v → QX E P ops KQ (rest.drop nn) (J v)) (h1 : ∀ K : Act → World → (Nat → Prop) → Prop, (∀ v, ok v → TQ E K (J v)) → QX E P ops K (rest.take nn) (St.mk n D L H)) : QX E P ops KQ rest (St.mk n D L H) :=
  qx_cutn (s := ⟨n, D, L, H⟩) nn J ok h2 h1

theorem wt_none' (h : o.guard = none) : Wt ops (St.mk n D L H) o true :=
  wt_none (s := ⟨n, D, L, H⟩) h

theorem wt_guard' {j d : Nat} {want b : Bool} (h : o.guard = some (j, want)) (hd : (ops[j]?).bind (·.dst) = some d) (hl : look L d = some (Vl (.bool b))) : Wt ops (St.mk n D L H) o (b == want) :=
  wt_guard (s := ⟨n, D, L, H⟩) h hd hl

theorem wt_undef' {j d : Nat} {want : Bool} (h : o.guard = some (j, want)) (hd : (ops[j]?).bind (·.dst) = some d) (hl : look L d = some (Vl undef)) : Wt ops (St.mk n D L H) o false :=
  wt_undef (s := ⟨n, D, L, H⟩) h hd hl

theorem wt_is' {b c : Bool} (h : Wt ops (St.mk n D L H) o b) (e : b = c) : Wt ops (St.mk n D L H) o c :=
  wt_is (s := ⟨n, D, L, H⟩) h e

theorem sx_rd' {d : Nat} {x : SV} (hr : Rd P (St.mk n D L H) o x) (hd : o.dst = some d) (hn : Nat.ble (d + 1) n = true) (hw : Wt ops (St.mk n D L H) o true) (k : SX E P ops Q rest ((St.mk n D ((d, x) :: L) H))) : SX E P ops Q (o :: rest) (St.mk n D L H) :=
  sx_rd (s := ⟨n, D, L, H⟩) hr hd hn hw k

theorem sx_skip' {d : Nat} (hd : o.dst = some d) (hn : Nat.ble (d + 1) n = true) (hw : Wt ops (St.mk n D L H) o false) (k : SX E P ops Q rest ((St.mk n D ((d, Vl undef) :: L) H))) : SX E P ops Q (o :: rest) (St.mk n D L H) :=
  sx_skip (s := ⟨n, D, L, H⟩) hd hn hw k

theorem sx_skip0' (hd : o.dst = none) (hw : Wt ops (St.mk n D L H) o false) (k : SX E P ops Q rest (St.mk n D L H)) : SX E P ops Q (o :: rest) (St.mk n D L H) :=
  sx_skip0 (s := ⟨n, D, L, H⟩) hd hw k

theorem qx_rd' {K : Act → World → (Nat → Prop) → Prop} {d : Nat} {x : SV} (hr : Rd P (St.mk n D L H) o x) (hd : o.dst = some d) (hn : Nat.ble (d + 1) n = true) (hw : Wt ops (St.mk n D L H) o true) (k : QX E P ops K rest ((St.mk n D ((d, x) :: L) H))) : QX E P ops K (o :: rest) (St.mk n D L H) :=
  qx_rd (s := ⟨n, D, L, H⟩) hr hd hn hw k

theorem qx_skip' {K : Act → World → (Nat → Prop) → Prop} {d : Nat} (hd : o.dst = some d) (hn : Nat.ble (d + 1) n = true) (hw : Wt ops (St.mk n D L H) o false) (k : QX E P ops K rest ((St.mk n D ((d, Vl undef) :: L) H))) : QX E P ops K (o :: rest) (St.mk n D L H) :=
  qx_skip (s := ⟨n, D, L, H⟩) hd hn hw k

theorem rd_move' {X : Operand} {x : SV} (hx : ev L X = some x) : Rd P (St.mk n D L H) ⟨d, .move X, ty, pos, af, g⟩ x :=
  rd_move (s := ⟨n, D, L, H⟩) hx

theorem rd_assign' {X : Operand} {x : SV} (hx : ev L X = some x) : Rd P (St.mk n D L H) ⟨d, .assign X, ty, pos, af, g⟩ x :=
  rd_assign (s := ⟨n, D, L, H⟩) hx

theorem rd_pick_true' {C X Y : Operand} {x : SV} {b : Bool} (hc : ev L C = some (Vl (.bool b))) (hb : b = true) (hx : ev L X = some x) : Rd P (St.mk n D L H) ⟨d, .pick C X Y, ty, pos, af, g⟩ x :=
  rd_pick_true (s := ⟨n, D, L, H⟩) hc hb hx

theorem rd_pick_false' {C X Y : Operand} {x : SV} {b : Bool} (hc : ev L C = some (Vl (.bool b))) (hb : b = false) (hx : ev L Y = some x) : Rd P (St.mk n D L H) ⟨d, .pick C X Y, ty, pos, af, g⟩ x :=
  rd_pick_false (s := ⟨n, D, L, H⟩) hc hb hx

theorem rd_bin' {op : BinOp} {tx t2 : TypeId} {X Y : Operand} {x y v : Value} (hx : ev L X = some (Vl x)) (hy : ev L Y = some (Vl y)) (hg : Runs P (eqGuard op tx X Y x y) ()) (hr : Runs P (binOp op tx x y) v) : Rd P (St.mk n D L H) ⟨d, .binOp op tx X Y t2, ty, pos, af, g⟩ (Vl v) :=
  rd_bin (s := ⟨n, D, L, H⟩) hx hy hg hr

theorem rd_un' {op : UnOp} {tx : TypeId} {X : Operand} {x v : Value} (hx : ev L X = some (Vl x)) (hr : Runs P (Op.unary op x) v) : Rd P (St.mk n D L H) ⟨d, .unOp op tx X, ty, pos, af, g⟩ (Vl v) :=
  rd_un (s := ⟨n, D, L, H⟩) hx hr

theorem rd_conv' {t1 t2 : TypeId} {X : Operand} {x v : Value} (hx : ev L X = some (Vl x)) (hr : Runs P (convert t1 t2 x) v) : Rd P (St.mk n D L H) ⟨d, .convert t1 t2 X, ty, pos, af, g⟩ (Vl v) :=
  rd_conv (s := ⟨n, D, L, H⟩) hx hr

theorem rd_extract' {X : Operand} {l : List SV} {i : Nat} {x : SV} (hx : ev L X = some (Tu l)) (hi : l[i]? = some x) : Rd P (St.mk n D L H) ⟨d, .extract X i, ty, pos, af, g⟩ x :=
  rd_extract (s := ⟨n, D, L, H⟩) hx hi

theorem rd_iface' {t : TypeId} {X : Operand} {x : SV} (hx : ev L X = some x) (hu : ∃ u, P.underlying t = some u ∧ (∀ ms, u ≠ .interface ms)) : Rd P (St.mk n D L H) ⟨d, .makeInterface t X, ty, pos, af, g⟩ (If t x) :=
  rd_iface (s := ⟨n, D, L, H⟩) hx hu

theorem rd_func' {fn : Go.Fn} {F C : Array Operand} {vs us : List Value} (hf : ∀ E a w U, SymAt E (St.mk n D L H) a w U → F.map a.eval = ⟨vs⟩) (hc : ∀ E a w U, SymAt E (St.mk n D L H) a w U → C.map a.eval = ⟨us⟩) : Rd P (St.mk n D L H) ⟨d, .makeFunc fn F C, ty, pos, af, g⟩ (Vl (.func fn ⟨vs⟩ ⟨us⟩)) :=
  rd_func (s := ⟨n, D, L, H⟩) hf hc

theorem rd_len' {α : Type} {K : Kd α} {xs : List α} {X : Operand} {t e : TypeId} (hx : ev L X = some (Sl K xs)) (ht : P.underlying t = some (.slice e)) : Rd P (St.mk n D L H) ⟨d, .call { callee := .builtin .len, args := #[X], argTypes := #[t] }, ty, pos, af, g⟩ (Vl (.int .i64 xs.length)) :=
  rd_len (s := ⟨n, D, L, H⟩) hx ht

theorem rd_at' {α : Type} {K : Kd α} {xs : List α} {x : α} {X I : Operand} {k : IntKind} {i : Int} {t e : TypeId} {z : Option Value} {bytes : Nat} (hx : ev L X = some (Sl K xs)) (hi : ev L I = some (Vl (.int k i))) (hg : idx xs i = some x) (ht : P.underlying t = some (.slice e)) (he : (P.info? e).map (fun i => (i.zero, i.size, i.bytes)) = some (z, K.size, bytes)) : Rd P (St.mk n D L H) ⟨d, .indexAddr t X I, ty, pos, af, g⟩ (Pt (K.enc x)) :=
  rd_at (s := ⟨n, D, L, H⟩) hx hi hg ht he

theorem sx_box' {d : Nat} {t : TypeId} {X : Operand} {x : SV} {l : List SV} (hx : ev L X = some x) (hl : Lv x l) (hd : dst = some d) (hn : Nat.ble (d + 1) n = true) (hw : Wt ops (St.mk n D L H) ⟨dst, .box t X, ty, pos, af, g⟩ true) (k : ∀ q : Addr, SX E P ops Q rest (St.mk n D ((d, Vl (.pointer (some q))) :: L) (⟨.pointer (some q), l, t, none⟩ :: H))) : SX E P ops Q (⟨dst, .box t X, ty, pos, af, g⟩ :: rest) (St.mk n D L H) :=
  sx_box (s := ⟨n, D, L, H⟩) hx hl hd hn hw k

theorem sx_alloc' {d : Nat} {t : TypeId} {zs : List Value} {size bytes : Nat} {z : Value} (hz : (P.info? t).map (fun i => (i.zero, i.size, i.bytes)) = some (some z, size, bytes)) (hc : z.cells = ⟨zs⟩) (h1 : zs.all (·.oneCell') = true) (hd : dst = some d) (hn : Nat.ble (d + 1) n = true) (hw : Wt ops (St.mk n D L H) ⟨dst, .alloc t, ty, pos, af, g⟩ true) {l : List SV} (hl : zs.map Vl = l) (k : ∀ q : Addr, SX E P ops Q rest (St.mk n D ((d, Vl (.pointer (some q))) :: L) (⟨.pointer (some q), l, t, none⟩ :: H))) : SX E P ops Q (⟨dst, .alloc t, ty, pos, af, g⟩ :: rest) (St.mk n D L H) :=
  sx_alloc (s := ⟨n, D, L, H⟩) hz hc h1 hd hn hw hl k

theorem rd_field' {t : TypeId} {X : Operand} {q : Addr} {f : Nat} {fs : Array Field} {fd : Field} (hx : ev L X = some (Vl (.pointer (some q)))) (ht : P.underlying t = some (.struct fs)) (hf : fs[f]? = some fd) {z : Option Value} {nn bytes : Nat} (hz : (P.info? fd.type).map (fun i => (i.zero, i.size, i.bytes)) = some (z, nn + 1, bytes)) {off : Nat} (hoff : fd.offset = off) : Rd P (St.mk n D L H) ⟨dst, .fieldAddr t X f, ty, pos, af, g⟩ (Vl (.pointer (some (q.add off)))) :=
  rd_field (s := ⟨n, D, L, H⟩) hx ht hf hz hoff

theorem rd_field_pt' {t : TypeId} {X : Operand} {l : List SV} {f : Nat} {fs : Array Field} {fd : Field} (hx : ev L X = some (Pt l)) (ht : P.underlying t = some (.struct fs)) (hf : fs[f]? = some fd) {z : Option Value} {nn bytes : Nat} (hz : (P.info? fd.type).map (fun i => (i.zero, i.size, i.bytes)) = some (z, nn + 1, bytes)) {off : Nat} (hoff : fd.offset = off) {l' : List SV} (hl' : l.drop off = l') : Rd P (St.mk n D L H) ⟨dst, .fieldAddr t X f, ty, pos, af, g⟩ (Pt l') :=
  rd_field_pt (s := ⟨n, D, L, H⟩) hx ht hf hz hoff hl'

theorem rd_load' {t : TypeId} {X : Operand} {i o : Nat} {r : Res} {q p : Addr} {x : SV} (hx : ev L X = some (Vl (.pointer (some p)))) (hr : AtRes (St.mk n D L H) i r q p o) (hc : r.cs[o]? = some x) (ht : Flat P t) : Rd P (St.mk n D L H) ⟨dst, .load t X, ty, pos, af, g⟩ x :=
  rd_load (s := ⟨n, D, L, H⟩) hx hr hc ht

theorem rd_load_agg' {t : TypeId} {X : Operand} {i o nn : Nat} {r : Res} {q p : Addr} (hx : ev L X = some (Vl (.pointer (some p)))) (hr : AtRes (St.mk n D L H) i r q p o) (hc : Nat.ble (o + nn) r.cs.length = true) (ht : Agg P t nn) {l' : List SV} (hl' : (r.cs.drop o).take nn = l') : Rd P (St.mk n D L H) ⟨dst, .load t X, ty, pos, af, g⟩ (Ag l') :=
  rd_load_agg (s := ⟨n, D, L, H⟩) hx hr hc ht hl'

theorem rd_load_pt' {t : TypeId} {X : Operand} {l : List SV} {x : SV} (hx : ev L X = some (Pt l)) (hc : l[0]? = some x) (ht : Flat P t) : Rd P (St.mk n D L H) ⟨dst, .load t X, ty, pos, af, g⟩ x :=
  rd_load_pt (s := ⟨n, D, L, H⟩) hx hc ht

theorem rd_load_pt_agg' {t : TypeId} {X : Operand} {l : List SV} {nn : Nat} (hx : ev L X = some (Pt l)) (hc : Nat.ble nn l.length = true) (ht : Agg P t nn) {l' : List SV} (hl' : l.take nn = l') : Rd P (St.mk n D L H) ⟨dst, .load t X, ty, pos, af, g⟩ (Ag l') :=
  rd_load_pt_agg (s := ⟨n, D, L, H⟩) hx hc ht hl'

theorem rd_part' {t : TypeId} {X : Operand} {l : List SV} {f : Nat} {fs : Array Field} {fd : Field} {x : SV} (hx : ev L X = some (Ag l)) (ht : P.underlying t = some (.struct fs)) (hf : fs[f]? = some fd) {off : Nat} (hc : l[off]? = some x) (hfl : Flat P fd.type) (hoff : fd.offset = off) : Rd P (St.mk n D L H) ⟨dst, .field t X f, ty, pos, af, g⟩ x :=
  rd_part (s := ⟨n, D, L, H⟩) hx ht hf hc hfl hoff

theorem sx_call' {f d : Nat} {fn : Func} {Xs : List Operand} {ts : Array TypeId} {A : List SV} {HA H' : List Res} {X : Type} {r : X → SV} {HR : X → List Res} (hc : Fn P f A HA r HR) (hf : P.funcs[f]? = some fn) (hn : (fn.name == "runtime.NumGoroutine") = false) (hb : fn.body.isNone = false) (ha : evs L Xs = some A) (hH : H.Perm (HA ++ H')) (hd : dst = some d) (hdn : Nat.ble (d + 1) n = true) (hw : Wt ops (St.mk n D L H) ⟨dst, .call { callee := .value (.func f), args := ⟨Xs⟩, argTypes := ts }, ty, pos, af, g⟩ true) (k : ∀ x, SX E P ops Q rest (St.mk n D ((d, r x) :: L) (HR x ++ H'))) : SX E P ops Q (⟨dst, .call { callee := .value (.func f), args := ⟨Xs⟩, argTypes := ts }, ty, pos, af, g⟩ :: rest) (St.mk n D L H) :=
  sx_call (s := ⟨n, D, L, H⟩) hc hf hn hb ha hH hd hdn hw k

theorem sx_call0' {f : Nat} {fn : Func} {Xs : List Operand} {ts : Array TypeId} {A : List SV} {HA H' : List Res} {X : Type} {r : X → SV} {HR : X → List Res} (hc : Fn P f A HA r HR) (hf : P.funcs[f]? = some fn) (hn : (fn.name == "runtime.NumGoroutine") = false) (hb : fn.body.isNone = false) (ha : evs L Xs = some A) (hH : H.Perm (HA ++ H')) (hd : dst = none) (hw : Wt ops (St.mk n D L H) ⟨dst, .call { callee := .value (.func f), args := ⟨Xs⟩, argTypes := ts }, ty, pos, af, g⟩ true) (k : ∀ x, SX E P ops Q rest (St.mk n D (L) (HR x ++ H'))) : SX E P ops Q (⟨dst, .call { callee := .value (.func f), args := ⟨Xs⟩, argTypes := ts }, ty, pos, af, g⟩ :: rest) (St.mk n D L H) :=
  sx_call0 (s := ⟨n, D, L, H⟩) hc hf hn hb ha hH hd hw k

theorem qx_call' {K : Act → World → (Nat → Prop) → Prop} {f d : Nat} {fn : Func} {Xs : List Operand} {ts : Array TypeId} {A : List SV} {r : SV} {u : Value} (hc : Fp P f A r) (hdet : Det r u) (hf : P.funcs[f]? = some fn) (hn : (fn.name == "runtime.NumGoroutine") = false) (hb : fn.body.isNone = false) (ha : evs L Xs = some A) (hd : dst = some d) (hdn : Nat.ble (d + 1) n = true) (hw : Wt ops (St.mk n D L H) ⟨dst, .call { callee := .value (.func f), args := ⟨Xs⟩, argTypes := ts }, ty, pos, af, g⟩ true) (k : QX E P ops K rest (St.mk n D ((d, r) :: L) (H))) : QX E P ops K (⟨dst, .call { callee := .value (.func f), args := ⟨Xs⟩, argTypes := ts }, ty, pos, af, g⟩ :: rest) (St.mk n D L H) :=
  qx_call (s := ⟨n, D, L, H⟩) hc hdet hf hn hb ha hd hdn hw k

theorem rv_tmp' {t : Nat} {x : SV} (h : look L t = some x) : Rv P (St.mk n D L H) (.tmp t) x :=
  rv_tmp (s := ⟨n, D, L, H⟩) h

theorem rv_cell' {t : Nat} {ty : TypeId} {i o : Nat} {q : Res} {ad p : Addr} {x : SV} (hx : look L t = some (Vl (.pointer (some p)))) (hr : AtRes (St.mk n D L H) i q ad p o) (hc : q.cs[o]? = some x) (ht : Flat P ty) : Rv P (St.mk n D L H) (.cell t ty) x :=
  rv_cell (s := ⟨n, D, L, H⟩) hx hr hc ht

theorem rv_cell_agg' {t : Nat} {ty : TypeId} {i o nn : Nat} {q : Res} {ad p : Addr} (hx : look L t = some (Vl (.pointer (some p)))) (hr : AtRes (St.mk n D L H) i q ad p o) (hc : Nat.ble (o + nn) q.cs.length = true) (ht : Agg P ty nn) {l' : List SV} (hl' : (q.cs.drop o).take nn = l') : Rv P (St.mk n D L H) (.cell t ty) (Ag l') :=
  rv_cell_agg (s := ⟨n, D, L, H⟩) hx hr hc ht hl'

theorem tx_ret1' {rv : ResultVar} (hres : fn.results = #[rv]) (hD : D = []) (x : X) (h : Rv P (St.mk n D L H) rv (r x)) (hH : Keep (HR x) H) : TX E (bodyPost P fn (PostE E r HR) .ret) (St.mk n D L H) :=
  tx_ret1 (s := ⟨n, D, L, H⟩) hres hD x h hH

theorem tx_ret2' {rv rv' : ResultVar} {y z : SV} (hres : fn.results = #[rv, rv']) (hD : D = []) (x : X) (h : Rv P (St.mk n D L H) rv y) (h' : Rv P (St.mk n D L H) rv' z) (hx : r x = Tu [y, z]) (hH : Keep (HR x) H) : TX E (bodyPost P fn (PostE E r HR) .ret) (St.mk n D L H) :=
  tx_ret2 (s := ⟨n, D, L, H⟩) hres hD x h h' hx hH

theorem tx_ret3' {rv rv' rv'' : ResultVar} {y z z' : SV} (hres : fn.results = #[rv, rv', rv'']) (hD : D = []) (x : X) (h : Rv P (St.mk n D L H) rv y) (h' : Rv P (St.mk n D L H) rv' z) (h'' : Rv P (St.mk n D L H) rv'' z') (hx : r x = Tu [y, z, z']) (hH : Keep (HR x) H) : TX E (bodyPost P fn (PostE E r HR) .ret) (St.mk n D L H) :=
  tx_ret3 (s := ⟨n, D, L, H⟩) hres hD x h h' h'' hx hH

theorem tx_ret0' (hres : fn.results = #[]) (hD : D = []) (x : X) (hx : r x = Vl (.tuple #[])) (hH : Keep (HR x) H) : TX E (bodyPost P fn (PostE E r HR) .ret) (St.mk n D L H) :=
  tx_ret0 (s := ⟨n, D, L, H⟩) hres hD x hx hH

theorem tx_end0' (hres : fn.results = #[]) (hD : D = []) (x : X) (hx : r x = Vl (.tuple #[])) (hH : Keep (HR x) H) : TX E (bodyPost P fn (PostE E r HR) .normal) (St.mk n D L H) :=
  tx_end0 (s := ⟨n, D, L, H⟩) hres hD x hx hH

theorem rd_ext' {f : Nat} {Xs : List Operand} {ts : Array TypeId} {us : List Value} {v : Value} (ha : evs L Xs = some (us.map Vl)) (hr : Runs P (callFunc f us.toArray) (.value v)) : Rd P (St.mk n D L H) ⟨d, .call { callee := .value (.func f), args := ⟨Xs⟩, argTypes := ts }, ty, pos, af, g⟩ (Vl v) :=
  rd_ext (s := ⟨n, D, L, H⟩) ha hr

theorem rd_fmax' {X Y : Operand} {x y r : Nat} {ts : Array TypeId} (hx : ev L X = some (Vl (.float .f64 x))) (hy : ev L Y = some (Vl (.float .f64 y))) (h : fmax x y = some r) : Rd P (St.mk n D L H) ⟨d, .call { callee := .builtin .max, args := #[X, Y], argTypes := ts }, ty, pos, af, g⟩ (Vl (.float .f64 r)) :=
  rd_fmax (s := ⟨n, D, L, H⟩) hx hy h

theorem rd_fmin' {X Y : Operand} {x y r : Nat} {ts : Array TypeId} (hx : ev L X = some (Vl (.float .f64 x))) (hy : ev L Y = some (Vl (.float .f64 y))) (h : fmin x y = some r) : Rd P (St.mk n D L H) ⟨d, .call { callee := .builtin .min, args := #[X, Y], argTypes := ts }, ty, pos, af, g⟩ (Vl (.float .f64 r)) :=
  rd_fmin (s := ⟨n, D, L, H⟩) hx hy h

theorem rd_imax' {X Y : Operand} {k : IntKind} {x y : Int} {ts : Array TypeId} (hx : ev L X = some (Vl (.int k x))) (hy : ev L Y = some (Vl (.int k y))) : Rd P (St.mk n D L H) ⟨d, .call { callee := .builtin .max, args := #[X, Y], argTypes := ts }, ty, pos, af, g⟩ (Vl (.int k (imax x y))) :=
  rd_imax (s := ⟨n, D, L, H⟩) hx hy

theorem rd_imin' {X Y : Operand} {k : IntKind} {x y : Int} {ts : Array TypeId} (hx : ev L X = some (Vl (.int k x))) (hy : ev L Y = some (Vl (.int k y))) : Rd P (St.mk n D L H) ⟨d, .call { callee := .builtin .min, args := #[X, Y], argTypes := ts }, ty, pos, af, g⟩ (Vl (.int k (imin x y))) :=
  rd_imin (s := ⟨n, D, L, H⟩) hx hy

theorem tx_imp' {E : Env} {K : Act → World → Prop} {s' : St} (h : ∀ a w U, SymAt E (St.mk n D L H) a w U → Sym E s' a w) (k : TX E K s') : TX E K (St.mk n D L H) :=
  tx_imp (s := ⟨n, D, L, H⟩) h k

theorem tx_freeze_row' {E : Env} {K' : Act → World → Prop} (i t : Nat) {α : Type} {K : Kd α} {xs : List α} {v : Value} {e : TypeId} (hK : 0 < K.size) (hi : H[i]? = some ⟨v, xs.flatMap K.enc, e, some K.size⟩) (ht : look L t = some (Vl v)) (hn : Nat.ble (t + 1) n = true) (k : TX E K' (St.mk n D ((t, Sl K xs) :: L) (H.eraseIdx i))) : TX E K' (St.mk n D L H) :=
  tx_freeze_row (s := ⟨n, D, L, H⟩) i t hK hi ht hn k

theorem tx_freeze_var' {E : Env} {K' : Act → World → Prop} (i t : Nat) {cs : List SV} {q : Addr} {e : TypeId} (hi : H[i]? = some ⟨.pointer (some q), cs, e, none⟩) (ht : look L t = some (Vl (.pointer (some q)))) (k : TX E K' (St.mk n D ((t, Pt cs) :: L) (H.eraseIdx i))) : TX E K' (St.mk n D L H) :=
  tx_freeze_var (s := ⟨n, D, L, H⟩) i t hi ht k

theorem tx_weak' {E : Env} {K' : Act → World → Prop} {L' : List (Nat × SV)} {H' H'' : List Res} (hL : Sub L' L) (hp : H.Perm H'') (hk : Keep H' H'') (k : TX E K' (St.mk n D (L') (H'))) : TX E K' (St.mk n D L H) :=
  tx_weak (s := ⟨n, D, L, H⟩) hL hp hk k

theorem tx_front' {E : Env} {K' : Act → World → Prop} (i : Nat) {r : Res} (hi : H[i]? = some r) (k : TX E K' (St.mk n D (L) (r :: H.eraseIdx i))) : TX E K' (St.mk n D L H) :=
  tx_front (s := ⟨n, D, L, H⟩) i hi k

theorem tx_nilsl' {E : Env} {K' : Act → World → Prop} (t : Nat) {α : Type} (K : Kd α) (ht : look L t = some (Vl (.slice none 0 0))) (hn : Nat.ble (t + 1) n = true) (k : TX E K' (St.mk n D ((t, Sl K []) :: L) (H))) : TX E K' (St.mk n D L H) :=
  tx_nilsl (s := ⟨n, D, L, H⟩) t K ht hn k

theorem tq_nilsl' {E : Env} {K' : Act → World → (Nat → Prop) → Prop} (t : Nat) {α : Type} (K : Kd α) (ht : look L t = some (Vl (.slice none 0 0))) (hn : Nat.ble (t + 1) n = true) (k : TQ E K' (St.mk n D ((t, Sl K []) :: L) (H))) : TQ E K' (St.mk n D L H) :=
  tq_nilsl (s := ⟨n, D, L, H⟩) t K ht hn k

theorem tq_weak' {E : Env} {K' : Act → World → (Nat → Prop) → Prop} {L' : List (Nat × SV)} {H' : List Res} (hL : Sub L' L) (hk : Keep H' H) (k : TQ E K' (St.mk n D (L') (H'))) : TQ E K' (St.mk n D L H) :=
  tq_weak (s := ⟨n, D, L, H⟩) hL hk k

theorem sx_store' {t : TypeId} {X V : Operand} {x : SV} {l : List SV} {i o : Nat} {r : Res} {q p : Addr} {z : Option Value} {bytes : Nat} (hx : ev L X = some (Vl (.pointer (some p)))) (hv : ev L V = some x) (hl : Lv x l) (hr : AtRes (St.mk n D L H) i r q p o) (hle : Nat.ble (o + l.length) r.cs.length = true) (hz : (P.info? t).map (fun i => (i.zero, i.size, i.bytes)) = some (z, l.length, bytes)) (hd : dst = none) (hw : Wt ops (St.mk n D L H) ⟨dst, .store t X V, ty, pos, af, g⟩ true) {H' : List Res} (hH' : H.set i { r with cs := putS r.cs o l } = H') (k : SX E P ops Q rest (St.mk n D (L) (H'))) : SX E P ops Q (⟨dst, .store t X V, ty, pos, af, g⟩ :: rest) (St.mk n D L H) :=
  sx_store (s := ⟨n, D, L, H⟩) hx hv hl hr hle hz hd hw hH' k

theorem rd_lenv' {b : Option Addr} {nn c : Nat} {X : Operand} {t e : TypeId} (hx : ev L X = some (Vl (.slice b nn c))) (ht : P.underlying t = some (.slice e)) : Rd P (St.mk n D L H) ⟨dst, .call { callee := .builtin .len, args := #[X], argTypes := #[t] }, ty, pos, af, g⟩ (Vl (.int .i64 nn)) :=
  rd_lenv (s := ⟨n, D, L, H⟩) hx ht

theorem rd_atv' {q : Addr} {nn c : Nat} {X I : Operand} {k : IntKind} {i : Int} {t e : TypeId} {z : Option Value} {size bytes : Nat} (hx : ev L X = some (Vl (.slice (some q) nn c))) (hi : ev L I = some (Vl (.int k i))) (h0 : 0 ≤ i) (h1 : i < nn) (ht : P.underlying t = some (.slice e)) (he : (P.info? e).map (fun i => (i.zero, i.size, i.bytes)) = some (z, size, bytes)) : Rd P (St.mk n D L H) ⟨dst, .indexAddr t X I, ty, pos, af, g⟩ (Vl (.pointer (some (q.add (i.toNat * size))))) :=
  rd_atv (s := ⟨n, D, L, H⟩) hx hi h0 h1 ht he

theorem rd_load_row' {t : TypeId} {X : Operand} {i o : Nat} {r : Res} {q : Addr} {nn c size : Nat} {x : SV} (hx : ev L X = some (Vl (.pointer (some (q.add o))))) (hr : AtRow (St.mk n D L H) i r q nn c size) (hc : r.cs[o]? = some x) (ht : Flat P t) : Rd P (St.mk n D L H) ⟨dst, .load t X, ty, pos, af, g⟩ x :=
  rd_load_row (s := ⟨n, D, L, H⟩) hx hr hc ht

theorem sx_store_row' {t : TypeId} {X V : Operand} {x : SV} {l : List SV} {i o : Nat} {r : Res} {q : Addr} {nn c es : Nat} {z : Option Value} {bytes : Nat} (hx : ev L X = some (Vl (.pointer (some (q.add o))))) (hv : ev L V = some x) (hl : Lv x l) (hr : AtRow (St.mk n D L H) i r q nn c es) (hle : o + l.length ≤ r.cs.length) (hz : (P.info? t).map (fun i => (i.zero, i.size, i.bytes)) = some (z, l.length, bytes)) (hd : dst = none) (hw : Wt ops (St.mk n D L H) ⟨dst, .store t X V, ty, pos, af, g⟩ true) {H' : List Res} (hH' : H.set i { r with cs := putS r.cs o l } = H') (k : SX E P ops Q rest (St.mk n D (L) (H'))) : SX E P ops Q (⟨dst, .store t X V, ty, pos, af, g⟩ :: rest) (St.mk n D L H) :=
  sx_store_row (s := ⟨n, D, L, H⟩) hx hv hl hr hle hz hd hw hH' k

theorem rd_build' {t : TypeId} {ps : List (Nat × Operand)} {fs : List Field} {zs : List Value} {z : Value} {size bytes : Nat} {pls : List (Nat × Nat)} {qs : List (Nat × List SV)} {r : List SV} (hp : PartsEv L ps qs) (ht : P.underlying t = some (.struct ⟨fs⟩)) (hfs : ∀ f ∈ fs, (P.info? f.type).isSome = true) (hpl : placesOf P fs = pls) (hz : (P.info? t).map (fun i => (i.zero, i.size, i.bytes)) = some (some z, size, bytes)) (hzc : z.cells = ⟨zs⟩) (h1 : zs.all (·.oneCell') = true) (hf : fillS (fun i : Nat => pls[i]?) (zs.map Vl) qs = some r) : Rd P (St.mk n D L H) ⟨dst, .build t ⟨ps⟩, ty, pos, af, g⟩ (Ag r) :=
  rd_build (s := ⟨n, D, L, H⟩) hp ht hfs hpl hz hzc h1 hf

theorem sx_buildSlice' {d : Nat} {t e : TypeId} {len : Nat} {ps : List (Nat × Operand)} {zs : List Value} {z : Value} {size bytes : Nat} {qs : List (Nat × List SV)} {r : List SV} (hp : PartsEv L ps qs) (ht : P.underlying t = some (.slice e)) (hz : (P.info? e).map (fun i => (i.zero, i.size, i.bytes)) = some (some z, size, bytes)) (hzc : z.cells = ⟨zs⟩) (hsz : 0 < size) (h1 : zs.all (·.oneCell') = true) (hzl : zs.length = size) (hsmall : Nat.ble (len * size) 16777216 = true) (hf : fillS (fun i => some (i * size, size)) ((List.range (len * size)).map fun i => Vl (zs.getD (i % size) undef)) qs = some r) (hrl : r.length = len * size) (hd : dst = some d) (hn : Nat.ble (d + 1) n = true) (hw : Wt ops (St.mk n D L H) ⟨dst, .buildSlice t len ⟨ps⟩, ty, pos, af, g⟩ true) (k : ∀ q : Addr, SX E P ops Q rest (St.mk n D ((d, Vl (.slice (some q) len len)) :: L) (⟨.slice (some q) len len, r, e, some size⟩ :: H))) : SX E P ops Q (⟨dst, .buildSlice t len ⟨ps⟩, ty, pos, af, g⟩ :: rest) (St.mk n D L H) :=
  sx_buildSlice (s := ⟨n, D, L, H⟩) hp ht hz hzc hsz h1 hzl hsmall hf hrl hd hn hw k

theorem rd_eq_ag' {t t2 : TypeId} {X Y : Operand} {us vs : List Value} {b : Bool} (hx : ev L X = some (Ag (us.map Vl))) (hy : ev L Y = some (Ag (vs.map Vl))) (hg : P.eqGuardType P.depth t = false) (h : Eqt P 10000 t (.agg ⟨us⟩) (.agg ⟨vs⟩) b) : Rd P (St.mk n D L H) ⟨dst, .binOp .eql t X Y t2, ty, pos, af, g⟩ (Vl (.bool b)) :=
  rd_eq_ag (s := ⟨n, D, L, H⟩) hx hy hg h

theorem rd_ne_ag' {t t2 : TypeId} {X Y : Operand} {us vs : List Value} {b : Bool} (hx : ev L X = some (Ag (us.map Vl))) (hy : ev L Y = some (Ag (vs.map Vl))) (hg : P.eqGuardType P.depth t = false) (h : Eqt P 10000 t (.agg ⟨us⟩) (.agg ⟨vs⟩) b) : Rd P (St.mk n D L H) ⟨dst, .binOp .neq t X Y t2, ty, pos, af, g⟩ (Vl (.bool (!b))) :=
  rd_ne_ag (s := ⟨n, D, L, H⟩) hx hy hg h

theorem cx_plan' {id : Nat} {l : List Oper} (Bs : List Nat) (late plan : List (Nat × Nat)) (hm : P.follows .mixedOrders = true) (hB : planOk l.toArray late plan = true) (h : PX E P l.toArray Q Bs late plan (St.mk n D L H)) : CX E P (.region id l.toArray true) Q (St.mk n D L H) :=
  cx_plan (s := ⟨n, D, L, H⟩) Bs late plan hm hB h

theorem px_nil' (h : TX E (Q .normal) (St.mk n D L H)) : PX E P ops Q Bs late [] (St.mk n D L H) :=
  px_nil (s := ⟨n, D, L, H⟩) h

theorem px_rd' {d : Nat} {x : SV} (hi : ops[ix]? = some o) (hr : Rd P (St.mk n D L H) o x) (hd : o.dst = some d) (hn : Nat.ble (d + 1) n = true) (hw : Wt ops (St.mk n D L H) o true) (k : PX E P ops Q Bs late pl ((St.mk n D ((d, x) :: L) H))) : PX E P ops Q Bs late ((ix, 1) :: pl) (St.mk n D L H) :=
  px_rd (s := ⟨n, D, L, H⟩) hi hr hd hn hw k

theorem px_rb' {d : Nat} {x : SV} (hi : ops[ix]? = some o) (hr : Rb P Bs (St.mk n D L H) o x) (hd : o.dst = some d) (hn : Nat.ble (d + 1) n = true) (hw : Wt ops (St.mk n D L H) o true) (k : PX E P ops Q Bs late pl ((St.mk n D ((d, x) :: L) H))) : PX E P ops Q Bs late ((ix, 2) :: pl) (St.mk n D L H) :=
  px_rb (s := ⟨n, D, L, H⟩) hi hr hd hn hw k

theorem px_skip' {d : Nat} (hi : ops[ix]? = some o) (hd : o.dst = some d) (hn : Nat.ble (d + 1) n = true) (hw : Wt ops (St.mk n D L H) o false) (k : PX E P ops Q Bs late pl ((St.mk n D ((d, Vl undef) :: L) H))) : PX E P ops Q Bs late ((ix, 1) :: pl) (St.mk n D L H) :=
  px_skip (s := ⟨n, D, L, H⟩) hi hd hn hw k

theorem px_bskip' {d : Nat} (hi : ops[ix]? = some o) (hd : o.dst = some d) (hn : Nat.ble (d + 1) n = true) (hw : Wt ops (St.mk n D L H) o false) (k : PX E P ops Q Bs late pl ((St.mk n D ((d, Vl undef) :: L) H))) : PX E P ops Q Bs late ((ix, 2) :: pl) (St.mk n D L H) :=
  px_bskip (s := ⟨n, D, L, H⟩) hi hd hn hw k

theorem px_oskip' {d : Nat} (hi : ops[ix]? = some o) (hd : o.dst = some d) (hn : Nat.ble (d + 1) n = true) (hw : Wt ops (St.mk n D L H) o false) (k : PX E P ops Q Bs late pl ((St.mk n D ((d, Vl undef) :: L) H))) : PX E P ops Q Bs late ((ix, 0) :: pl) (St.mk n D L H) :=
  px_oskip (s := ⟨n, D, L, H⟩) hi hd hn hw k

theorem px_oskip0' (hi : ops[ix]? = some o) (hd : o.dst = none) (hw : Wt ops (St.mk n D L H) o false) (k : PX E P ops Q Bs late pl (St.mk n D L H)) : PX E P ops Q Bs late ((ix, 0) :: pl) (St.mk n D L H) :=
  px_oskip0 (s := ⟨n, D, L, H⟩) hi hd hw k

theorem px_cutn' {plan : List (Nat × Nat)} (nn : Nat) {X : Type} (J : X → St) (ok : X → Prop) (h2 : ∀ v, ok v → PX E P ops Q Bs late (plan.drop nn) (J v)) (h1 : ∀ K : Act → World → Prop, (∀ v, ok v → TX E K (J v)) → PX E P ops (Exit.then K Q) Bs late (plan.take nn) (St.mk n D L H)) : PX E P ops Q Bs late plan (St.mk n D L H) :=
  px_cutn (s := ⟨n, D, L, H⟩) nn J ok h2 h1

theorem sx_ox' {l : Nat} {X : Type} {S : X → St} (h : OX E P o l S (St.mk n D L H)) (hw : Wt ops (St.mk n D L H) o true) (k : ∀ x, SX E P ops Q rest (S x)) : SX E P ops Q (o :: rest) (St.mk n D L H) :=
  sx_ox (s := ⟨n, D, L, H⟩) h hw k

theorem px_ox' {l : Nat} {X : Type} {S : X → St} (hi : ops[ix]? = some o) (h : OX E P o l S (St.mk n D L H)) (hl : Nat.ble l (levOf late ix) = true) (hB : BsIn H Bs) (hw : Wt ops (St.mk n D L H) o true) (k : ∀ x, PX E P ops Q Bs late pl (S x)) : PX E P ops Q Bs late ((ix, 0) :: pl) (St.mk n D L H) :=
  px_ox (s := ⟨n, D, L, H⟩) hi h hl hB hw k

theorem rb_move' {X : Operand} {x : SV} (hx : ev L X = some x) : Rb P Bs (St.mk n D L H) ⟨dst, .move X, ty, pos, af, g⟩ x :=
  rb_move (s := ⟨n, D, L, H⟩) hx

theorem rb_assign' {X : Operand} {x : SV} (hx : ev L X = some x) : Rb P Bs (St.mk n D L H) ⟨dst, .assign X, ty, pos, af, g⟩ x :=
  rb_assign (s := ⟨n, D, L, H⟩) hx

theorem rb_field' {t : TypeId} {X : Operand} {q : Addr} {f : Nat} {fs : Array Field} {fd : Field} (hx : ev L X = some (Vl (.pointer (some q)))) (ht : P.underlying t = some (.struct fs)) (hf : fs[f]? = some fd) {z : Option Value} {m bytes : Nat} (hz : (P.info? fd.type).map (fun i => (i.zero, i.size, i.bytes)) = some (z, m + 1, bytes)) {off : Nat} (hoff : fd.offset = off) : Rb P Bs (St.mk n D L H) ⟨dst, .fieldAddr t X f, ty, pos, af, g⟩ (Vl (.pointer (some (q.add off)))) :=
  rb_field (s := ⟨n, D, L, H⟩) hx ht hf hz hoff

theorem rb_load' {t : TypeId} {X : Operand} {i o : Nat} {r : Res} {q p : Addr} {x : SV} (hx : ev L X = some (Vl (.pointer (some p)))) (hr : AtRes (St.mk n D L H) i r q p o) (hc : r.cs[o]? = some x) (ht : Flat P t) (hb : Bs.contains q.block = true) : Rb P Bs (St.mk n D L H) ⟨dst, .load t X, ty, pos, af, g⟩ x :=
  rb_load (s := ⟨n, D, L, H⟩) hx hr hc ht hb

theorem rb_load_agg' {t : TypeId} {X : Operand} {i o nn : Nat} {r : Res} {q p : Addr} (hx : ev L X = some (Vl (.pointer (some p)))) (hr : AtRes (St.mk n D L H) i r q p o) (hc : Nat.ble (o + nn) r.cs.length = true) (ht : Agg P t nn) {l' : List SV} (hl' : (r.cs.drop o).take nn = l') (hb : Bs.contains q.block = true) : Rb P Bs (St.mk n D L H) ⟨dst, .load t X, ty, pos, af, g⟩ (Ag l') :=
  rb_load_agg (s := ⟨n, D, L, H⟩) hx hr hc ht hl' hb

theorem ox_box' {d : Nat} {t : TypeId} {X : Operand} {x : SV} {l : List SV} (hx : ev L X = some x) (hl : Lv x l) (hd : dst = some d) (hn : Nat.ble (d + 1) n = true) : OX E P ⟨dst, .box t X, ty, pos, af, g⟩ 0 (fun q : Addr => (St.mk n D ((d, Vl (.pointer (some q))) :: L) (⟨.pointer (some q), l, t, none⟩ :: H))) (St.mk n D L H) :=
  ox_box (s := ⟨n, D, L, H⟩) hx hl hd hn

theorem ox_alloc' {d : Nat} {t : TypeId} {zs : List Value} {size bytes : Nat} {z : Value} (hz : (P.info? t).map (fun i => (i.zero, i.size, i.bytes)) = some (some z, size, bytes)) (hc : z.cells = ⟨zs⟩) (h1 : zs.all (·.oneCell') = true) (hd : dst = some d) (hn : Nat.ble (d + 1) n = true) {l : List SV} (hl : zs.map Vl = l) : OX E P ⟨dst, .alloc t, ty, pos, af, g⟩ 0 (fun q : Addr => (St.mk n D ((d, Vl (.pointer (some q))) :: L) (⟨.pointer (some q), l, t, none⟩ :: H))) (St.mk n D L H) :=
  ox_alloc (s := ⟨n, D, L, H⟩) hz hc h1 hd hn hl

theorem ox_store' {t : TypeId} {X V : Operand} {x : SV} {l : List SV} {i o : Nat} {r : Res} {q p : Addr} {z : Option Value} {bytes : Nat} (hx : ev L X = some (Vl (.pointer (some p)))) (hv : ev L V = some x) (hl : Lv x l) (hr : AtRes (St.mk n D L H) i r q p o) (hle : Nat.ble (o + l.length) r.cs.length = true) (hz : (P.info? t).map (fun i => (i.zero, i.size, i.bytes)) = some (z, l.length, bytes)) (hd : dst = none) {H' : List Res} (hH' : H.set i { r with cs := putS r.cs o l } = H') : OX E P ⟨dst, .store t X V, ty, pos, af, g⟩ 2 (fun _ : Unit => (St.mk n D (L) (H'))) (St.mk n D L H) :=
  ox_store (s := ⟨n, D, L, H⟩) hx hv hl hr hle hz hd hH'

theorem rd_lenr' {α : Type} {K : Kd α} {e' : TypeId} {v : Value} {xs : List α} {i : Nat} {X : Operand} {t e : TypeId} (hx : ev L X = some (Vl v)) (hi : H[i]? = some (Rw K e' v xs)) (hK : Nat.ble 1 K.size = true) (ht : P.underlying t = some (.slice e)) : Rd P (St.mk n D L H) ⟨dst, .call { callee := .builtin .len, args := #[X], argTypes := #[t] }, ty, pos, af, g⟩ (Vl (.int .i64 xs.length)) :=
  rd_lenr (s := ⟨n, D, L, H⟩) hx hi hK ht

theorem rd_atr' {α : Type} {K : Kd α} {e' : TypeId} {v : Value} {xs : List α} {x : α} {m : Nat} {X I : Operand} {k : IntKind} {i : Int} {t e : TypeId} {z : Option Value} {bytes size : Nat} (hx : ev L X = some (Vl v)) (hh : H[m]? = some (Rw K e' v xs)) (hK : Nat.ble 1 K.size = true) (hi : ev L I = some (Vl (.int k i))) (hg : idx xs i = some x) (ht : P.underlying t = some (.slice e)) (he : (P.info? e).map (fun i => (i.zero, i.size, i.bytes)) = some (z, size, bytes)) : Rd P (St.mk n D L H) ⟨dst, .indexAddr t X I, ty, pos, af, g⟩ (Pr v (i.toNat * size)) :=
  rd_atr (s := ⟨n, D, L, H⟩) hx hh hK hi hg ht he

theorem rd_fieldr' {t : TypeId} {X : Operand} {v : Value} {o : Nat} {f : Nat} {fs : Array Field} {fd : Field} (hx : ev L X = some (Pr v o)) (ht : P.underlying t = some (.struct fs)) (hf : fs[f]? = some fd) {z : Option Value} {nn bytes : Nat} (hz : (P.info? fd.type).map (fun i => (i.zero, i.size, i.bytes)) = some (z, nn + 1, bytes)) {off : Nat} (hoff : fd.offset = off) : Rd P (St.mk n D L H) ⟨dst, .fieldAddr t X f, ty, pos, af, g⟩ (Pr v (o + off)) :=
  rd_fieldr (s := ⟨n, D, L, H⟩) hx ht hf hz hoff

theorem rd_loadr' {t : TypeId} {X : Operand} {α : Type} {K : Kd α} {e : TypeId} {v : Value} {xs : List α} {x : α} {m o j : Nat} {i : Int} {y : SV} (hx : ev L X = some (Pr v o)) (hh : H[m]? = some (Rw K e v xs)) (hK : Nat.ble 1 K.size = true) (hg : idx xs i = some x) (ho : o = i.toNat * K.size + j) (hj : (K.enc x)[j]? = some y) (ht : Flat P t) : Rd P (St.mk n D L H) ⟨dst, .load t X, ty, pos, af, g⟩ y :=
  rd_loadr (s := ⟨n, D, L, H⟩) hx hh hK hg ho hj ht

theorem rd_loadr_agg' {t : TypeId} {X : Operand} {α : Type} {K : Kd α} {e : TypeId} {v : Value} {xs : List α} {x : α} {m o j nn : Nat} {i : Int} (hx : ev L X = some (Pr v o)) (hh : H[m]? = some (Rw K e v xs)) (hK : Nat.ble 1 K.size = true) (hg : idx xs i = some x) (ho : o = i.toNat * K.size + j) (hj : Nat.ble (j + nn) K.size = true) (ht : Agg P t nn) {l' : List SV} (hl' : ((K.enc x).drop j).take nn = l') : Rd P (St.mk n D L H) ⟨dst, .load t X, ty, pos, af, g⟩ (Ag l') :=
  rd_loadr_agg (s := ⟨n, D, L, H⟩) hx hh hK hg ho hj ht hl'

theorem ox_storer' {t : TypeId} {X V : Operand} {α : Type} {K : Kd α} {e : TypeId} {v : Value} {xs : List α} {x x' : α} {m o j : Nat} {i : Int} {y : SV} {l : List SV} {z : Option Value} {bytes : Nat} (hx : ev L X = some (Pr v o)) (hv : ev L V = some y) (hl : Lv y l) (hh : H[m]? = some (Rw K e v xs)) (hK : Nat.ble 1 K.size = true) (hg : idx xs i = some x) (ho : o = i.toNat * K.size + j) (hx' : K.enc x' = putS (K.enc x) j l) (hjl : Nat.ble (j + l.length) K.size = true) (hz : (P.info? t).map (fun i => (i.zero, i.size, i.bytes)) = some (z, l.length, bytes)) (hd : dst = none) {H' : List Res} (hH' : H.set m (Rw K e v (xs.set i.toNat x')) = H') : OX E P ⟨dst, .store t X V, ty, pos, af, g⟩ 1 (fun _ : Unit => (St.mk n D (L) (H'))) (St.mk n D L H) :=
  ox_storer (s := ⟨n, D, L, H⟩) hx hv hl hh hK hg ho hx' hjl hz hd hH'

theorem ox_callp' {f d : Nat} {fn : Func} {Xs : List Operand} {ts : Array TypeId} {A : List SV} {r : SV} (hc : Fp P f A r) (hf : P.funcs[f]? = some fn) (hn : (fn.name == "runtime.NumGoroutine") = false) (hb : fn.body.isNone = false) (ha : evs L Xs = some A) (hd : dst = some d) (hdn : Nat.ble (d + 1) n = true) : OX E P ⟨dst, .call { callee := .value (.func f), args := ⟨Xs⟩, argTypes := ts }, ty, pos, af, g⟩ 0 (fun _ : Unit => (St.mk n D ((d, r) :: L) (H))) (St.mk n D L H) :=
  ox_callp (s := ⟨n, D, L, H⟩) hc hf hn hb ha hd hdn

theorem ox_callp0' {f : Nat} {fn : Func} {Xs : List Operand} {ts : Array TypeId} {A : List SV} {r : SV} (hc : Fp P f A r) (hf : P.funcs[f]? = some fn) (hn : (fn.name == "runtime.NumGoroutine") = false) (hb : fn.body.isNone = false) (ha : evs L Xs = some A) (hd : dst = none) : OX E P ⟨dst, .call { callee := .value (.func f), args := ⟨Xs⟩, argTypes := ts }, ty, pos, af, g⟩ 0 (fun _ : Unit => (St.mk n D L H)) (St.mk n D L H) :=
  ox_callp0 (s := ⟨n, D, L, H⟩) hc hf hn hb ha hd

theorem ox_callr' {f d : Nat} {fn : Func} {Xs : List Operand} {ts : Array TypeId} {A : List SV} {α : Type} {K : Kd α} {e : TypeId} {xs : List α} (hc : Fn P f A [] (fun g : Gs => Vl (Vs g)) (fun g => [Rw K e (Vs g) xs])) (hf : P.funcs[f]? = some fn) (hn : (fn.name == "runtime.NumGoroutine") = false) (hb : fn.body.isNone = false) (ha : evs L Xs = some A) (hd : dst = some d) (hdn : Nat.ble (d + 1) n = true) : OX E P ⟨dst, .call { callee := .value (.func f), args := ⟨Xs⟩, argTypes := ts }, ty, pos, af, g⟩ 0 (fun g : Gs => (St.mk n D ((d, Vl (Vs g)) :: L) (Rw K e (Vs g) xs :: H))) (St.mk n D L H) :=
  ox_callr (s := ⟨n, D, L, H⟩) hc hf hn hb ha hd hdn

theorem ox_rowlit' {d : Nat} {t e : TypeId} {len : Nat} {ps : List (Nat × Operand)} {zs : List Value} {z : Value} {bytes : Nat} {qs : List (Nat × List SV)} {α : Type} {K : Kd α} {xs : List α} (hp : PartsEv L ps qs) (ht : P.underlying t = some (.slice e)) (hz : (P.info? e).map (fun i => (i.zero, i.size, i.bytes)) = some (some z, K.size, bytes)) (hzc : z.cells = ⟨zs⟩) (hsz : Nat.ble 1 K.size = true) (h1 : zs.all (·.oneCell') = true) (hzl : zs.length = K.size) (hsmall : Nat.ble (len * K.size) 16777216 = true) (hf : fillS (fun i => some (i * K.size, K.size)) ((List.range (len * K.size)).map fun i => Vl (zs.getD (i % K.size) undef)) qs = some (xs.flatMap K.enc)) (hxl : xs.length = len) (hd : dst = some d) (hn : Nat.ble (d + 1) n = true) : OX E P ⟨dst, .buildSlice t len ⟨ps⟩, ty, pos, af, g⟩ 0 (fun g : Gs => (St.mk n D ((d, Vl (Vs g)) :: L) (Rw K e (Vs g) xs :: H))) (St.mk n D L H) :=
  ox_rowlit (s := ⟨n, D, L, H⟩) hp ht hz hzc hsz h1 hzl hsmall hf hxl hd hn

theorem tx_nilrow' {K' : Act → World → Prop} {α : Type} (K : Kd α) (e : TypeId) (k : TX E K' (St.mk n D (L) (Rw K e (.slice none 0 0) [] :: H))) : TX E K' (St.mk n D L H) :=
  tx_nilrow (s := ⟨n, D, L, H⟩) K e k

theorem sr_sl' {tx e' : TypeId} {Y : Operand} {α : Type} {K : Kd α} {ys : List α} (hy : ev L Y = some (Sl K ys)) (hk : P.underlying tx = some (.slice e')) : Sr P (St.mk n D L H) tx Y K ys :=
  sr_sl (s := ⟨n, D, L, H⟩) hy hk

theorem sr_row' {tx e' e : TypeId} {Y : Operand} {α : Type} {K : Kd α} {ys : List α} {v : Value} {j : Nat} (hy : ev L Y = some (Vl v)) (hh : H[j]? = some (Rw K e v ys)) (hK : Nat.ble 1 K.size = true) (hk : P.underlying tx = some (.slice e')) : Sr P (St.mk n D L H) tx Y K ys :=
  sr_row (s := ⟨n, D, L, H⟩) hy hh hK hk

theorem sr_nil' {tx e' : TypeId} {Y : Operand} {α : Type} {K : Kd α} (hy : ev L Y = some (Vl (.slice none 0 0))) (hk : P.underlying tx = some (.slice e')) : Sr P (St.mk n D L H) tx Y K [] :=
  sr_nil (s := ⟨n, D, L, H⟩) hy hk

theorem ox_append' {d i : Nat} {t tx e : TypeId} {X Y : Operand} {α : Type} {K : Kd α} {xs ys zs : List α} {v : Value} {zv : Value} {bytes : Nat} (hx : ev L X = some (Vl v)) (hh : H[i]? = some (Rw K e v xs)) (hK : Nat.ble 1 K.size = true) (hy : Sr P (St.mk n D L H) tx Y K ys) (ha : apd bytes xs ys = some zs) (ht : P.underlying t = some (.slice e)) (hz : (P.info? e).map (fun i => (i.zero, i.size, i.bytes)) = some (some zv, K.size, bytes)) (hzs : zv.cells.size = K.size) (hd : dst = some d) (hn : Nat.ble (d + 1) n = true) {H' : List Res} (hH' : H.eraseIdx i = H') : OX E P ⟨dst, .call { callee := .builtin .append, args := #[X, Y], argTypes := #[t, tx] }, ty, pos, af, g⟩ 1 (fun g : Gs => (St.mk n D ((d, Vl (Vs g)) :: L) (Rw K e (Vs g) zs :: H'))) (St.mk n D L H) :=
  ox_append (s := ⟨n, D, L, H⟩) hx hh hK hy ha ht hz hzs hd hn hH'

theorem ox_makes' {d : Nat} {t e : TypeId} {X Y : Operand} {k1 k2 : IntKind} {nn c : Int} {α : Type} {K : Kd α} {z : α} {xs : List α} {zv : Value} {zs : List Value} {bytes : Nat} (hx : ev L X = some (Vl (.int k1 nn))) (hy : ev L Y = some (Vl (.int k2 c))) (ha : mk bytes z nn c = some xs) (hK : Nat.ble 1 K.size = true) (ht : P.underlying t = some (.slice e)) (hz : (P.info? e).map (fun i => (i.zero, i.size, i.bytes)) = some (some zv, K.size, bytes)) (hzc : zv.cells = ⟨zs⟩) (h1 : zs.all (·.oneCell') = true) (hze : All2 (fun (y : SV) v => ∀ w U, y.R w U v) (K.enc z) zs) (hd : dst = some d) (hn : Nat.ble (d + 1) n = true) : OX E P ⟨dst, .makeSlice t X Y, ty, pos, af, g⟩ 0 (fun g : Gs => (St.mk n D ((d, Vl (Vs g)) :: L) (Rw K e (Vs g) xs :: H))) (St.mk n D L H) :=
  ox_makes (s := ⟨n, D, L, H⟩) hx hy ha hK ht hz hzc h1 hze hd hn

theorem ox_make' {d : Nat} {t e : TypeId} {X Y : Operand} {k1 k2 : IntKind} {nn c : Int} {α : Type} {K : Kd α} {z : α} {xs : List α} {zv : Value} {zs : List Value} {bytes : Nat} (hx : ev L X = some (Vl (.int k1 nn))) (hy : ev L Y = some (Vl (.int k2 c))) (ha : mk bytes z nn c = some xs) (hK : Nat.ble 1 K.size = true) (ht : P.underlying t = some (.slice e)) (hz : (P.info? e).map (fun i => (i.zero, i.size, i.bytes)) = some (some zv, K.size, bytes)) (hzc : zv.cells = ⟨zs⟩) (h1 : zs.all (·.oneCell') = true) (hze : K.enc z = zs.map Vl) (hd : dst = some d) (hn : Nat.ble (d + 1) n = true) : OX E P ⟨dst, .makeSlice t X Y, ty, pos, af, g⟩ 0 (fun g : Gs => (St.mk n D ((d, Vl (Vs g)) :: L) (Rw K e (Vs g) xs :: H))) (St.mk n D L H) :=
  ox_make (s := ⟨n, D, L, H⟩) hx hy ha hK ht hz hzc h1 hze hd hn

theorem rd_cut_lh' {α : Type} {K : Kd α} {xs ys : List α} {X Lo Hi : Operand} {k1 k2 : IntKind} {lo hi : Int} {t e : TypeId} {z : Option Value} {bytes : Nat} (hx : ev L X = some (Sl K xs)) (hl : ev L Lo = some (Vl (.int k1 lo))) (hh : ev L Hi = some (Vl (.int k2 hi))) (hc : cut xs lo hi = some ys) (ht : P.underlying t = some (.slice e)) (he : (P.info? e).map (fun i => (i.zero, i.size, i.bytes)) = some (z, K.size, bytes)) : Rd P (St.mk n D L H) ⟨dst, .slice t X (some Lo) (some Hi) none, ty, pos, af, g⟩ (Sl K ys) :=
  rd_cut_lh (s := ⟨n, D, L, H⟩) hx hl hh hc ht he

theorem rd_cut_l' {α : Type} {K : Kd α} {xs ys : List α} {X Lo : Operand} {k1 : IntKind} {lo : Int} {t e : TypeId} {z : Option Value} {bytes : Nat} (hx : ev L X = some (Sl K xs)) (hl : ev L Lo = some (Vl (.int k1 lo))) (hc : cut xs lo xs.length = some ys) (ht : P.underlying t = some (.slice e)) (he : (P.info? e).map (fun i => (i.zero, i.size, i.bytes)) = some (z, K.size, bytes)) : Rd P (St.mk n D L H) ⟨dst, .slice t X (some Lo) none none, ty, pos, af, g⟩ (Sl K ys) :=
  rd_cut_l (s := ⟨n, D, L, H⟩) hx hl hc ht he

theorem rd_cut_h' {α : Type} {K : Kd α} {xs ys : List α} {X Hi : Operand} {k2 : IntKind} {hi : Int} {t e : TypeId} {z : Option Value} {bytes : Nat} (hx : ev L X = some (Sl K xs)) (hh : ev L Hi = some (Vl (.int k2 hi))) (hc : cut xs 0 hi = some ys) (ht : P.underlying t = some (.slice e)) (he : (P.info? e).map (fun i => (i.zero, i.size, i.bytes)) = some (z, K.size, bytes)) : Rd P (St.mk n D L H) ⟨dst, .slice t X none (some Hi) none, ty, pos, af, g⟩ (Sl K ys) :=
  rd_cut_h (s := ⟨n, D, L, H⟩) hx hh hc ht he

theorem rd_cut_all' {α : Type} {K : Kd α} {xs : List α} {X : Operand} {t e : TypeId} {z : Option Value} {bytes : Nat} (hx : ev L X = some (Sl K xs)) (ht : P.underlying t = some (.slice e)) (he : (P.info? e).map (fun i => (i.zero, i.size, i.bytes)) = some (z, K.size, bytes)) : Rd P (St.mk n D L H) ⟨dst, .slice t X none none none, ty, pos, af, g⟩ (Sl K xs) :=
  rd_cut_all (s := ⟨n, D, L, H⟩) hx ht he

theorem ox_copy' {d i : Nat} {t tx e e' : TypeId} {X Y : Operand} {α : Type} {K : Kd α} {xs ys zs : List α} {v : Value} {z : Option Value} {bytes : Nat} (hx : ev L X = some (Vl v)) (hh : H[i]? = some (Rw K e' v xs)) (hK : Nat.ble 1 K.size = true) (hy : ev L Y = some (Sl K ys)) (hz' : cpy xs ys = zs) (ht : P.underlying t = some (.slice e)) (hz : (P.info? e).map (fun i => (i.zero, i.size, i.bytes)) = some (z, K.size, bytes)) (hd : dst = some d) (hn : Nat.ble (d + 1) n = true) {H' : List Res} (hH' : H.set i (Rw K e' v zs) = H') : OX E P ⟨dst, .call { callee := .builtin .copy, args := #[X, Y], argTypes := #[t, tx] }, ty, pos, af, g⟩ 1 (fun _ : Unit => (St.mk n D ((d, Vl (.int .i64 (Nat.min ys.length xs.length : Nat))) :: L) (H'))) (St.mk n D L H) :=
  ox_copy (s := ⟨n, D, L, H⟩) hx hh hK hy hz' ht hz hd hn hH'

theorem tx_pick' {K' : Act → World → Prop} {L' : List (Nat × SV)} {H' : List Res} (is : List Nat) (hL : Sub L' L) (hn : is.Nodup) (hp : PickAt H is H') (k : TX E K' (St.mk n D (L') (H'))) : TX E K' (St.mk n D L H) :=
  tx_pick (s := ⟨n, D, L, H⟩) is hL hn hp k

theorem tq_pick' {K' : Act → World → (Nat → Prop) → Prop} {L' : List (Nat × SV)} {H' : List Res} (is : List Nat) (hL : Sub L' L) (hn : is.Nodup) (hp : PickAt H is H') (k : TQ E K' (St.mk n D (L') (H'))) : TQ E K' (St.mk n D L H) :=
  tq_pick (s := ⟨n, D, L, H⟩) is hL hn hp k

theorem tx_zg' {e0 : Exit} {Gh : Type} {S : Gh → St} (gh : Gh) (h : TX E (fun a w => Sym E (S gh) a w) (St.mk n D L H)) : TX E (Zg E e0 S e0) (St.mk n D L H) :=
  tx_zg (s := ⟨n, D, L, H⟩) gh h

theorem tx_sym' {s' : St} (h : (St.mk n D L H) = s') : TX E (fun a w => Sym E s' a w) (St.mk n D L H) :=
  tx_sym (s := ⟨n, D, L, H⟩) h

theorem cx_loopg' {c : Code} {X Y Gh : Type} {F : Nat → X → Option Y} {G : Nat → (X → Option Y) → X → Option Y} {k : Nat} {x : X} {gh : Gh} {y : Y} (J : X → Gh → St) (Z : Y → Exit → Act → World → Prop) (h0 : ∀ x, F 0 x = none) (hG : ∀ k x, F (k + 1) x = G k (F k) x) (body : ∀ k (R : X → Option Y) (K : Y → Act → World → Prop), (∀ x gh y, R x = some y → TX E (K y) (J x gh)) → ∀ x gh y, G k R x = some y → CX E P c (Exit.then (K y) (Z y)) (J x gh)) (hy : F k x = some y) (hs : TX E (fun a w => Sym E (J x gh) a w) (St.mk n D L H)) (hz : ∀ e a w, Z y e a w → Q e a w) : CX E P (.loop c) Q (St.mk n D L H) :=
  cx_loopg (s := ⟨n, D, L, H⟩) J Z h0 hG body hy hs hz

theorem tx_zend' {e0 : Exit} {Gh : Type} {S : Gh → St} (gh : Gh) {L' : List (Nat × SV)} {H' : List Res} (hS : S gh = (St.mk n D (L') (H'))) (is : List Nat) (hL : Sub L' L) (hn : is.Nodup) (hp : PickAt H is H') : TX E (Zg E e0 S e0) (St.mk n D L H) :=
  tx_zend (s := ⟨n, D, L, H⟩) gh hS is hL hn hp

theorem tx_to' {S : St} {L' : List (Nat × SV)} {H' : List Res} (hS : S = (St.mk n D (L') (H'))) (is : List Nat) (hL : Sub L' L) (hn : is.Nodup) (hp : PickAt H is H') : TX E (fun a w => Sym E S a w) (St.mk n D L H) :=
  tx_to (s := ⟨n, D, L, H⟩) hS is hL hn hp

theorem tx_frz' {K' : Act → World → Prop} (i : Nat) {α : Type} {K : Kd α} {e : TypeId} {v : Value} {xs : List α} (hK : Nat.ble 1 K.size = true) (hi : H[i]? = some (Rw K e v xs)) {L' : List (Nat × SV)} {H' : List Res} (hL : FrzS v (Sl K xs) L L') (hH : FrzH v (Sl K xs) (H.eraseIdx i) H') (k : TX E K' (St.mk n D (L') (H'))) : TX E K' (St.mk n D L H) :=
  tx_frz (s := ⟨n, D, L, H⟩) i hK hi hL hH k

theorem tx_nilcell' {K' : Act → World → Prop} (i o : Nat) {α : Type} (K : Kd α) {r : Res} (hi : H[i]? = some r) (ho : r.cs[o]? = some (Vl (.slice none 0 0))) {H' : List Res} (hH : H.set i { r with cs := r.cs.set o (Sl K []) } = H') (k : TX E K' (St.mk n D (L) (H'))) : TX E K' (St.mk n D L H) :=
  tx_nilcell (s := ⟨n, D, L, H⟩) i o K hi ho hH k

theorem rv_imp' {rv : ResultVar} {x y : SV} (h : Rv P (St.mk n D L H) rv x) (hi : Imp x y) : Rv P (St.mk n D L H) rv y :=
  rv_imp (s := ⟨n, D, L, H⟩) h hi

theorem rv_nil' {rv : ResultVar} {α : Type} {K : Kd α} (h : Rv P (St.mk n D L H) rv (Vl (.slice none 0 0))) : Rv P (St.mk n D L H) rv (Sl K []) :=
  rv_nil (s := ⟨n, D, L, H⟩) h

theorem tx_leave' {fn : Func} {R : Ending → World → Prop} {e : Exit} (he : e = .ret ∨ e = .normal) {f : Nat} {us : List Value} {nn : Nat} {fn' : Func} (hD : D = [⟨.fn (.func f) ⟨us⟩, #[]⟩]) (hi : Idle P f nn) (hul : us.length = nn) (hf : P.funcs[f]? = some fn') (hn : (fn'.name == "runtime.NumGoroutine") = false) (hb : fn'.body.isNone = false) (h : TX E (bodyPost P fn R e) (St.mk n ([]) L H)) : TX E (bodyPostD P fn R e) (St.mk n D L H) :=
  tx_leave (s := ⟨n, D, L, H⟩) he hD hi hul hf hn hb h

theorem rd_mkfunc' {f : Nat} {Xs : List Operand} {us : List Value} (hc : evs L Xs = some (us.map Vl)) : Rd P (St.mk n D L H) ⟨dst, .makeFunc (.func f) #[] ⟨Xs⟩, ty, pos, af, g⟩ (Vl (.func (.func f) #[] ⟨us⟩)) :=
  rd_mkfunc (s := ⟨n, D, L, H⟩) hc

theorem ox_defer' {X : Operand} {ts : Array TypeId} {f : Nat} {us : List Value} (hx : ev L X = some (Vl (.func (.func f) #[] ⟨us⟩))) (hd : dst = none) : OX E P ⟨dst, .defer { callee := .value X, args := #[], argTypes := ts }, ty, pos, af, g⟩ 0 (fun _ : Unit => (St.mk n (⟨.fn (.func f) ⟨us⟩, #[]⟩ :: D) L H)) (St.mk n D L H) :=
  ox_defer (s := ⟨n, D, L, H⟩) hx hd

theorem ox_fop' {d : Nat} {op : BinOp} {tx t2 : TypeId} {X Y : Operand} {x y z : Nat} (ho : op = .add ∨ op = .sub ∨ op = .mul ∨ op = .quo) (hx : FlIn L X x) (hy : FlIn L Y y) (hz : (fop op x y).getD qn = z) (hd : dst = some d) (hn : Nat.ble (d + 1) n = true) : OX E P ⟨dst, .binOp op tx X Y t2, ty, pos, af, g⟩ 0 (fun _ : Unit => (St.mk n D ((d, Fl z) :: L) (H))) (St.mk n D L H) :=
  ox_fop (s := ⟨n, D, L, H⟩) ho hx hy hz hd hn

theorem rd_fcmp' {op : BinOp} {tx t2 : TypeId} {X Y : Operand} {x y : Nat} {b : Bool} (hx : FlIn L X x) (hy : FlIn L Y y) (hb : (match op with | .eql => some (feq x y) | .neq => some (fne x y) | .lss => some (flt x y) | .leq => some (fle x y) | .gtr => some (fgt x y) | .geq => some (fge x y) | _ => none) = some b) : Rd P (St.mk n D L H) ⟨dst, .binOp op tx X Y t2, ty, pos, af, g⟩ (Vl (.bool b)) :=
  rd_fcmp (s := ⟨n, D, L, H⟩) hx hy hb

theorem rd_fneg_fl' {tx : TypeId} {X : Operand} {x : Nat} (hx : FlIn L X x) : Rd P (St.mk n D L H) ⟨dst, .unOp .neg tx X, ty, pos, af, g⟩ (Fl (fneg x)) :=
  rd_fneg_fl (s := ⟨n, D, L, H⟩) hx

theorem tx_slot' {K' : Act → World → Prop} (t : Nat) {x y : SV} (ht : look L t = some x) (hi : Imp x y) (k : TX E K' (St.mk n D ((t, y) :: L) (H))) : TX E K' (St.mk n D L H) :=
  tx_slot (s := ⟨n, D, L, H⟩) t ht hi k

theorem tq_slot' {K' : Act → World → (Nat → Prop) → Prop} (t : Nat) {x y : SV} (ht : look L t = some x) (hi : Imp x y) (k : TQ E K' (St.mk n D ((t, y) :: L) (H))) : TQ E K' (St.mk n D L H) :=
  tq_slot (s := ⟨n, D, L, H⟩) t ht hi k

theorem tx_cell' {K' : Act → World → Prop} (i o : Nat) {x y : SV} {r : Res} (hi : H[i]? = some r) (ho : r.cs[o]? = some x) (hxy : Imp x y) {H' : List Res} (hH : H.set i { r with cs := r.cs.set o y } = H') (k : TX E K' (St.mk n D (L) (H'))) : TX E K' (St.mk n D L H) :=
  tx_cell (s := ⟨n, D, L, H⟩) i o hi ho hxy hH k

theorem ox_extf' {d f : Nat} {fn : Func} {Xs : List Operand} {ts : Array TypeId} {x r : Nat} {X : Operand} (hX : Xs = [X]) (hx : FlIn L X x) (hf : P.funcs[f]? = some fn) (hr : ∀ y, (y = x ∨ (isn x = true ∧ isn y = true)) → RunsF P (callFunc f #[.float .f64 y]) (Fl r)) (hd : dst = some d) (hn : Nat.ble (d + 1) n = true) : OX E P ⟨dst, .call { callee := .value (.func f), args := ⟨Xs⟩, argTypes := ts }, ty, pos, af, g⟩ 0 (fun _ : Unit => (St.mk n D ((d, Fl r) :: L) (H))) (St.mk n D L H) :=
  ox_extf (s := ⟨n, D, L, H⟩) hX hx hf hr hd hn

theorem rd_eq' {o : Oper} {x y : SV} (h : x = y) (hr : Rd P (St.mk n D L H) o x) : Rd P (St.mk n D L H) o y :=
  rd_eq (s := ⟨n, D, L, H⟩) h hr

theorem rd_nilck' {X : Operand} {q : Addr} (hx : ev L X = some (Vl (.pointer (some q)))) : Rd P (St.mk n D L H) ⟨dst, .nilCheck X, ty, pos, af, g⟩ (Vl (.pointer (some q))) :=
  rd_nilck (s := ⟨n, D, L, H⟩) hx

theorem rd_nilck_pt' {X : Operand} {l : List SV} (hx : ev L X = some (Pt l)) : Rd P (St.mk n D L H) ⟨dst, .nilCheck X, ty, pos, af, g⟩ (Pt l) :=
  rd_nilck_pt (s := ⟨n, D, L, H⟩) hx

theorem rd_binf' {op : BinOp} {tx t2 : TypeId} {X Y : Operand} {x y : SV} {v : Value} (hx : ev L X = some x) (hy : ev L Y = some y) (h : ∀ w U a b, x.R w U a → y.R w U b → Runs P (eqGuard op tx X Y a b) () ∧ Runs P (binOp op tx a b) v) : Rd P (St.mk n D L H) ⟨dst, .binOp op tx X Y t2, ty, pos, af, g⟩ (Vl v) :=
  rd_binf (s := ⟨n, D, L, H⟩) hx hy h

theorem rd_field0' {t : TypeId} {X : Operand} {q : Addr} {f : Nat} {fs : Array Field} {fd : Field} (hx : ev L X = some (Vl (.pointer (some q)))) (ht : P.underlying t = some (.struct fs)) (hf : fs[f]? = some fd) {z : Option Value} {m bytes : Nat} (hz : (P.info? fd.type).map (fun i => (i.zero, i.size, i.bytes)) = some (z, m + 1, bytes)) (hoff : fd.offset = 0) : Rd P (St.mk n D L H) ⟨dst, .fieldAddr t X f, ty, pos, af, g⟩ (Vl (.pointer (some q))) :=
  rd_field0 (s := ⟨n, D, L, H⟩) hx ht hf hz hoff

theorem rd_fieldn' {t : TypeId} {X : Operand} {q : Addr} {j : Nat} {f : Nat} {fs : Array Field} {fd : Field} (hx : ev L X = some (Vl (.pointer (some (q.add j))))) (ht : P.underlying t = some (.struct fs)) (hf : fs[f]? = some fd) {z : Option Value} {m bytes : Nat} (hz : (P.info? fd.type).map (fun i => (i.zero, i.size, i.bytes)) = some (z, m + 1, bytes)) {off : Nat} (hoff : fd.offset = off) {i : Nat} (hi : j + off = i) : Rd P (St.mk n D L H) ⟨dst, .fieldAddr t X f, ty, pos, af, g⟩ (Vl (.pointer (some (q.add i)))) :=
  rd_fieldn (s := ⟨n, D, L, H⟩) hx ht hf hz hoff hi

theorem rb_field0' {Bs : List Nat} {t : TypeId} {X : Operand} {q : Addr} {f : Nat} {fs : Array Field} {fd : Field} (hx : ev L X = some (Vl (.pointer (some q)))) (ht : P.underlying t = some (.struct fs)) (hf : fs[f]? = some fd) {z : Option Value} {m bytes : Nat} (hz : (P.info? fd.type).map (fun i => (i.zero, i.size, i.bytes)) = some (z, m + 1, bytes)) (hoff : fd.offset = 0) : Rb P Bs (St.mk n D L H) ⟨dst, .fieldAddr t X f, ty, pos, af, g⟩ (Vl (.pointer (some q))) :=
  rb_field0 (s := ⟨n, D, L, H⟩) hx ht hf hz hoff

theorem rb_fieldn' {Bs : List Nat} {t : TypeId} {X : Operand} {q : Addr} {j : Nat} {f : Nat} {fs : Array Field} {fd : Field} (hx : ev L X = some (Vl (.pointer (some (q.add j))))) (ht : P.underlying t = some (.struct fs)) (hf : fs[f]? = some fd) {z : Option Value} {m bytes : Nat} (hz : (P.info? fd.type).map (fun i => (i.zero, i.size, i.bytes)) = some (z, m + 1, bytes)) {off : Nat} (hoff : fd.offset = off) {i : Nat} (hi : j + off = i) : Rb P Bs (St.mk n D L H) ⟨dst, .fieldAddr t X f, ty, pos, af, g⟩ (Vl (.pointer (some (q.add i)))) :=
  rb_fieldn (s := ⟨n, D, L, H⟩) hx ht hf hz hoff hi

theorem rd_ixa' {p p' : Addr} {X I : Operand} {k : IntKind} {i : Int} {t e : TypeId} {len : Nat} {z : Option Value} {size bytes : Nat} (hx : ev L X = some (Vl (.pointer (some p)))) (hi : ev L I = some (Vl (.int k i))) (h0 : 0 ≤ i) (h1 : i < len) (ht : P.underlying t = some (.array len e)) (he : (P.info? e).map (fun i => (i.zero, i.size, i.bytes)) = some (z, size, bytes)) (hp : p.add (i.toNat * size) = p') : Rd P (St.mk n D L H) ⟨dst, .indexAddr t X I, ty, pos, af, g⟩ (Vl (.pointer (some p'))) :=
  rd_ixa (s := ⟨n, D, L, H⟩) hx hi h0 h1 ht he hp

theorem rb_ixa' {Bs : List Nat} {p p' : Addr} {X I : Operand} {k : IntKind} {i : Int} {t e : TypeId} {len : Nat} {z : Option Value} {size bytes : Nat} (hx : ev L X = some (Vl (.pointer (some p)))) (hi : ev L I = some (Vl (.int k i))) (h0 : 0 ≤ i) (h1 : i < len) (ht : P.underlying t = some (.array len e)) (he : (P.info? e).map (fun i => (i.zero, i.size, i.bytes)) = some (z, size, bytes)) (hp : p.add (i.toNat * size) = p') : Rb P Bs (St.mk n D L H) ⟨dst, .indexAddr t X I, ty, pos, af, g⟩ (Vl (.pointer (some p'))) :=
  rb_ixa (s := ⟨n, D, L, H⟩) hx hi h0 h1 ht he hp

theorem rd_builda' {t e : TypeId} {len : Nat} {ps : List (Nat × Operand)} {zs : List Value} {z : Value} {size bytes es eb : Nat} {ez : Option Value} {qs : List (Nat × List SV)} {r : List SV} (hp : PartsEv L ps qs) (ht : P.underlying t = some (.array len e)) (he : (P.info? e).map (fun i => (i.zero, i.size, i.bytes)) = some (ez, es, eb)) (hz : (P.info? t).map (fun i => (i.zero, i.size, i.bytes)) = some (some z, size, bytes)) (hzc : z.cells = ⟨zs⟩) (h1 : zs.all (·.oneCell') = true) (hf : fillS (fun i : Nat => some (i * es, es)) (zs.map Vl) qs = some r) : Rd P (St.mk n D L H) ⟨dst, .build t ⟨ps⟩, ty, pos, af, g⟩ (Ag r) :=
  rd_builda (s := ⟨n, D, L, H⟩) hp ht he hz hzc h1 hf

theorem rd_assert' {X : Operand} {t tx ta : TypeId} {ok : Bool} {x y : SV} {F : Value → Value} (hx : ev L X = some (If t x)) (hF : ∀ v w, (Instr.typeAssert (.iface t v) tx ta ok).run P w = .ok (F v) w) (hy : ∀ w U v, x.R w U v → y.R w U (F v)) : Rd P (St.mk n D L H) ⟨dst, .typeAssert X tx ta ok, ty, pos, af, g⟩ y :=
  rd_assert (s := ⟨n, D, L, H⟩) hx hF hy

theorem rd_assert_nil' {X : Operand} {tx ta : TypeId} {z : Value} (hx : ev L X = some (Vl .nilIface)) (hF : ∀ w, (Instr.typeAssert .nilIface tx ta true).run P w = .ok (.tuple #[z, .bool false]) w) : Rd P (St.mk n D L H) ⟨dst, .typeAssert X tx ta true, ty, pos, af, g⟩ (Tu [Vl z, Vl (.bool false)]) :=
  rd_assert_nil (s := ⟨n, D, L, H⟩) hx hF

theorem ent_fn' {f : Nat} {fn : Func} {Xs : List Operand} {ts : Array TypeId} {A : List SV} (hf : P.funcs[f]? = some fn) (hn : (fn.name == "runtime.NumGoroutine") = false) (hb : fn.body.isNone = false) (ha : evs L Xs = some A) : Ent P (St.mk n D L H) { callee := .value (.func f), args := ⟨Xs⟩, argTypes := ts } f A :=
  ent_fn (s := ⟨n, D, L, H⟩) hf hn hb ha

theorem ent_inv' {f : Nat} {R : Operand} {name : String} {Xs : List Operand} {ts : Array TypeId} {t : TypeId} {x y : SV} {A : List SV} (hr : ev L R = some (If t x)) (ha : evs L Xs = some A) (hm : Inv P t name Xs.length f x y) : Ent P (St.mk n D L H) { callee := .invoke R name, args := ⟨Xs⟩, argTypes := ts } f (y :: A) :=
  ent_inv (s := ⟨n, D, L, H⟩) hr ha hm

theorem ent_clo' {f : Nat} {fn : Func} {C : Operand} {us : List Value} {Xs : List Operand} {ts : Array TypeId} {A : List SV} (hx : ev L C = some (Vl (.func (.func f) #[] ⟨us⟩))) (hf : P.funcs[f]? = some fn) (hn : (fn.name == "runtime.NumGoroutine") = false) (hb : fn.body.isNone = false) (ha : evs L Xs = some A) : Ent P (St.mk n D L H) { callee := .value C, args := ⟨Xs⟩, argTypes := ts } f (A ++ us.map Vl) :=
  ent_clo (s := ⟨n, D, L, H⟩) hx hf hn hb ha

theorem ox_callg' {c : Call} {f d : Nat} {A : List SV} {HA H' : List Res} {X : Type} {r : X → SV} {HR : X → List Res} (he : Ent P (St.mk n D L H) c f A) (hc : Fn P f A HA r HR) (is js : List Nat) (hn : (is ++ js).Nodup) (hA : PickAt H is HA) (hJ : PickAt H js H') {Hn : X → List Res} (hHn : ∀ x, HR x ++ H' = Hn x) (hd : dst = some d) (hdn : Nat.ble (d + 1) n = true) : OX E P ⟨dst, .call c, ty, pos, af, g⟩ 2 (fun x : X => (St.mk n D ((d, r x) :: L) (Hn x))) (St.mk n D L H) :=
  ox_callg (s := ⟨n, D, L, H⟩) he hc is js hn hA hJ hHn hd hdn

theorem ox_callg0' {c : Call} {f : Nat} {A : List SV} {HA H' : List Res} {X : Type} {r : X → SV} {HR : X → List Res} (he : Ent P (St.mk n D L H) c f A) (hc : Fn P f A HA r HR) (is js : List Nat) (hn : (is ++ js).Nodup) (hA : PickAt H is HA) (hJ : PickAt H js H') {Hn : X → List Res} (hHn : ∀ x, HR x ++ H' = Hn x) (hd : dst = none) : OX E P ⟨dst, .call c, ty, pos, af, g⟩ 2 (fun x : X => (St.mk n D (L) (Hn x))) (St.mk n D L H) :=
  ox_callg0 (s := ⟨n, D, L, H⟩) he hc is js hn hA hJ hHn hd

theorem ox_calln' {c : Call} {f d : Nat} {A : List SV} {X : Type} {r : X → SV} {HR : X → List Res} (he : Ent P (St.mk n D L H) c f A) (hc : Fn P f A [] r HR) {Hn : X → List Res} (hHn : ∀ x, HR x ++ H = Hn x) (hd : dst = some d) (hdn : Nat.ble (d + 1) n = true) : OX E P ⟨dst, .call c, ty, pos, af, g⟩ 0 (fun x : X => (St.mk n D ((d, r x) :: L) (Hn x))) (St.mk n D L H) :=
  ox_calln (s := ⟨n, D, L, H⟩) he hc hHn hd hdn

theorem ox_calln0' {c : Call} {f : Nat} {A : List SV} {X : Type} {r : X → SV} {HR : X → List Res} (he : Ent P (St.mk n D L H) c f A) (hc : Fn P f A [] r HR) {Hn : X → List Res} (hHn : ∀ x, HR x ++ H = Hn x) (hd : dst = none) : OX E P ⟨dst, .call c, ty, pos, af, g⟩ 0 (fun x : X => (St.mk n D (L) (Hn x))) (St.mk n D L H) :=
  ox_calln0 (s := ⟨n, D, L, H⟩) he hc hHn hd

theorem frz_comp' {s1 s2 : St} (h : FrzTo (St.mk n D L H) s1) (k : FrzTo s1 s2) : FrzTo (St.mk n D L H) s2 :=
  frz_comp (s := ⟨n, D, L, H⟩) h k

theorem frz_row' (i : Nat) (ts : List (Nat × SV × SV)) {α : Type} {K : Kd α} {e : TypeId} {v : Value} {xs : List α} (hK : Nat.ble 1 K.size = true) (hi : H[i]? = some (Rw K e v xs)) (hts : TsOk L v (Sl K xs) ts) {H' : List Res} (hH : FrzH v (Sl K xs) (H.eraseIdx i) H') : FrzTo (St.mk n D L H) (St.mk n D (tsL L ts) (H')) :=
  frz_row (s := ⟨n, D, L, H⟩) i ts hK hi hts hH

theorem tx_fz' {K' : Act → World → Prop} {s' : St} (h : FrzTo (St.mk n D L H) s') (k : TX E K' s') : TX E K' (St.mk n D L H) :=
  tx_fz (s := ⟨n, D, L, H⟩) h k

theorem tq_fz' {K' : Act → World → (Nat → Prop) → Prop} {s' : St} (h : FrzTo (St.mk n D L H) s') (k : TQ E K' s') : ∀ a w U, SymAt E (St.mk n D L H) a w U → ∃ U', K' a w U' :=
  tq_fz (s := ⟨n, D, L, H⟩) h k

theorem ox_brw' {c : Call} {f d : Nat} {A : List SV} {s' : St} {r : SV} (hfz : FrzTo (St.mk n D L H) s') (he : Ent P s' c f A) (hc : Fn P f A [] (fun _ : Unit => r) (fun _ => [])) (hp : Pu r) (hd : dst = some d) (hdn : Nat.ble (d + 1) n = true) : OX E P ⟨dst, .call c, ty, pos, af, g⟩ 0 (fun _ : Unit => (St.mk n D ((d, r) :: L) (H))) (St.mk n D L H) :=
  ox_brw (s := ⟨n, D, L, H⟩) hfz he hc hp hd hdn

theorem ox_brw0' {c : Call} {f : Nat} {A : List SV} {s' : St} {r : SV} (hfz : FrzTo (St.mk n D L H) s') (he : Ent P s' c f A) (hc : Fn P f A [] (fun _ : Unit => r) (fun _ => [])) (hd : dst = none) : OX E P ⟨dst, .call c, ty, pos, af, g⟩ 0 (fun _ : Unit => (St.mk n D L H)) (St.mk n D L H) :=
  ox_brw0 (s := ⟨n, D, L, H⟩) hfz he hc hd

theorem ox_brwg' {c : Call} {f d : Nat} {A : List SV} {s' : St} {HA H' : List Res} {X : Type} {r : X → SV} {HR : X → List Res} (hfz : FrzTo (St.mk n D L H) s') (he : Ent P s' c f A) (hc : Fn P f A HA r HR) (is js ks : List Nat) (hA' : PickAt s'.H ks HA) (hn : (is ++ js).Nodup) (hk : ks.Nodup) (hA : PickAt H is HA) (hJ : PickAt H js H') {Hn : X → List Res} (hHn : ∀ x, HR x ++ H' = Hn x) (hp : ∀ x, Pu (r x)) (hq : ∀ x, PuH (HR x)) (hd : dst = some d) (hdn : Nat.ble (d + 1) n = true) : OX E P ⟨dst, .call c, ty, pos, af, g⟩ 2 (fun x : X => (St.mk n D ((d, r x) :: L) (Hn x))) (St.mk n D L H) :=
  ox_brwg (s := ⟨n, D, L, H⟩) hfz he hc is js ks hA' hn hk hA hJ hHn hp hq hd hdn

theorem ox_brwg0' {c : Call} {f : Nat} {A : List SV} {s' : St} {HA H' : List Res} {X : Type} {r : X → SV} {HR : X → List Res} (hfz : FrzTo (St.mk n D L H) s') (he : Ent P s' c f A) (hc : Fn P f A HA r HR) (is js ks : List Nat) (hA' : PickAt s'.H ks HA) (hn : (is ++ js).Nodup) (hk : ks.Nodup) (hA : PickAt H is HA) (hJ : PickAt H js H') {Hn : X → List Res} (hHn : ∀ x, HR x ++ H' = Hn x) (hq : ∀ x, PuH (HR x)) (hd : dst = none) : OX E P ⟨dst, .call c, ty, pos, af, g⟩ 2 (fun x : X => (St.mk n D (L) (Hn x))) (St.mk n D L H) :=
  ox_brwg0 (s := ⟨n, D, L, H⟩) hfz he hc is js ks hA' hn hk hA hJ hHn hq hd

theorem cx_plana' {id : Nat} {l : List Oper} (Bs : List Nat) (late plan : List (Nat × Nat)) (f : Nat) (last : Array Bool) (hm : P.follows .mixedOrders = true) (hB : planToOk l.toArray late plan f last = true) (h : PX E P l.toArray (Exit.then (wpAnyX P l.toArray Q Bs (levOf late) f last) Q) Bs late plan (St.mk n D L H)) : CX E P (.region id l.toArray true) Q (St.mk n D L H) :=
  cx_plana (s := ⟨n, D, L, H⟩) Bs late plan f last hm hB h

theorem ax_node' {f f' : Nat} {listed : Array Bool} (listed' : Array Bool) {X : Type} (J : X → St) (h2 : ∀ v, AX E P ops Q Bs late f' listed' (J v)) (h1 : (∀ v, AX E P ops Q Bs late f' listed' (J v)) → AX E P ops Q Bs late f listed (St.mk n D L H)) : AX E P ops Q Bs late f listed (St.mk n D L H) :=
  ax_node (s := ⟨n, D, L, H⟩) listed' J h2 h1

theorem ax_nil' {listed : Array Bool} (hr : Region.ready .any ops listed = []) (h : TX E (Q .normal) (St.mk n D L H)) : AX E P ops Q Bs late 0 listed (St.mk n D L H) :=
  ax_nil (s := ⟨n, D, L, H⟩) hr h

theorem ax_all' {f : Nat} {listed : Array Bool} {i : Nat} {is : List Nat} (hr : Region.ready .any ops listed = i :: is) (h : AllOf E P ops Q Bs late f listed (St.mk n D L H) (i :: is)) : AX E P ops Q Bs late (f + 1) listed (St.mk n D L H) :=
  ax_all (s := ⟨n, D, L, H⟩) hr h

theorem all_nil' {f : Nat} {listed : Array Bool} : AllOf E P ops Q Bs late f listed (St.mk n D L H) [] :=
  all_nil (s := ⟨n, D, L, H⟩) 

theorem all_cons' {f : Nat} {listed : Array Bool} {i : Nat} {is : List Nat} (h : NX E P ops Q Bs late f listed i (St.mk n D L H)) (h' : AllOf E P ops Q Bs late f listed (St.mk n D L H) is) : AllOf E P ops Q Bs late f listed (St.mk n D L H) (i :: is) :=
  all_cons (s := ⟨n, D, L, H⟩) h h'

theorem nx_ox' {f : Nat} {listed last : Array Bool} {l : Nat} {X : Type} {S : X → St} (hi : ops[ix]? = some o) (h : OX E P o l S (St.mk n D L H)) (hl : Nat.ble l (levOf late ix) = true) (hB : BsIn H Bs) (hw : Wt ops (St.mk n D L H) o true) (hlast : listed.setIfInBounds ix true = last) (k : ∀ x, AX E P ops Q Bs late f last (S x)) : NX E P ops Q Bs late f listed ix (St.mk n D L H) :=
  nx_ox (s := ⟨n, D, L, H⟩) hi h hl hB hw hlast k

theorem nx_rd' {f : Nat} {listed last : Array Bool} {d : Nat} {x : SV} (hi : ops[ix]? = some o) (hr : Rd P (St.mk n D L H) o x) (hd : o.dst = some d) (hn : Nat.ble (d + 1) n = true) (hw : Wt ops (St.mk n D L H) o true) (hlast : listed.setIfInBounds ix true = last) (k : AX E P ops Q Bs late f last ((St.mk n D ((d, x) :: L) H))) : NX E P ops Q Bs late f listed ix (St.mk n D L H) :=
  nx_rd (s := ⟨n, D, L, H⟩) hi hr hd hn hw hlast k

theorem nx_skip' {f : Nat} {listed last : Array Bool} {d : Nat} (hi : ops[ix]? = some o) (hd : o.dst = some d) (hn : Nat.ble (d + 1) n = true) (hw : Wt ops (St.mk n D L H) o false) (hlast : listed.setIfInBounds ix true = last) (k : AX E P ops Q Bs late f last ((St.mk n D ((d, Vl undef) :: L) H))) : NX E P ops Q Bs late f listed ix (St.mk n D L H) :=
  nx_skip (s := ⟨n, D, L, H⟩) hi hd hn hw hlast k

theorem nx_skip0' {f : Nat} {listed last : Array Bool} (hi : ops[ix]? = some o) (hd : o.dst = none) (hw : Wt ops (St.mk n D L H) o false) (hlast : listed.setIfInBounds ix true = last) (k : AX E P ops Q Bs late f last (St.mk n D L H)) : NX E P ops Q Bs late f listed ix (St.mk n D L H) :=
  nx_skip0 (s := ⟨n, D, L, H⟩) hi hd hw hlast k

theorem ax_rd' {f : Nat} {listed last : Array Bool} {d : Nat} {x : SV} (hB : firstOk ops late 1 ix listed = true) (hi : ops[ix]? = some o) (hr : Rd P (St.mk n D L H) o x) (hd : o.dst = some d) (hn : Nat.ble (d + 1) n = true) (hw : Wt ops (St.mk n D L H) o true) (hlast : listed.setIfInBounds ix true = last) (k : AX E P ops Q Bs late f last ((St.mk n D ((d, x) :: L) H))) : AX E P ops Q Bs late (f + 1) listed (St.mk n D L H) :=
  ax_rd (s := ⟨n, D, L, H⟩) hB hi hr hd hn hw hlast k

theorem ax_rb' {f : Nat} {listed last : Array Bool} {d : Nat} {x : SV} (hB : firstOk ops late 2 ix listed = true) (hi : ops[ix]? = some o) (hr : Rb P Bs (St.mk n D L H) o x) (hd : o.dst = some d) (hn : Nat.ble (d + 1) n = true) (hw : Wt ops (St.mk n D L H) o true) (hlast : listed.setIfInBounds ix true = last) (k : AX E P ops Q Bs late f last ((St.mk n D ((d, x) :: L) H))) : AX E P ops Q Bs late (f + 1) listed (St.mk n D L H) :=
  ax_rb (s := ⟨n, D, L, H⟩) hB hi hr hd hn hw hlast k

theorem oxv_store' {t : TypeId} {X V : Operand} {x : SV} {l : List SV} {i o : Nat} {r : Res} {q p : Addr} {z : Option Value} {bytes : Nat} (hx : ev L X = some (Vl (.pointer (some p)))) (hv : ev L V = some x) (hl : Lv x l) (hr : AtRes (St.mk n D L H) i r q p o) (hle : Nat.ble (o + l.length) r.cs.length = true) (hz : (P.info? t).map (fun i => (i.zero, i.size, i.bytes)) = some (z, l.length, bytes)) (hd : dst = none) {H' : List Res} (hH' : H.set i { r with cs := putS r.cs o l } = H') : OXV E P ⟨dst, .store t X V, ty, pos, af, g⟩ i (fun _ : Unit => (St.mk n D (L) (H'))) (St.mk n D L H) :=
  oxv_store (s := ⟨n, D, L, H⟩) hx hv hl hr hle hz hd hH'

theorem oxv_same' {i : Nat} {w w' : World} {a : Act} {U : Nat → Prop} (hs : SymAt E (St.mk n D L H) a w U) (hi : ∃ r, H[i]? = some r) (hB : BsOut H i Bs) (h : ∀ r, H[i]? = some r → ∀ k, k < w.heap.size → k ∉ r.blk → w'.heap[k]? = w.heap[k]?) : SameB Bs w w' :=
  oxv_same (s := ⟨n, D, L, H⟩) hs hi hB h

theorem px_oxv' {i : Nat} {X : Type} {S : X → St} {r : Res} (hi : ops[ix]? = some o) (h : OXV E P o i S (St.mk n D L H)) (hr : H[i]? = some r) (hl : Nat.ble 1 (levOf late ix) = true) (hB : BsOut H i Bs) (hw : Wt ops (St.mk n D L H) o true) (k : ∀ x, PX E P ops Q Bs late pl (S x)) : PX E P ops Q Bs late ((ix, 0) :: pl) (St.mk n D L H) :=
  px_oxv (s := ⟨n, D, L, H⟩) hi h hr hl hB hw k

theorem nx_oxv' {f : Nat} {listed last : Array Bool} {i : Nat} {X : Type} {S : X → St} {r : Res} (hi : ops[ix]? = some o) (h : OXV E P o i S (St.mk n D L H)) (hr : H[i]? = some r) (hl : Nat.ble 1 (levOf late ix) = true) (hB : BsOut H i Bs) (hw : Wt ops (St.mk n D L H) o true) (hlast : listed.setIfInBounds ix true = last) (k : ∀ x, AX E P ops Q Bs late f last (S x)) : NX E P ops Q Bs late f listed ix (St.mk n D L H) :=
  nx_oxv (s := ⟨n, D, L, H⟩) hi h hr hl hB hw hlast k

theorem px_oxb' {is : List Nat} {HA : List Res} {X : Type} {S : X → St} (hi : ops[ix]? = some o) (h : OXB E P o HA S (St.mk n D L H)) (hA : PickAt H is HA) (hl : Nat.ble 1 (levOf late ix) = true) (hB : BsOutL H is Bs) (hw : Wt ops (St.mk n D L H) o true) (k : ∀ x, PX E P ops Q Bs late pl (S x)) : PX E P ops Q Bs late ((ix, 0) :: pl) (St.mk n D L H) :=
  px_oxb (s := ⟨n, D, L, H⟩) hi h hA hl hB hw k

theorem nx_oxb' {f : Nat} {listed last : Array Bool} {is : List Nat} {HA : List Res} {X : Type} {S : X → St} (hi : ops[ix]? = some o) (h : OXB E P o HA S (St.mk n D L H)) (hA : PickAt H is HA) (hl : Nat.ble 1 (levOf late ix) = true) (hB : BsOutL H is Bs) (hw : Wt ops (St.mk n D L H) o true) (hlast : listed.setIfInBounds ix true = last) (k : ∀ x, AX E P ops Q Bs late f last (S x)) : NX E P ops Q Bs late f listed ix (St.mk n D L H) :=
  nx_oxb (s := ⟨n, D, L, H⟩) hi h hA hl hB hw hlast k

theorem oxb_callg' {c : Call} {f d : Nat} {A : List SV} {HA H' : List Res} {X : Type} {r : X → SV} {HR : X → List Res} (he : Ent P (St.mk n D L H) c f A) (hc : Fn P f A HA r HR) (is js : List Nat) (hn : (is ++ js).Nodup) (hA : PickAt H is HA) (hJ : PickAt H js H') {Hn : X → List Res} (hHn : ∀ x, HR x ++ H' = Hn x) (hd : dst = some d) (hdn : Nat.ble (d + 1) n = true) : OXB E P ⟨dst, .call c, ty, pos, af, g⟩ HA (fun x : X => (St.mk n D ((d, r x) :: L) (Hn x))) (St.mk n D L H) :=
  oxb_callg (s := ⟨n, D, L, H⟩) he hc is js hn hA hJ hHn hd hdn

theorem rb_bin' {op : BinOp} {tx t2 : TypeId} {X Y : Operand} {x y v : Value} (hx : ev L X = some (Vl x)) (hy : ev L Y = some (Vl y)) (hg : Runs P (eqGuard op tx X Y x y) ()) (hr : Runs P (binOp op tx x y) v) : Rb P Bs (St.mk n D L H) ⟨dst, .binOp op tx X Y t2, ty, pos, af, g⟩ (Vl v) :=
  rb_bin (s := ⟨n, D, L, H⟩) hx hy hg hr

theorem rb_un' {op : UnOp} {tx : TypeId} {X : Operand} {x v : Value} (hx : ev L X = some (Vl x)) (hr : Runs P (Op.unary op x) v) : Rb P Bs (St.mk n D L H) ⟨dst, .unOp op tx X, ty, pos, af, g⟩ (Vl v) :=
  rb_un (s := ⟨n, D, L, H⟩) hx hr

theorem rb_conv' {t1 t2 : TypeId} {X : Operand} {x v : Value} (hx : ev L X = some (Vl x)) (hr : Runs P (convert t1 t2 x) v) : Rb P Bs (St.mk n D L H) ⟨dst, .convert t1 t2 X, ty, pos, af, g⟩ (Vl v) :=
  rb_conv (s := ⟨n, D, L, H⟩) hx hr

theorem rb_extract' {X : Operand} {l : List SV} {i : Nat} {x : SV} (hx : ev L X = some (Tu l)) (hi : l[i]? = some x) : Rb P Bs (St.mk n D L H) ⟨dst, .extract X i, ty, pos, af, g⟩ x :=
  rb_extract (s := ⟨n, D, L, H⟩) hx hi

theorem rb_len' {α : Type} {K : Kd α} {xs : List α} {X : Operand} {t e : TypeId} (hx : ev L X = some (Sl K xs)) (ht : P.underlying t = some (.slice e)) : Rb P Bs (St.mk n D L H) ⟨dst, .call { callee := .builtin .len, args := #[X], argTypes := #[t] }, ty, pos, af, g⟩ (Vl (.int .i64 xs.length)) :=
  rb_len (s := ⟨n, D, L, H⟩) hx ht

theorem rb_lenv' {b : Option Addr} {nn c : Nat} {X : Operand} {t e : TypeId} (hx : ev L X = some (Vl (.slice b nn c))) (ht : P.underlying t = some (.slice e)) : Rb P Bs (St.mk n D L H) ⟨dst, .call { callee := .builtin .len, args := #[X], argTypes := #[t] }, ty, pos, af, g⟩ (Vl (.int .i64 nn)) :=
  rb_lenv (s := ⟨n, D, L, H⟩) hx ht

theorem rb_lenr' {α : Type} {K : Kd α} {e' : TypeId} {v : Value} {xs : List α} {i : Nat} {X : Operand} {t e : TypeId} (hx : ev L X = some (Vl v)) (hi : H[i]? = some (Rw K e' v xs)) (hK : Nat.ble 1 K.size = true) (ht : P.underlying t = some (.slice e)) : Rb P Bs (St.mk n D L H) ⟨dst, .call { callee := .builtin .len, args := #[X], argTypes := #[t] }, ty, pos, af, g⟩ (Vl (.int .i64 xs.length)) :=
  rb_lenr (s := ⟨n, D, L, H⟩) hx hi hK ht

theorem rb_imax' {X Y : Operand} {k : IntKind} {x y : Int} {ts : Array TypeId} (hx : ev L X = some (Vl (.int k x))) (hy : ev L Y = some (Vl (.int k y))) : Rb P Bs (St.mk n D L H) ⟨dst, .call { callee := .builtin .max, args := #[X, Y], argTypes := ts }, ty, pos, af, g⟩ (Vl (.int k (imax x y))) :=
  rb_imax (s := ⟨n, D, L, H⟩) hx hy

theorem rb_imin' {X Y : Operand} {k : IntKind} {x y : Int} {ts : Array TypeId} (hx : ev L X = some (Vl (.int k x))) (hy : ev L Y = some (Vl (.int k y))) : Rb P Bs (St.mk n D L H) ⟨dst, .call { callee := .builtin .min, args := #[X, Y], argTypes := ts }, ty, pos, af, g⟩ (Vl (.int k (imin x y))) :=
  rb_imin (s := ⟨n, D, L, H⟩) hx hy

theorem rb_pick_true' {C X Y : Operand} {x : SV} {b : Bool} (hc : ev L C = some (Vl (.bool b))) (hb : b = true) (hx : ev L X = some x) : Rb P Bs (St.mk n D L H) ⟨dst, .pick C X Y, ty, pos, af, g⟩ x :=
  rb_pick_true (s := ⟨n, D, L, H⟩) hc hb hx

theorem rb_pick_false' {C X Y : Operand} {x : SV} {b : Bool} (hc : ev L C = some (Vl (.bool b))) (hb : b = false) (hx : ev L Y = some x) : Rb P Bs (St.mk n D L H) ⟨dst, .pick C X Y, ty, pos, af, g⟩ x :=
  rb_pick_false (s := ⟨n, D, L, H⟩) hc hb hx

theorem rb_fcmp' {op : BinOp} {tx t2 : TypeId} {X Y : Operand} {x y : Nat} {b : Bool} (hx : FlIn L X x) (hy : FlIn L Y y) (hb : (match op with | .eql => some (feq x y) | .neq => some (fne x y) | .lss => some (flt x y) | .leq => some (fle x y) | .gtr => some (fgt x y) | .geq => some (fge x y) | _ => none) = some b) : Rb P Bs (St.mk n D L H) ⟨dst, .binOp op tx X Y t2, ty, pos, af, g⟩ (Vl (.bool b)) :=
  rb_fcmp (s := ⟨n, D, L, H⟩) hx hy hb

theorem rb_fneg_fl' {tx : TypeId} {X : Operand} {x : Nat} (hx : FlIn L X x) : Rb P Bs (St.mk n D L H) ⟨dst, .unOp .neg tx X, ty, pos, af, g⟩ (Fl (fneg x)) :=
  rb_fneg_fl (s := ⟨n, D, L, H⟩) hx

theorem rb_fmax3' {X Y Z : Operand} {x y z r : Nat} {ts : Array TypeId} (hx : ev L X = some (Vl (.float .f64 x))) (hy : ev L Y = some (Vl (.float .f64 y))) (hz : ev L Z = some (Vl (.float .f64 z))) (h : fmax3 x y z = some r) : Rb P Bs (St.mk n D L H) ⟨dst, .call { callee := .builtin .max, args := #[X, Y, Z], argTypes := ts }, ty, pos, af, g⟩ (Vl (.float .f64 r)) :=
  rb_fmax3 (s := ⟨n, D, L, H⟩) hx hy hz h

theorem rd_fmax3' {X Y Z : Operand} {x y z r : Nat} {ts : Array TypeId} (hx : ev L X = some (Vl (.float .f64 x))) (hy : ev L Y = some (Vl (.float .f64 y))) (hz : ev L Z = some (Vl (.float .f64 z))) (h : fmax3 x y z = some r) : Rd P (St.mk n D L H) ⟨dst, .call { callee := .builtin .max, args := #[X, Y, Z], argTypes := ts }, ty, pos, af, g⟩ (Vl (.float .f64 r)) :=
  rd_fmax3 (s := ⟨n, D, L, H⟩) hx hy hz h

theorem rb_fmax' {X Y : Operand} {x y r : Nat} {ts : Array TypeId} (hx : ev L X = some (Vl (.float .f64 x))) (hy : ev L Y = some (Vl (.float .f64 y))) (h : fmax x y = some r) : Rb P Bs (St.mk n D L H) ⟨dst, .call { callee := .builtin .max, args := #[X, Y], argTypes := ts }, ty, pos, af, g⟩ (Vl (.float .f64 r)) :=
  rb_fmax (s := ⟨n, D, L, H⟩) hx hy h

theorem rb_fmin' {X Y : Operand} {x y r : Nat} {ts : Array TypeId} (hx : ev L X = some (Vl (.float .f64 x))) (hy : ev L Y = some (Vl (.float .f64 y))) (h : fmin x y = some r) : Rb P Bs (St.mk n D L H) ⟨dst, .call { callee := .builtin .min, args := #[X, Y], argTypes := ts }, ty, pos, af, g⟩ (Vl (.float .f64 r)) :=
  rb_fmin (s := ⟨n, D, L, H⟩) hx hy h

theorem ox_srow' {d : Nat} {t e : TypeId} {len : Nat} {ps : List (Nat × Operand)} {zs : List Value} {z : Value} {bytes : Nat} {qs : List (Nat × List SV)} {es : Nat} {r : List SV} (hp : PartsEv L ps qs) (ht : P.underlying t = some (.slice e)) (hz : (P.info? e).map (fun i => (i.zero, i.size, i.bytes)) = some (some z, es, bytes)) (hzc : z.cells = ⟨zs⟩) (hsz : Nat.ble 1 es = true) (h1 : zs.all (·.oneCell') = true) (hzl : zs.length = es) (hsmall : Nat.ble (len * es) 16777216 = true) (hf : fillS (fun i => some (i * es, es)) ((List.range (len * es)).map fun i => Vl (zs.getD (i % es) undef)) qs = some r) (hxl : r.length = len * es) (hd : dst = some d) (hn : Nat.ble (d + 1) n = true) : OX E P ⟨dst, .buildSlice t len ⟨ps⟩, ty, pos, af, g⟩ 0 (fun q : Addr => (St.mk n D ((d, Vl (.slice (some q) len len)) :: L) (⟨.slice (some q) len len, r, e, some es⟩ :: H))) (St.mk n D L H) :=
  ox_srow (s := ⟨n, D, L, H⟩) hp ht hz hzc hsz h1 hzl hsmall hf hxl hd hn

theorem tx_loop' {c : Code} (h : TX E (LoopIn P c Q) (St.mk n D L H)) : CX E P (.loop c) Q (St.mk n D L H) :=
  tx_loop (s := ⟨n, D, L, H⟩) h

theorem tx_round' {c : Code} (h : CX E P c (Exit.then (LoopIn P c Q) Q) (St.mk n D L H)) : TX E (LoopIn P c Q) (St.mk n D L H) :=
  tx_round (s := ⟨n, D, L, H⟩) h

theorem tx_roundj' {c : Code} {X : Type} (J : X → St) (ok : X → Prop) (h2 : ∀ v, ok v → TX E (LoopIn P c Q) (J v)) (h1 : ∀ K : Act → World → Prop, (∀ v, ok v → TX E K (J v)) → CX E P c (Exit.then K Q) (St.mk n D L H)) : TX E (LoopIn P c Q) (St.mk n D L H) :=
  tx_roundj (s := ⟨n, D, L, H⟩) J ok h2 h1

theorem rd_append0' {t tx e e' : TypeId} {X Y : Operand} {α : Type} {K : Kd α} {xs : List α} {zv : Value} {bytes : Nat} (hx : ev L X = some (Vl (.slice none 0 0))) (hy : ev L Y = some (Sl K xs)) (h0 : xs.isEmpty = true) (hk : P.underlying tx = some (.slice e')) (ht : P.underlying t = some (.slice e)) (hz : (P.info? e).map (fun i => (i.zero, i.size, i.bytes)) = some (some zv, K.size, bytes)) : Rd P (St.mk n D L H) ⟨dst, .call { callee := .builtin .append, args := #[X, Y], argTypes := #[t, tx] }, ty, pos, af, g⟩ (Vl (.slice none 0 0)) :=
  rd_append0 (s := ⟨n, D, L, H⟩) hx hy h0 hk ht hz

theorem rd_cut_allr' {α : Type} {K : Kd α} {e' : TypeId} {v : Value} {xs : List α} {i : Nat} {X : Operand} {t e : TypeId} {z : Option Value} {bytes : Nat} (hx : ev L X = some (Vl v)) (hi : H[i]? = some (Rw K e' v xs)) (hK : Nat.ble 1 K.size = true) (ht : P.underlying t = some (.slice e)) (he : (P.info? e).map (fun i => (i.zero, i.size, i.bytes)) = some (z, K.size, bytes)) : Rd P (St.mk n D L H) ⟨dst, .slice t X none none none, ty, pos, af, g⟩ (Vl v) :=
  rd_cut_allr (s := ⟨n, D, L, H⟩) hx hi hK ht he

theorem rd_cutr_l' {α : Type} {K : Kd α} {e' : TypeId} {v : Value} {xs ys : List α} {i : Nat} {X Lo : Operand} {k1 : IntKind} {lo : Int} {t e : TypeId} {z : Option Value} {bytes : Nat} (hx : ev L X = some (Vl v)) (hi' : H[i]? = some (Rw K e' v xs)) (hK : Nat.ble 1 K.size = true) (hl : ev L Lo = some (Vl (.int k1 lo))) (hc : cut xs lo xs.length = some ys) (ht : P.underlying t = some (.slice e)) (he : (P.info? e).map (fun i => (i.zero, i.size, i.bytes)) = some (z, K.size, bytes)) : Rd P (St.mk n D L H) ⟨dst, .slice t X (some Lo) none none, ty, pos, af, g⟩ (Sp v K.size lo.toNat ys.length) :=
  rd_cutr_l (s := ⟨n, D, L, H⟩) hx hi' hK hl hc ht he

theorem rd_cutr_h' {α : Type} {K : Kd α} {e' : TypeId} {v : Value} {xs ys : List α} {i : Nat} {X Hi : Operand} {k2 : IntKind} {hi : Int} {t e : TypeId} {z : Option Value} {bytes : Nat} (hx : ev L X = some (Vl v)) (hi' : H[i]? = some (Rw K e' v xs)) (hK : Nat.ble 1 K.size = true) (hh : ev L Hi = some (Vl (.int k2 hi))) (hc : cut xs 0 hi = some ys) (ht : P.underlying t = some (.slice e)) (he : (P.info? e).map (fun i => (i.zero, i.size, i.bytes)) = some (z, K.size, bytes)) : Rd P (St.mk n D L H) ⟨dst, .slice t X none (some Hi) none, ty, pos, af, g⟩ (Sp v K.size (0 : Int).toNat ys.length) :=
  rd_cutr_h (s := ⟨n, D, L, H⟩) hx hi' hK hh hc ht he

theorem rd_cutr_lh' {α : Type} {K : Kd α} {e' : TypeId} {v : Value} {xs ys : List α} {i : Nat} {X Lo Hi : Operand} {k1 k2 : IntKind} {lo hi : Int} {t e : TypeId} {z : Option Value} {bytes : Nat} (hx : ev L X = some (Vl v)) (hi' : H[i]? = some (Rw K e' v xs)) (hK : Nat.ble 1 K.size = true) (hl : ev L Lo = some (Vl (.int k1 lo))) (hh : ev L Hi = some (Vl (.int k2 hi))) (hc : cut xs lo hi = some ys) (ht : P.underlying t = some (.slice e)) (he : (P.info? e).map (fun i => (i.zero, i.size, i.bytes)) = some (z, K.size, bytes)) : Rd P (St.mk n D L H) ⟨dst, .slice t X (some Lo) (some Hi) none, ty, pos, af, g⟩ (Sp v K.size lo.toNat ys.length) :=
  rd_cutr_lh (s := ⟨n, D, L, H⟩) hx hi' hK hl hh hc ht he

theorem ox_copyp' {d i lo m : Nat} {t tx e : TypeId} {X Y : Operand} {α : Type} {K : Kd α} {xs zs us : List α} {v : Value} {z : Option Value} {bytes : Nat} (hx : ev L X = some (Sp v K.size lo m)) (hh : H[i]? = some (Rw K e v xs)) (hb : lo + m ≤ xs.length) (hK : Nat.ble 1 K.size = true) (hy : ev L Y = some (Sl K zs)) (hu : cpat xs lo m zs = us) (ht : P.underlying t = some (.slice e)) (hz : (P.info? e).map (fun i => (i.zero, i.size, i.bytes)) = some (z, K.size, bytes)) (hd : dst = some d) (hn : Nat.ble (d + 1) n = true) {H' : List Res} (hH' : H.set i (Rw K e v us) = H') : OX E P ⟨dst, .call { callee := .builtin .copy, args := #[X, Y], argTypes := #[t, tx] }, ty, pos, af, g⟩ 1 (fun _ : Unit => (St.mk n D ((d, Vl (.int .i64 (Nat.min zs.length m : Nat))) :: L) (H'))) (St.mk n D L H) :=
  ox_copyp (s := ⟨n, D, L, H⟩) hx hh hb hK hy hu ht hz hd hn hH'

theorem tx_arr' {K' : Act → World → Prop} {α : Type} {K : Kd α} {q : Addr} {E' : TypeId} {cs : List SV} {xs : List α} {m i : Nat} (hi : H[i]? = some ⟨.pointer (some q), cs, E', none⟩) (hx : xs.flatMap K.enc = cs) (hm : xs.length = m) {H' : List Res} (hH' : H.set i (Rw K E' (Vs (some q, m, m)) xs) = H') (k : TX E K' (St.mk n D (L) (H'))) : TX E K' (St.mk n D L H) :=
  tx_arr (s := ⟨n, D, L, H⟩) hi hx hm hH' k

theorem rd_cut_arr' {X : Operand} {q : Addr} {t e : TypeId} {m : Nat} {z : Option Value} {size bytes : Nat} (hx : ev L X = some (Vl (.pointer (some q)))) (ht : P.underlying t = some (.array m e)) (he : (P.info? e).map (fun i => (i.zero, i.size, i.bytes)) = some (z, size, bytes)) : Rd P (St.mk n D L H) ⟨dst, .slice t X none none none, ty, pos, af, g⟩ (Vl (.slice (some q) m m)) :=
  rd_cut_arr (s := ⟨n, D, L, H⟩) hx ht he

theorem rd_atarr' {α : Type} {K : Kd α} {e' : TypeId} {g' : Gs} {N : Nat} {xs : List α} {x : α} {m : Nat} {X I : Operand} {k : IntKind} {i : Int} {t e : TypeId} {z : Option Value} {bytes size : Nat} (hx : ev L X = some (Vl (.pointer g'.1))) (hh : H[m]? = some (Rw K e' (Vs g') xs)) (hK : Nat.ble 1 K.size = true) (hi : ev L I = some (Vl (.int k i))) (hg : idxn N xs i = some x) (ht : P.underlying t = some (.array N e)) (he : (P.info? e).map (fun i => (i.zero, i.size, i.bytes)) = some (z, size, bytes)) : Rd P (St.mk n D L H) ⟨dst, .indexAddr t X I, ty, pos, af, g⟩ (Pr (Vs g') (i.toNat * size)) :=
  rd_atarr (s := ⟨n, D, L, H⟩) hx hh hK hi hg ht he

theorem rd_loadarr' {α : Type} {K : Kd α} {e' : TypeId} {g' : Gs} {nn : Nat} {xs : List α} {m : Nat} {X : Operand} {t : TypeId} {l' : List SV} (hx : ev L X = some (Vl (.pointer g'.1))) (hh : H[m]? = some (Rw K e' (Vs g') xs)) (hK : Nat.ble 1 K.size = true) (ht : Agg P t nn) (hl' : xs.flatMap K.enc = l') (hn : l'.length = nn) (h0 : Nat.ble 1 nn = true) : Rd P (St.mk n D L H) ⟨dst, .load t X, ty, pos, af, g⟩ (Ag l') :=
  rd_loadarr (s := ⟨n, D, L, H⟩) hx hh hK ht hl' hn h0

theorem ox_storearr' {α : Type} {K : Kd α} {e' : TypeId} {g' : Gs} {xs xs' : List α} {m : Nat} {X V : Operand} {t : TypeId} {y : SV} {l : List SV} {z : Option Value} {bytes : Nat} (hx : ev L X = some (Vl (.pointer g'.1))) (hv : ev L V = some y) (hl : Lv y l) (hh : H[m]? = some (Rw K e' (Vs g') xs)) (hK : Nat.ble 1 K.size = true) (hx' : xs'.flatMap K.enc = l) (hn : xs'.length = g'.2.1) (h0 : Nat.ble 1 g'.2.1 = true) (hz : (P.info? t).map (fun i => (i.zero, i.size, i.bytes)) = some (z, l.length, bytes)) (hd : dst = none) {H' : List Res} (hH' : H.set m (Rw K e' (Vs g') xs') = H') : OX E P ⟨dst, .store t X V, ty, pos, af, g⟩ 1 (fun _ : Unit => (St.mk n D (L) (H'))) (St.mk n D L H) :=
  ox_storearr (s := ⟨n, D, L, H⟩) hx hv hl hh hK hx' hn h0 hz hd hH'

theorem rd_nilck_pa' {α : Type} {K : Kd α} {e' : TypeId} {g' : Gs} {xs : List α} {m : Nat} {X : Operand} (hx : ev L X = some (Vl (.pointer g'.1))) (hh : H[m]? = some (Rw K e' (Vs g') xs)) (hK : Nat.ble 1 K.size = true) (hn : 1 ≤ xs.length) : Rd P (St.mk n D L H) ⟨dst, .nilCheck X, ty, pos, af, g⟩ (Vl (.pointer g'.1)) :=
  rd_nilck_pa (s := ⟨n, D, L, H⟩) hx hh hK hn

theorem rd_s2a' {α : Type} {K : Kd α} {e' : TypeId} {g' : Gs} {N : Nat} {xs : List α} {m : Nat} {X : Operand} {t e : TypeId} (hx : ev L X = some (Vl (Vs g'))) (hh : H[m]? = some (Rw K e' (Vs g') xs)) (hK : Nat.ble 1 K.size = true) (hN : N ≤ xs.length) (h0 : Nat.ble 1 N = true) (ht : P.underlying t = some (.array N e)) : Rd P (St.mk n D L H) ⟨dst, .sliceToArrayPointer t X, ty, pos, af, g⟩ (Vl (.pointer g'.1)) :=
  rd_s2a (s := ⟨n, D, L, H⟩) hx hh hK hN h0 ht

theorem rd_pa_nil' {α : Type} {K : Kd α} {e' : TypeId} {g' : Gs} {xs : List α} {m : Nat} {X Y : Operand} {o : BinOp} {tx t2 : TypeId} {y v : Value} (hx : ev L X = some (Vl (.pointer g'.1))) (hy : ev L Y = some (Vl y)) (hh : H[m]? = some (Rw K e' (Vs g') xs)) (hK : Nat.ble 1 K.size = true) (hn : 1 ≤ xs.length) (h1 : ∀ (q : Addr) w, (eqGuard o tx X Y (.pointer (some q)) y).run P w = .ok () w) (h2 : ∀ (q : Addr) w, (binOp o tx (.pointer (some q)) y).run P w = .ok v w) : Rd P (St.mk n D L H) ⟨dst, .binOp o tx X Y t2, ty, pos, af, g⟩ (Vl v) :=
  rd_pa_nil (s := ⟨n, D, L, H⟩) hx hy hh hK hn h1 h2

theorem rd_gload0' {t : TypeId} {h : Nat} (ht : Agg P t 0) : Rd P (St.mk n D L H) ⟨dst, .load t (.global h), ty, pos, af, g⟩ (Ag []) :=
  rd_gload0 (s := ⟨n, D, L, H⟩) ht

theorem rd_mkmeth' {name : String} {X : Operand} {x : SV} (hx : ev L X = some x) : Rd P (St.mk n D L H) ⟨dst, .makeFunc (.method name) #[X] #[], ty, pos, af, g⟩ (Mf name x) :=
  rd_mkmeth (s := ⟨n, D, L, H⟩) hx

theorem rd_nilck_mf' {name : String} {X : Operand} {t : TypeId} {x : SV} (hx : ev L X = some (Mf name (If t x))) (h : ∀ w U v, x.R w U v → ∀ w', (nilAhead (P.types.size + Made.depth) t v name).run P w' = .ok (some false) w') : Rd P (St.mk n D L H) ⟨dst, .nilCheck X, ty, pos, af, g⟩ (Mf name (If t x)) :=
  rd_nilck_mf (s := ⟨n, D, L, H⟩) hx h

theorem rd_capv' {b : Option Addr} {nn c : Nat} {X : Operand} {t e : TypeId} (hx : ev L X = some (Vl (.slice b nn c))) (ht : P.underlying t = some (.slice e)) : Rd P (St.mk n D L H) ⟨dst, .call { callee := .builtin .cap, args := #[X], argTypes := #[t] }, ty, pos, af, g⟩ (Vl (.int .i64 c)) :=
  rd_capv (s := ⟨n, D, L, H⟩) hx ht

theorem rd_bytes' {xs : List Int} {X : Operand} {t1 t2 e : TypeId} (hx : ev L X = some (Sl (Ki .u8) xs)) (h1 : P.underlying t1 = some (.slice e)) (he : P.underlying e = some (.int .u8)) (h2 : P.underlying t2 = some .string) : Rd P (St.mk n D L H) ⟨dst, .convert t1 t2 X, ty, pos, af, g⟩ (Vl (.string (bytesOf xs))) :=
  rd_bytes (s := ⟨n, D, L, H⟩) hx h1 he h2

theorem qx_fz' {ops : Array Oper} {rest : List Oper} {K : Act → World → Prop} {s' : St} (h : FrzTo (St.mk n D L H) s') (k : QX E P ops (After K) rest s') : QX E P ops (After K) rest (St.mk n D L H) :=
  qx_fz (s := ⟨n, D, L, H⟩) h k

theorem rd_cut_allr0' {α : Type} {K : Kd α} {e' : TypeId} {v : Value} {xs : List α} {i : Nat} {X Lo : Operand} {k : IntKind} {t e : TypeId} {z : Option Value} {bytes : Nat} (hx : ev L X = some (Vl v)) (hi : H[i]? = some (Rw K e' v xs)) (hK : Nat.ble 1 K.size = true) (hl : ev L Lo = some (Vl (.int k 0))) (ht : P.underlying t = some (.slice e)) (he : (P.info? e).map (fun i => (i.zero, i.size, i.bytes)) = some (z, K.size, bytes)) : Rd P (St.mk n D L H) ⟨dst, .slice t X (some Lo) none none, ty, pos, af, g⟩ (Vl v) :=
  rd_cut_allr0 (s := ⟨n, D, L, H⟩) hx hi hK hl ht he

theorem rd_cutn_l' {α : Type} {K : Kd α} {e' : TypeId} {v : Value} {xs ys : List α} {i : Nat} {X Lo : Operand} {k1 : IntKind} {lo : Int} {t e : TypeId} {z : Option Value} {bytes : Nat} (hx : ev L X = some (Vl v)) (hi' : H[i]? = some (Rw K e' v xs)) (hK : Nat.ble 1 K.size = true) (hl : ev L Lo = some (Vl (.int k1 lo))) (hc : cut xs lo xs.length = some ys) (ht : P.underlying t = some (.slice e)) (he : (P.info? e).map (fun i => (i.zero, i.size, i.bytes)) = some (z, K.size, bytes)) : Rd P (St.mk n D L H) ⟨dst, .slice t X (some Lo) none none, ty, pos, af, g⟩ (Ln ys.length) :=
  rd_cutn_l (s := ⟨n, D, L, H⟩) hx hi' hK hl hc ht he

theorem rd_lenn' {m : Nat} {X : Operand} {t e : TypeId} (hx : ev L X = some (Ln m)) (ht : P.underlying t = some (.slice e)) : Rd P (St.mk n D L H) ⟨dst, .call { callee := .builtin .len, args := #[X], argTypes := #[t] }, ty, pos, af, g⟩ (Vl (.int .i64 m)) :=
  rd_lenn (s := ⟨n, D, L, H⟩) hx ht

theorem rd_gload' {h : Nat} {t : TypeId} {x : SV} (hm : (h, x) ∈ (Gv.l : List (Nat × SV))) (ht : Flat P t) : Rd P (St.mk n D L H) ⟨dst, .load t (.global h), ty, pos, af, g⟩ x :=
  rd_gload (s := ⟨n, D, L, H⟩) hm ht

theorem rd_eqifp' {ti tp te t2 : TypeId} {ms : Array (String × TypeId)} {X Y : Operand} {q : Addr} (hx : ev L X = some (If tp (Vl (.pointer (some q))))) (hy : ev L Y = some (If tp (Vl (.pointer (some q))))) (hi : P.underlying ti = some (.interface ms)) (hp : P.underlying tp = some (.pointer te)) (hc : (P.info? tp).map (·.comparable) = some true) (hte : (P.info? te).isSome = true) : Rd P (St.mk n D L H) ⟨dst, .binOp .eql ti X Y t2, ty, pos, af, g⟩ (Vl (.bool true)) :=
  rd_eqifp (s := ⟨n, D, L, H⟩) hx hy hi hp hc hte

theorem sx_panic' (hp : Pan P (St.mk n D L H) o) (hw : Wt ops (St.mk n D L H) o true) (k : PanQ E Q (St.mk n D L H)) : SX E P ops Q (o :: rest) (St.mk n D L H) :=
  sx_panic (s := ⟨n, D, L, H⟩) hp hw k

theorem sx_callp' {c : Call} {f : Nat} {A : List SV} {HA H' : List Res} {X : Type} {r : X → SV} {HR : X → List Res} (he : Ent P (St.mk n D L H) c f A) (hc : Fx P f A HA true r HR) (is js : List Nat) (hn : (is ++ js).Nodup) (hA : PickAt H is HA) (hJ : PickAt H js H') (hw : Wt ops (St.mk n D L H) ⟨dst, .call c, ty, pos, af, g⟩ true) (k : PanQ E Q (St.mk n D (L) (H'))) : SX E P ops Q (⟨dst, .call c, ty, pos, af, g⟩ :: rest) (St.mk n D L H) :=
  sx_callp (s := ⟨n, D, L, H⟩) he hc is js hn hA hJ hw k

theorem tx_panout' {fn : Func} (hD : D = []) : PanQ E (bodyPost P fn (PanE E)) (St.mk n D L H) :=
  tx_panout (s := ⟨n, D, L, H⟩) hD

theorem tx_caught' {fn : Func} {R : Ending → World → Prop} {f : Nat} {us : List Value} {HA HR H' : List Res} {fn' : Func} (hD : D = [⟨.fn (.func f) ⟨us⟩, #[]⟩]) (hc : Catch P f (us.map Vl) HA HR) (hf : P.funcs[f]? = some fn') (hn : (fn'.name == "runtime.NumGoroutine") = false) (hb : fn'.body.isNone = false) (is js : List Nat) (hnd : (is ++ js).Nodup) (hA : PickAt H is HA) (hJ : PickAt H js H') (k : TX E (bodyPost P fn R .ret) (St.mk n ([]) L (HR ++ H'))) : PanQ E (bodyPostD P fn R) (St.mk n D L H) :=
  tx_caught (s := ⟨n, D, L, H⟩) hD hc hf hn hb is js hnd hA hJ k

theorem pan_op' {X : Operand} {t : TypeId} {x : SV} (hx : ev L X = some (If t x)) : Pan P (St.mk n D L H) ⟨dst, .panic X, ty, pos, af, g⟩ :=
  pan_op (s := ⟨n, D, L, H⟩) hx

theorem pan_assert' {X : Operand} {t tx ta te : TypeId} {x : SV} {u : TypeDesc} (hx : ev L X = some (If t x)) (hu : P.underlying ta = some u) (hni : ∀ m, u ≠ .interface m) (hne : Nat.beq t ta = false) (hrt : P.underlying P.rt.typeAssertionError = some (.pointer te)) : Pan P (St.mk n D L H) ⟨dst, .typeAssert X tx ta false, ty, pos, af, g⟩ :=
  pan_assert (s := ⟨n, D, L, H⟩) hx hu hni hne hrt

end Go.Sx
