/-
  The steps once more, over a state that is written out. Ours; it knows no program. Printed by a program of ours out of the steps' own headings.
-/
import Derived.Test.YtjgpiealnfbkcaaSxU
namespace Go.Sx
set_option linter.unusedVariables false
set_option linter.unusedSectionVars false
variable [Gv] {E : Env} {P : Program} {Q : Exit → Act → World → Prop} {ops : Array Oper} {rest : List Oper} {o : Oper} {n : Nat} {D : List Deferred} {L : List (Nat × SV)} {H : List Res}
  {Bs : List Nat} {late pl : List (Nat × Nat)} {ix : Nat} {dst d : Option Tmp} {ty : TypeId} {pos : String} {af : Array Edge} {g : Option (Nat × Bool)} {fn : Func} {X : Type} {r : X → SV} {HR : X → List Res}

theorem cx_seq' {x y : Code} (h : ∀ K : Act → World → Prop, (∀ a w, y.wp P Q a w → K a w) → CX E P x (Exit.then K Q) (St.mk n D L H)) : CX E P (.seq x y) Q (St.mk n D L H) :=
  cx_seq (s := ⟨n, D, L, H⟩) h

theorem cx_join' {x y : Code} {X : Type} (J : X → St) (ok : X → Prop) (h2 : ∀ v, ok v → CX E P y Q (J v)) (h1 : ∀ K : Act → World → Prop, (∀ v, ok v → TX E K (J v)) → CX E P x (Exit.then K Q) (St.mk n D L H)) : CX E P (.seq x y) Q (St.mk n D L H) :=
  cx_join (s := ⟨n, D, L, H⟩) J ok h2 h1

theorem cx_skip' (h : TX E (Q .normal) (St.mk n D L H)) : CX E P .skip Q (St.mk n D L H) :=
  cx_skip (s := ⟨n, D, L, H⟩) h

theorem cx_exit' {id : Nat} (h : TX E (Q (.exit id)) (St.mk n D L H)) : CX E P (.exit id) Q (St.mk n D L H) :=
  cx_exit (s := ⟨n, D, L, H⟩) h

theorem cx_retc' (h : TX E (Q .ret) (St.mk n D L H)) : CX E P .ret Q (St.mk n D L H) :=
  cx_retc (s := ⟨n, D, L, H⟩) h

theorem cx_block' {id : Nat} {c : Code} (h : CX E P c (Exit.inBlock id Q) (St.mk n D L H)) : CX E P (.block id c) Q (St.mk n D L H) :=
  cx_block (s := ⟨n, D, L, H⟩) h

theorem cx_cond' {c : Operand} {x y : Code} {b : Bool} (hb : ev L c = some (Vl (.bool b))) (ht : b = true → CX E P x Q (St.mk n D L H)) (hf : b = false → CX E P y Q (St.mk n D L H)) : CX E P (.cond c x y) Q (St.mk n D L H) :=
  cx_cond (s := ⟨n, D, L, H⟩) hb ht hf

theorem tx_k' {y : Code} {K : Act → World → Prop} (hK : ∀ a w, y.wp P Q a w → K a w) (h : CX E P y Q (St.mk n D L H)) : TX E K (St.mk n D L H) :=
  tx_k (s := ⟨n, D, L, H⟩) hK h

theorem cx_cond_t' {c : Operand} {x y : Code} {b : Bool} (hb : ev L c = some (Vl (.bool b))) (h : b = true) (k : CX E P x Q (St.mk n D L H)) : CX E P (.cond c x y) Q (St.mk n D L H) :=
  cx_cond_t (s := ⟨n, D, L, H⟩) hb h k

theorem cx_cond_f' {c : Operand} {x y : Code} {b : Bool} (hb : ev L c = some (Vl (.bool b))) (h : b = false) (k : CX E P y Q (St.mk n D L H)) : CX E P (.cond c x y) Q (St.mk n D L H) :=
  cx_cond_f (s := ⟨n, D, L, H⟩) hb h k

theorem cx_region' {id : Nat} {l : List Oper} (h : SX E P l.toArray Q l (St.mk n D L H)) : CX E P (.region id l.toArray false) Q (St.mk n D L H) :=
  cx_region (s := ⟨n, D, L, H⟩) h

theorem sx_nil' (h : TX E (Q .normal) (St.mk n D L H)) : SX E P ops Q [] (St.mk n D L H) :=
  sx_nil (s := ⟨n, D, L, H⟩) h

theorem cx_draw' {id : Nat} {l : List Oper} (hm : P.follows .mixedOrders = true) (hB : Region.lexB .any l.toArray = true) (h : QX E P l.toArray (After (Q .normal)) l (St.mk n D L H)) : CX E P (.region id l.toArray true) Q (St.mk n D L H) :=
  cx_draw (s := ⟨n, D, L, H⟩) hm hB h

theorem qx_nil' {K : Act → World → Prop} (h : TX E K (St.mk n D L H)) : QX E P ops (After K) [] (St.mk n D L H) :=
  qx_nil (s := ⟨n, D, L, H⟩) h

theorem sx_cutn' (nn : Nat) {X : Type} (J : X → St) (ok : X → Prop) (h2 : ∀ v, ok v → SX E P ops Q (rest.drop nn) (J v)) (h1 : ∀ K : Act → World → Prop, (∀ v, ok v → TX E K (J v)) → SX E P ops (Exit.then K Q) (rest.take nn) (St.mk n D L H)) : SX E P ops Q rest (St.mk n D L H) :=
  sx_cutn (s := ⟨n, D, L, H⟩) nn J ok h2 h1

theorem wt_none' (h : o.guard = none) : Wt ops (St.mk n D L H) o true :=
  wt_none (s := ⟨n, D, L, H⟩) h

theorem wt_guard' {j d : Nat} {want b : Bool} (h : o.guard = some (j, want)) (hd : (ops[j]?).bind (·.dst) = some d) (hl : look L d = some (Vl (.bool b))) : Wt ops (St.mk n D L H) o (b == want) :=
  wt_guard (s := ⟨n, D, L, H⟩) h hd hl

theorem wt_is' {b c : Bool} (h : Wt ops (St.mk n D L H) o b) (e : b = c) : Wt ops (St.mk n D L H) o c :=
  wt_is (s := ⟨n, D, L, H⟩) h e

theorem sx_rd' {d : Nat} {x : SV} (hr : Rd P (St.mk n D L H) o x) (hd : o.dst = some d) (hn : Nat.ble (d + 1) n = true) (hw : Wt ops (St.mk n D L H) o true) (k : SX E P ops Q rest ((St.mk n D ((d, x) :: L) H))) : SX E P ops Q (o :: rest) (St.mk n D L H) :=
  sx_rd (s := ⟨n, D, L, H⟩) hr hd hn hw k

theorem sx_skip' {d : Nat} (hd : o.dst = some d) (hn : Nat.ble (d + 1) n = true) (hw : Wt ops (St.mk n D L H) o false) (k : SX E P ops Q rest ((St.mk n D ((d, Vl undef) :: L) H))) : SX E P ops Q (o :: rest) (St.mk n D L H) :=
  sx_skip (s := ⟨n, D, L, H⟩) hd hn hw k

theorem qx_rd' {K : Act → World → (Nat → Prop) → Prop} {d : Nat} {x : SV} (hr : Rd P (St.mk n D L H) o x) (hd : o.dst = some d) (hn : Nat.ble (d + 1) n = true) (hw : Wt ops (St.mk n D L H) o true) (k : QX E P ops K rest ((St.mk n D ((d, x) :: L) H))) : QX E P ops K (o :: rest) (St.mk n D L H) :=
  qx_rd (s := ⟨n, D, L, H⟩) hr hd hn hw k

theorem rd_move' {X : Operand} {x : SV} (hx : ev L X = some x) : Rd P (St.mk n D L H) ⟨d, .move X, ty, pos, af, g⟩ x :=
  rd_move (s := ⟨n, D, L, H⟩) hx

theorem rd_assign' {X : Operand} {x : SV} (hx : ev L X = some x) : Rd P (St.mk n D L H) ⟨d, .assign X, ty, pos, af, g⟩ x :=
  rd_assign (s := ⟨n, D, L, H⟩) hx

theorem rd_pick_true' {C X Y : Operand} {x : SV} {b : Bool} (hc : ev L C = some (Vl (.bool b))) (hb : b = true) (hx : ev L X = some x) : Rd P (St.mk n D L H) ⟨d, .pick C X Y, ty, pos, af, g⟩ x :=
  rd_pick_true (s := ⟨n, D, L, H⟩) hc hb hx

theorem rd_pick_false' {C X Y : Operand} {x : SV} {b : Bool} (hc : ev L C = some (Vl (.bool b))) (hb : b = false) (hx : ev L Y = some x) : Rd P (St.mk n D L H) ⟨d, .pick C X Y, ty, pos, af, g⟩ x :=
  rd_pick_false (s := ⟨n, D, L, H⟩) hc hb hx

theorem rd_bin' {op : BinOp} {tx t2 : TypeId} {X Y : Operand} {x y v : Value} (hx : ev L X = some (Vl x)) (hy : ev L Y = some (Vl y)) (hg : Runs P (eqGuard op tx X Y x y) ()) (hr : Runs P (binOp op tx x y) v) : Rd P (St.mk n D L H) ⟨d, .binOp op tx X Y t2, ty, pos, af, g⟩ (Vl v) :=
  rd_bin (s := ⟨n, D, L, H⟩) hx hy hg hr

theorem rd_un' {op : UnOp} {tx : TypeId} {X : Operand} {x v : Value} (hx : ev L X = some (Vl x)) (hr : Runs P (Op.unary op x) v) : Rd P (St.mk n D L H) ⟨d, .unOp op tx X, ty, pos, af, g⟩ (Vl v) :=
  rd_un (s := ⟨n, D, L, H⟩) hx hr

theorem rd_extract' {X : Operand} {l : List SV} {i : Nat} {x : SV} (hx : ev L X = some (Tu l)) (hi : l[i]? = some x) : Rd P (St.mk n D L H) ⟨d, .extract X i, ty, pos, af, g⟩ x :=
  rd_extract (s := ⟨n, D, L, H⟩) hx hi

theorem rd_iface' {t : TypeId} {X : Operand} {x : SV} (hx : ev L X = some x) (hu : ∃ u, P.underlying t = some u ∧ (∀ ms, u ≠ .interface ms)) : Rd P (St.mk n D L H) ⟨d, .makeInterface t X, ty, pos, af, g⟩ (If t x) :=
  rd_iface (s := ⟨n, D, L, H⟩) hx hu

theorem rd_len' {α : Type} {K : Kd α} {xs : List α} {X : Operand} {t e : TypeId} (hx : ev L X = some (Sl K xs)) (ht : P.underlying t = some (.slice e)) : Rd P (St.mk n D L H) ⟨d, .call { callee := .builtin .len, args := #[X], argTypes := #[t] }, ty, pos, af, g⟩ (Vl (.int .i64 xs.length)) :=
  rd_len (s := ⟨n, D, L, H⟩) hx ht

theorem rd_at' {α : Type} {K : Kd α} {xs : List α} {x : α} {X I : Operand} {k : IntKind} {i : Int} {t e : TypeId} {z : Option Value} {bytes : Nat} (hx : ev L X = some (Sl K xs)) (hi : ev L I = some (Vl (.int k i))) (hg : idx xs i = some x) (ht : P.underlying t = some (.slice e)) (he : (P.info? e).map (fun i => (i.zero, i.size, i.bytes)) = some (z, K.size, bytes)) : Rd P (St.mk n D L H) ⟨d, .indexAddr t X I, ty, pos, af, g⟩ (Pt (K.enc x)) :=
  rd_at (s := ⟨n, D, L, H⟩) hx hi hg ht he

theorem rd_field' {t : TypeId} {X : Operand} {q : Addr} {f : Nat} {fs : Array Field} {fd : Field} (hx : ev L X = some (Vl (.pointer (some q)))) (ht : P.underlying t = some (.struct fs)) (hf : fs[f]? = some fd) {z : Option Value} {nn bytes : Nat} (hz : (P.info? fd.type).map (fun i => (i.zero, i.size, i.bytes)) = some (z, nn + 1, bytes)) {off : Nat} (hoff : fd.offset = off) : Rd P (St.mk n D L H) ⟨dst, .fieldAddr t X f, ty, pos, af, g⟩ (Vl (.pointer (some (q.add off)))) :=
  rd_field (s := ⟨n, D, L, H⟩) hx ht hf hz hoff

theorem rd_field_pt' {t : TypeId} {X : Operand} {l : List SV} {f : Nat} {fs : Array Field} {fd : Field} (hx : ev L X = some (Pt l)) (ht : P.underlying t = some (.struct fs)) (hf : fs[f]? = some fd) {z : Option Value} {nn bytes : Nat} (hz : (P.info? fd.type).map (fun i => (i.zero, i.size, i.bytes)) = some (z, nn + 1, bytes)) {off : Nat} (hoff : fd.offset = off) {l' : List SV} (hl' : l.drop off = l') : Rd P (St.mk n D L H) ⟨dst, .fieldAddr t X f, ty, pos, af, g⟩ (Pt l') :=
  rd_field_pt (s := ⟨n, D, L, H⟩) hx ht hf hz hoff hl'

theorem rd_load' {t : TypeId} {X : Operand} {i o : Nat} {r : Res} {q p : Addr} {x : SV} (hx : ev L X = some (Vl (.pointer (some p)))) (hr : AtRes (St.mk n D L H) i r q p o) (hc : r.cs[o]? = some x) (ht : Flat P t) : Rd P (St.mk n D L H) ⟨dst, .load t X, ty, pos, af, g⟩ x :=
  rd_load (s := ⟨n, D, L, H⟩) hx hr hc ht

theorem rd_load_agg' {t : TypeId} {X : Operand} {i o nn : Nat} {r : Res} {q p : Addr} (hx : ev L X = some (Vl (.pointer (some p)))) (hr : AtRes (St.mk n D L H) i r q p o) (hc : Nat.ble (o + nn) r.cs.length = true) (ht : Agg P t nn) {l' : List SV} (hl' : (r.cs.drop o).take nn = l') : Rd P (St.mk n D L H) ⟨dst, .load t X, ty, pos, af, g⟩ (Ag l') :=
  rd_load_agg (s := ⟨n, D, L, H⟩) hx hr hc ht hl'

theorem rd_load_pt' {t : TypeId} {X : Operand} {l : List SV} {x : SV} (hx : ev L X = some (Pt l)) (hc : l[0]? = some x) (ht : Flat P t) : Rd P (St.mk n D L H) ⟨dst, .load t X, ty, pos, af, g⟩ x :=
  rd_load_pt (s := ⟨n, D, L, H⟩) hx hc ht

theorem rd_load_pt_agg' {t : TypeId} {X : Operand} {l : List SV} {nn : Nat} (hx : ev L X = some (Pt l)) (hc : Nat.ble nn l.length = true) (ht : Agg P t nn) {l' : List SV} (hl' : l.take nn = l') : Rd P (St.mk n D L H) ⟨dst, .load t X, ty, pos, af, g⟩ (Ag l') :=
  rd_load_pt_agg (s := ⟨n, D, L, H⟩) hx hc ht hl'

theorem sx_call' {f d : Nat} {fn : Func} {Xs : List Operand} {ts : Array TypeId} {A : List SV} {HA H' : List Res} {X : Type} {r : X → SV} {HR : X → List Res} (hc : Fn P f A HA r HR) (hf : P.funcs[f]? = some fn) (hn : (fn.name == "runtime.NumGoroutine") = false) (hb : fn.body.isNone = false) (ha : evs L Xs = some A) (hH : H.Perm (HA ++ H')) (hd : dst = some d) (hdn : Nat.ble (d + 1) n = true) (hw : Wt ops (St.mk n D L H) ⟨dst, .call { callee := .value (.func f), args := ⟨Xs⟩, argTypes := ts }, ty, pos, af, g⟩ true) (k : ∀ x, SX E P ops Q rest (St.mk n D ((d, r x) :: L) (HR x ++ H'))) : SX E P ops Q (⟨dst, .call { callee := .value (.func f), args := ⟨Xs⟩, argTypes := ts }, ty, pos, af, g⟩ :: rest) (St.mk n D L H) :=
  sx_call (s := ⟨n, D, L, H⟩) hc hf hn hb ha hH hd hdn hw k

theorem rv_tmp' {t : Nat} {x : SV} (h : look L t = some x) : Rv P (St.mk n D L H) (.tmp t) x :=
  rv_tmp (s := ⟨n, D, L, H⟩) h

theorem rv_cell' {t : Nat} {ty : TypeId} {i o : Nat} {q : Res} {ad p : Addr} {x : SV} (hx : look L t = some (Vl (.pointer (some p)))) (hr : AtRes (St.mk n D L H) i q ad p o) (hc : q.cs[o]? = some x) (ht : Flat P ty) : Rv P (St.mk n D L H) (.cell t ty) x :=
  rv_cell (s := ⟨n, D, L, H⟩) hx hr hc ht

theorem tx_ret1' {rv : ResultVar} (hres : fn.results = #[rv]) (hD : D = []) (x : X) (h : Rv P (St.mk n D L H) rv (r x)) (hH : Keep (HR x) H) : TX E (bodyPost P fn (PostE E r HR) .ret) (St.mk n D L H) :=
  tx_ret1 (s := ⟨n, D, L, H⟩) hres hD x h hH

theorem tx_ret2' {rv rv' : ResultVar} {y z : SV} (hres : fn.results = #[rv, rv']) (hD : D = []) (x : X) (h : Rv P (St.mk n D L H) rv y) (h' : Rv P (St.mk n D L H) rv' z) (hx : r x = Tu [y, z]) (hH : Keep (HR x) H) : TX E (bodyPost P fn (PostE E r HR) .ret) (St.mk n D L H) :=
  tx_ret2 (s := ⟨n, D, L, H⟩) hres hD x h h' hx hH

theorem tx_ret3' {rv rv' rv'' : ResultVar} {y z z' : SV} (hres : fn.results = #[rv, rv', rv'']) (hD : D = []) (x : X) (h : Rv P (St.mk n D L H) rv y) (h' : Rv P (St.mk n D L H) rv' z) (h'' : Rv P (St.mk n D L H) rv'' z') (hx : r x = Tu [y, z, z']) (hH : Keep (HR x) H) : TX E (bodyPost P fn (PostE E r HR) .ret) (St.mk n D L H) :=
  tx_ret3 (s := ⟨n, D, L, H⟩) hres hD x h h' h'' hx hH

theorem tx_ret0' (hres : fn.results = #[]) (hD : D = []) (x : X) (hx : r x = Vl (.tuple #[])) (hH : Keep (HR x) H) : TX E (bodyPost P fn (PostE E r HR) .ret) (St.mk n D L H) :=
  tx_ret0 (s := ⟨n, D, L, H⟩) hres hD x hx hH

theorem tx_end0' (hres : fn.results = #[]) (hD : D = []) (x : X) (hx : r x = Vl (.tuple #[])) (hH : Keep (HR x) H) : TX E (bodyPost P fn (PostE E r HR) .normal) (St.mk n D L H) :=
  tx_end0 (s := ⟨n, D, L, H⟩) hres hD x hx hH

theorem rd_ext' {f : Nat} {Xs : List Operand} {ts : Array TypeId} {us : List Value} {v : Value} (ha : evs L Xs = some (us.map Vl)) (hr : Runs P (callFunc f us.toArray) (.value v)) : Rd P (St.mk n D L H) ⟨d, .call { callee := .value (.func f), args := ⟨Xs⟩, argTypes := ts }, ty, pos, af, g⟩ (Vl v) :=
  rd_ext (s := ⟨n, D, L, H⟩) ha hr

theorem rd_fmin' {X Y : Operand} {x y r : Nat} {ts : Array TypeId} (hx : ev L X = some (Vl (.float .f64 x))) (hy : ev L Y = some (Vl (.float .f64 y))) (h : fmin x y = some r) : Rd P (St.mk n D L H) ⟨d, .call { callee := .builtin .min, args := #[X, Y], argTypes := ts }, ty, pos, af, g⟩ (Vl (.float .f64 r)) :=
  rd_fmin (s := ⟨n, D, L, H⟩) hx hy h

theorem rd_lenv' {b : Option Addr} {nn c : Nat} {X : Operand} {t e : TypeId} (hx : ev L X = some (Vl (.slice b nn c))) (ht : P.underlying t = some (.slice e)) : Rd P (St.mk n D L H) ⟨dst, .call { callee := .builtin .len, args := #[X], argTypes := #[t] }, ty, pos, af, g⟩ (Vl (.int .i64 nn)) :=
  rd_lenv (s := ⟨n, D, L, H⟩) hx ht

theorem rd_build' {t : TypeId} {ps : List (Nat × Operand)} {fs : List Field} {zs : List Value} {z : Value} {size bytes : Nat} {pls : List (Nat × Nat)} {qs : List (Nat × List SV)} {r : List SV} (hp : PartsEv L ps qs) (ht : P.underlying t = some (.struct ⟨fs⟩)) (hfs : ∀ f ∈ fs, (P.info? f.type).isSome = true) (hpl : placesOf P fs = pls) (hz : (P.info? t).map (fun i => (i.zero, i.size, i.bytes)) = some (some z, size, bytes)) (hzc : z.cells = ⟨zs⟩) (h1 : zs.all (·.oneCell') = true) (hf : fillS (fun i : Nat => pls[i]?) (zs.map Vl) qs = some r) : Rd P (St.mk n D L H) ⟨dst, .build t ⟨ps⟩, ty, pos, af, g⟩ (Ag r) :=
  rd_build (s := ⟨n, D, L, H⟩) hp ht hfs hpl hz hzc h1 hf

theorem cx_plan' {id : Nat} {l : List Oper} (Bs : List Nat) (late plan : List (Nat × Nat)) (hm : P.follows .mixedOrders = true) (hB : planOk l.toArray late plan = true) (h : PX E P l.toArray Q Bs late plan (St.mk n D L H)) : CX E P (.region id l.toArray true) Q (St.mk n D L H) :=
  cx_plan (s := ⟨n, D, L, H⟩) Bs late plan hm hB h

theorem px_nil' (h : TX E (Q .normal) (St.mk n D L H)) : PX E P ops Q Bs late [] (St.mk n D L H) :=
  px_nil (s := ⟨n, D, L, H⟩) h

theorem px_rd' {d : Nat} {x : SV} (hi : ops[ix]? = some o) (hr : Rd P (St.mk n D L H) o x) (hd : o.dst = some d) (hn : Nat.ble (d + 1) n = true) (hw : Wt ops (St.mk n D L H) o true) (k : PX E P ops Q Bs late pl ((St.mk n D ((d, x) :: L) H))) : PX E P ops Q Bs late ((ix, 1) :: pl) (St.mk n D L H) :=
  px_rd (s := ⟨n, D, L, H⟩) hi hr hd hn hw k

theorem px_rb' {d : Nat} {x : SV} (hi : ops[ix]? = some o) (hr : Rb P Bs (St.mk n D L H) o x) (hd : o.dst = some d) (hn : Nat.ble (d + 1) n = true) (hw : Wt ops (St.mk n D L H) o true) (k : PX E P ops Q Bs late pl ((St.mk n D ((d, x) :: L) H))) : PX E P ops Q Bs late ((ix, 2) :: pl) (St.mk n D L H) :=
  px_rb (s := ⟨n, D, L, H⟩) hi hr hd hn hw k

theorem sx_ox' {l : Nat} {X : Type} {S : X → St} (h : OX E P o l S (St.mk n D L H)) (hw : Wt ops (St.mk n D L H) o true) (k : ∀ x, SX E P ops Q rest (S x)) : SX E P ops Q (o :: rest) (St.mk n D L H) :=
  sx_ox (s := ⟨n, D, L, H⟩) h hw k

theorem px_ox' {l : Nat} {X : Type} {S : X → St} (hi : ops[ix]? = some o) (h : OX E P o l S (St.mk n D L H)) (hl : Nat.ble l (levOf late ix) = true) (hB : BsIn H Bs) (hw : Wt ops (St.mk n D L H) o true) (k : ∀ x, PX E P ops Q Bs late pl (S x)) : PX E P ops Q Bs late ((ix, 0) :: pl) (St.mk n D L H) :=
  px_ox (s := ⟨n, D, L, H⟩) hi h hl hB hw k

theorem rb_move' {X : Operand} {x : SV} (hx : ev L X = some x) : Rb P Bs (St.mk n D L H) ⟨dst, .move X, ty, pos, af, g⟩ x :=
  rb_move (s := ⟨n, D, L, H⟩) hx

theorem rb_load' {t : TypeId} {X : Operand} {i o : Nat} {r : Res} {q p : Addr} {x : SV} (hx : ev L X = some (Vl (.pointer (some p)))) (hr : AtRes (St.mk n D L H) i r q p o) (hc : r.cs[o]? = some x) (ht : Flat P t) (hb : Bs.contains q.block = true) : Rb P Bs (St.mk n D L H) ⟨dst, .load t X, ty, pos, af, g⟩ x :=
  rb_load (s := ⟨n, D, L, H⟩) hx hr hc ht hb

theorem ox_box' {d : Nat} {t : TypeId} {X : Operand} {x : SV} {l : List SV} (hx : ev L X = some x) (hl : Lv x l) (hd : dst = some d) (hn : Nat.ble (d + 1) n = true) : OX E P ⟨dst, .box t X, ty, pos, af, g⟩ 0 (fun q : Addr => (St.mk n D ((d, Vl (.pointer (some q))) :: L) (⟨.pointer (some q), l, t, none⟩ :: H))) (St.mk n D L H) :=
  ox_box (s := ⟨n, D, L, H⟩) hx hl hd hn

theorem ox_alloc' {d : Nat} {t : TypeId} {zs : List Value} {size bytes : Nat} {z : Value} (hz : (P.info? t).map (fun i => (i.zero, i.size, i.bytes)) = some (some z, size, bytes)) (hc : z.cells = ⟨zs⟩) (h1 : zs.all (·.oneCell') = true) (hd : dst = some d) (hn : Nat.ble (d + 1) n = true) {l : List SV} (hl : zs.map Vl = l) : OX E P ⟨dst, .alloc t, ty, pos, af, g⟩ 0 (fun q : Addr => (St.mk n D ((d, Vl (.pointer (some q))) :: L) (⟨.pointer (some q), l, t, none⟩ :: H))) (St.mk n D L H) :=
  ox_alloc (s := ⟨n, D, L, H⟩) hz hc h1 hd hn hl

theorem ox_store' {t : TypeId} {X V : Operand} {x : SV} {l : List SV} {i o : Nat} {r : Res} {q p : Addr} {z : Option Value} {bytes : Nat} (hx : ev L X = some (Vl (.pointer (some p)))) (hv : ev L V = some x) (hl : Lv x l) (hr : AtRes (St.mk n D L H) i r q p o) (hle : Nat.ble (o + l.length) r.cs.length = true) (hz : (P.info? t).map (fun i => (i.zero, i.size, i.bytes)) = some (z, l.length, bytes)) (hd : dst = none) {H' : List Res} (hH' : H.set i { r with cs := putS r.cs o l } = H') : OX E P ⟨dst, .store t X V, ty, pos, af, g⟩ 2 (fun _ : Unit => (St.mk n D (L) (H'))) (St.mk n D L H) :=
  ox_store (s := ⟨n, D, L, H⟩) hx hv hl hr hle hz hd hH'

theorem rd_lenr' {α : Type} {K : Kd α} {e' : TypeId} {v : Value} {xs : List α} {i : Nat} {X : Operand} {t e : TypeId} (hx : ev L X = some (Vl v)) (hi : H[i]? = some (Rw K e' v xs)) (hK : Nat.ble 1 K.size = true) (ht : P.underlying t = some (.slice e)) : Rd P (St.mk n D L H) ⟨dst, .call { callee := .builtin .len, args := #[X], argTypes := #[t] }, ty, pos, af, g⟩ (Vl (.int .i64 xs.length)) :=
  rd_lenr (s := ⟨n, D, L, H⟩) hx hi hK ht

theorem rd_atr' {α : Type} {K : Kd α} {e' : TypeId} {v : Value} {xs : List α} {x : α} {m : Nat} {X I : Operand} {k : IntKind} {i : Int} {t e : TypeId} {z : Option Value} {bytes size : Nat} (hx : ev L X = some (Vl v)) (hh : H[m]? = some (Rw K e' v xs)) (hK : Nat.ble 1 K.size = true) (hi : ev L I = some (Vl (.int k i))) (hg : idx xs i = some x) (ht : P.underlying t = some (.slice e)) (he : (P.info? e).map (fun i => (i.zero, i.size, i.bytes)) = some (z, size, bytes)) : Rd P (St.mk n D L H) ⟨dst, .indexAddr t X I, ty, pos, af, g⟩ (Pr v (i.toNat * size)) :=
  rd_atr (s := ⟨n, D, L, H⟩) hx hh hK hi hg ht he

theorem rd_fieldr' {t : TypeId} {X : Operand} {v : Value} {o : Nat} {f : Nat} {fs : Array Field} {fd : Field} (hx : ev L X = some (Pr v o)) (ht : P.underlying t = some (.struct fs)) (hf : fs[f]? = some fd) {z : Option Value} {nn bytes : Nat} (hz : (P.info? fd.type).map (fun i => (i.zero, i.size, i.bytes)) = some (z, nn + 1, bytes)) {off : Nat} (hoff : fd.offset = off) : Rd P (St.mk n D L H) ⟨dst, .fieldAddr t X f, ty, pos, af, g⟩ (Pr v (o + off)) :=
  rd_fieldr (s := ⟨n, D, L, H⟩) hx ht hf hz hoff

theorem rd_loadr' {t : TypeId} {X : Operand} {α : Type} {K : Kd α} {e : TypeId} {v : Value} {xs : List α} {x : α} {m o j : Nat} {i : Int} {y : SV} (hx : ev L X = some (Pr v o)) (hh : H[m]? = some (Rw K e v xs)) (hK : Nat.ble 1 K.size = true) (hg : idx xs i = some x) (ho : o = i.toNat * K.size + j) (hj : (K.enc x)[j]? = some y) (ht : Flat P t) : Rd P (St.mk n D L H) ⟨dst, .load t X, ty, pos, af, g⟩ y :=
  rd_loadr (s := ⟨n, D, L, H⟩) hx hh hK hg ho hj ht

theorem ox_storer' {t : TypeId} {X V : Operand} {α : Type} {K : Kd α} {e : TypeId} {v : Value} {xs : List α} {x x' : α} {m o j : Nat} {i : Int} {y : SV} {l : List SV} {z : Option Value} {bytes : Nat} (hx : ev L X = some (Pr v o)) (hv : ev L V = some y) (hl : Lv y l) (hh : H[m]? = some (Rw K e v xs)) (hK : Nat.ble 1 K.size = true) (hg : idx xs i = some x) (ho : o = i.toNat * K.size + j) (hx' : K.enc x' = putS (K.enc x) j l) (hjl : Nat.ble (j + l.length) K.size = true) (hz : (P.info? t).map (fun i => (i.zero, i.size, i.bytes)) = some (z, l.length, bytes)) (hd : dst = none) {H' : List Res} (hH' : H.set m (Rw K e v (xs.set i.toNat x')) = H') : OX E P ⟨dst, .store t X V, ty, pos, af, g⟩ 1 (fun _ : Unit => (St.mk n D (L) (H'))) (St.mk n D L H) :=
  ox_storer (s := ⟨n, D, L, H⟩) hx hv hl hh hK hg ho hx' hjl hz hd hH'

theorem ox_rowlit' {d : Nat} {t e : TypeId} {len : Nat} {ps : List (Nat × Operand)} {zs : List Value} {z : Value} {bytes : Nat} {qs : List (Nat × List SV)} {α : Type} {K : Kd α} {xs : List α} (hp : PartsEv L ps qs) (ht : P.underlying t = some (.slice e)) (hz : (P.info? e).map (fun i => (i.zero, i.size, i.bytes)) = some (some z, K.size, bytes)) (hzc : z.cells = ⟨zs⟩) (hsz : Nat.ble 1 K.size = true) (h1 : zs.all (·.oneCell') = true) (hzl : zs.length = K.size) (hsmall : Nat.ble (len * K.size) 16777216 = true) (hf : fillS (fun i => some (i * K.size, K.size)) ((List.range (len * K.size)).map fun i => Vl (zs.getD (i % K.size) undef)) qs = some (xs.flatMap K.enc)) (hxl : xs.length = len) (hd : dst = some d) (hn : Nat.ble (d + 1) n = true) : OX E P ⟨dst, .buildSlice t len ⟨ps⟩, ty, pos, af, g⟩ 0 (fun g : Gs => (St.mk n D ((d, Vl (Vs g)) :: L) (Rw K e (Vs g) xs :: H))) (St.mk n D L H) :=
  ox_rowlit (s := ⟨n, D, L, H⟩) hp ht hz hzc hsz h1 hzl hsmall hf hxl hd hn

theorem tx_nilrow' {K' : Act → World → Prop} {α : Type} (K : Kd α) (e : TypeId) (k : TX E K' (St.mk n D (L) (Rw K e (.slice none 0 0) [] :: H))) : TX E K' (St.mk n D L H) :=
  tx_nilrow (s := ⟨n, D, L, H⟩) K e k

theorem sr_sl' {tx e' : TypeId} {Y : Operand} {α : Type} {K : Kd α} {ys : List α} (hy : ev L Y = some (Sl K ys)) (hk : P.underlying tx = some (.slice e')) : Sr P (St.mk n D L H) tx Y K ys :=
  sr_sl (s := ⟨n, D, L, H⟩) hy hk

theorem sr_row' {tx e' e : TypeId} {Y : Operand} {α : Type} {K : Kd α} {ys : List α} {v : Value} {j : Nat} (hy : ev L Y = some (Vl v)) (hh : H[j]? = some (Rw K e v ys)) (hK : Nat.ble 1 K.size = true) (hk : P.underlying tx = some (.slice e')) : Sr P (St.mk n D L H) tx Y K ys :=
  sr_row (s := ⟨n, D, L, H⟩) hy hh hK hk

theorem ox_append' {d i : Nat} {t tx e : TypeId} {X Y : Operand} {α : Type} {K : Kd α} {xs ys zs : List α} {v : Value} {zv : Value} {bytes : Nat} (hx : ev L X = some (Vl v)) (hh : H[i]? = some (Rw K e v xs)) (hK : Nat.ble 1 K.size = true) (hy : Sr P (St.mk n D L H) tx Y K ys) (ha : apd bytes xs ys = some zs) (ht : P.underlying t = some (.slice e)) (hz : (P.info? e).map (fun i => (i.zero, i.size, i.bytes)) = some (some zv, K.size, bytes)) (hzs : zv.cells.size = K.size) (hd : dst = some d) (hn : Nat.ble (d + 1) n = true) {H' : List Res} (hH' : H.eraseIdx i = H') : OX E P ⟨dst, .call { callee := .builtin .append, args := #[X, Y], argTypes := #[t, tx] }, ty, pos, af, g⟩ 1 (fun g : Gs => (St.mk n D ((d, Vl (Vs g)) :: L) (Rw K e (Vs g) zs :: H'))) (St.mk n D L H) :=
  ox_append (s := ⟨n, D, L, H⟩) hx hh hK hy ha ht hz hzs hd hn hH'

theorem ox_make' {d : Nat} {t e : TypeId} {X Y : Operand} {k1 k2 : IntKind} {nn c : Int} {α : Type} {K : Kd α} {z : α} {xs : List α} {zv : Value} {zs : List Value} {bytes : Nat} (hx : ev L X = some (Vl (.int k1 nn))) (hy : ev L Y = some (Vl (.int k2 c))) (ha : mk bytes z nn c = some xs) (hK : Nat.ble 1 K.size = true) (ht : P.underlying t = some (.slice e)) (hz : (P.info? e).map (fun i => (i.zero, i.size, i.bytes)) = some (some zv, K.size, bytes)) (hzc : zv.cells = ⟨zs⟩) (h1 : zs.all (·.oneCell') = true) (hze : K.enc z = zs.map Vl) (hd : dst = some d) (hn : Nat.ble (d + 1) n = true) : OX E P ⟨dst, .makeSlice t X Y, ty, pos, af, g⟩ 0 (fun g : Gs => (St.mk n D ((d, Vl (Vs g)) :: L) (Rw K e (Vs g) xs :: H))) (St.mk n D L H) :=
  ox_make (s := ⟨n, D, L, H⟩) hx hy ha hK ht hz hzc h1 hze hd hn

theorem tx_pick' {K' : Act → World → Prop} {L' : List (Nat × SV)} {H' : List Res} (is : List Nat) (hL : Sub L' L) (hn : is.Nodup) (hp : PickAt H is H') (k : TX E K' (St.mk n D (L') (H'))) : TX E K' (St.mk n D L H) :=
  tx_pick (s := ⟨n, D, L, H⟩) is hL hn hp k

theorem cx_loopg' {c : Code} {X Y Gh : Type} {F : Nat → X → Option Y} {G : Nat → (X → Option Y) → X → Option Y} {k : Nat} {x : X} {gh : Gh} {y : Y} (J : X → Gh → St) (Z : Y → Exit → Act → World → Prop) (h0 : ∀ x, F 0 x = none) (hG : ∀ k x, F (k + 1) x = G k (F k) x) (body : ∀ k (R : X → Option Y) (K : Y → Act → World → Prop), (∀ x gh y, R x = some y → TX E (K y) (J x gh)) → ∀ x gh y, G k R x = some y → CX E P c (Exit.then (K y) (Z y)) (J x gh)) (hy : F k x = some y) (hs : TX E (fun a w => Sym E (J x gh) a w) (St.mk n D L H)) (hz : ∀ e a w, Z y e a w → Q e a w) : CX E P (.loop c) Q (St.mk n D L H) :=
  cx_loopg (s := ⟨n, D, L, H⟩) J Z h0 hG body hy hs hz

theorem tx_zend' {e0 : Exit} {Gh : Type} {S : Gh → St} (gh : Gh) {L' : List (Nat × SV)} {H' : List Res} (hS : S gh = (St.mk n D (L') (H'))) (is : List Nat) (hL : Sub L' L) (hn : is.Nodup) (hp : PickAt H is H') : TX E (Zg E e0 S e0) (St.mk n D L H) :=
  tx_zend (s := ⟨n, D, L, H⟩) gh hS is hL hn hp

theorem tx_to' {S : St} {L' : List (Nat × SV)} {H' : List Res} (hS : S = (St.mk n D (L') (H'))) (is : List Nat) (hL : Sub L' L) (hn : is.Nodup) (hp : PickAt H is H') : TX E (fun a w => Sym E S a w) (St.mk n D L H) :=
  tx_to (s := ⟨n, D, L, H⟩) hS is hL hn hp

theorem tx_leave' {fn : Func} {R : Ending → World → Prop} {e : Exit} (he : e = .ret ∨ e = .normal) {f : Nat} {us : List Value} {nn : Nat} {fn' : Func} (hD : D = [⟨.fn (.func f) ⟨us⟩, #[]⟩]) (hi : Idle P f nn) (hul : us.length = nn) (hf : P.funcs[f]? = some fn') (hn : (fn'.name == "runtime.NumGoroutine") = false) (hb : fn'.body.isNone = false) (h : TX E (bodyPost P fn R e) (St.mk n ([]) L H)) : TX E (bodyPostD P fn R e) (St.mk n D L H) :=
  tx_leave (s := ⟨n, D, L, H⟩) he hD hi hul hf hn hb h

theorem rd_mkfunc' {f : Nat} {Xs : List Operand} {us : List Value} (hc : evs L Xs = some (us.map Vl)) : Rd P (St.mk n D L H) ⟨dst, .makeFunc (.func f) #[] ⟨Xs⟩, ty, pos, af, g⟩ (Vl (.func (.func f) #[] ⟨us⟩)) :=
  rd_mkfunc (s := ⟨n, D, L, H⟩) hc

theorem ox_defer' {X : Operand} {ts : Array TypeId} {f : Nat} {us : List Value} (hx : ev L X = some (Vl (.func (.func f) #[] ⟨us⟩))) (hd : dst = none) : OX E P ⟨dst, .defer { callee := .value X, args := #[], argTypes := ts }, ty, pos, af, g⟩ 0 (fun _ : Unit => (St.mk n (⟨.fn (.func f) ⟨us⟩, #[]⟩ :: D) L H)) (St.mk n D L H) :=
  ox_defer (s := ⟨n, D, L, H⟩) hx hd

theorem rd_fcmp' {op : BinOp} {tx t2 : TypeId} {X Y : Operand} {x y : Nat} {b : Bool} (hx : FlIn L X x) (hy : FlIn L Y y) (hb : (match op with | .eql => some (feq x y) | .neq => some (fne x y) | .lss => some (flt x y) | .leq => some (fle x y) | .gtr => some (fgt x y) | .geq => some (fge x y) | _ => none) = some b) : Rd P (St.mk n D L H) ⟨dst, .binOp op tx X Y t2, ty, pos, af, g⟩ (Vl (.bool b)) :=
  rd_fcmp (s := ⟨n, D, L, H⟩) hx hy hb

theorem tx_slot' {K' : Act → World → Prop} (t : Nat) {x y : SV} (ht : look L t = some x) (hi : Imp x y) (k : TX E K' (St.mk n D ((t, y) :: L) (H))) : TX E K' (St.mk n D L H) :=
  tx_slot (s := ⟨n, D, L, H⟩) t ht hi k

theorem tx_cell' {K' : Act → World → Prop} (i o : Nat) {x y : SV} {r : Res} (hi : H[i]? = some r) (ho : r.cs[o]? = some x) (hxy : Imp x y) {H' : List Res} (hH : H.set i { r with cs := r.cs.set o y } = H') (k : TX E K' (St.mk n D (L) (H'))) : TX E K' (St.mk n D L H) :=
  tx_cell (s := ⟨n, D, L, H⟩) i o hi ho hxy hH k

theorem ox_extf' {d f : Nat} {fn : Func} {Xs : List Operand} {ts : Array TypeId} {x r : Nat} {X : Operand} (hX : Xs = [X]) (hx : FlIn L X x) (hf : P.funcs[f]? = some fn) (hr : ∀ y, (y = x ∨ (isn x = true ∧ isn y = true)) → RunsF P (callFunc f #[.float .f64 y]) (Fl r)) (hd : dst = some d) (hn : Nat.ble (d + 1) n = true) : OX E P ⟨dst, .call { callee := .value (.func f), args := ⟨Xs⟩, argTypes := ts }, ty, pos, af, g⟩ 0 (fun _ : Unit => (St.mk n D ((d, Fl r) :: L) (H))) (St.mk n D L H) :=
  ox_extf (s := ⟨n, D, L, H⟩) hX hx hf hr hd hn

theorem rd_nilck' {X : Operand} {q : Addr} (hx : ev L X = some (Vl (.pointer (some q)))) : Rd P (St.mk n D L H) ⟨dst, .nilCheck X, ty, pos, af, g⟩ (Vl (.pointer (some q))) :=
  rd_nilck (s := ⟨n, D, L, H⟩) hx

theorem rd_nilck_pt' {X : Operand} {l : List SV} (hx : ev L X = some (Pt l)) : Rd P (St.mk n D L H) ⟨dst, .nilCheck X, ty, pos, af, g⟩ (Pt l) :=
  rd_nilck_pt (s := ⟨n, D, L, H⟩) hx

theorem rd_binf' {op : BinOp} {tx t2 : TypeId} {X Y : Operand} {x y : SV} {v : Value} (hx : ev L X = some x) (hy : ev L Y = some y) (h : ∀ w U a b, x.R w U a → y.R w U b → Runs P (eqGuard op tx X Y a b) () ∧ Runs P (binOp op tx a b) v) : Rd P (St.mk n D L H) ⟨dst, .binOp op tx X Y t2, ty, pos, af, g⟩ (Vl v) :=
  rd_binf (s := ⟨n, D, L, H⟩) hx hy h

theorem rd_field0' {t : TypeId} {X : Operand} {q : Addr} {f : Nat} {fs : Array Field} {fd : Field} (hx : ev L X = some (Vl (.pointer (some q)))) (ht : P.underlying t = some (.struct fs)) (hf : fs[f]? = some fd) {z : Option Value} {m bytes : Nat} (hz : (P.info? fd.type).map (fun i => (i.zero, i.size, i.bytes)) = some (z, m + 1, bytes)) (hoff : fd.offset = 0) : Rd P (St.mk n D L H) ⟨dst, .fieldAddr t X f, ty, pos, af, g⟩ (Vl (.pointer (some q))) :=
  rd_field0 (s := ⟨n, D, L, H⟩) hx ht hf hz hoff

theorem rd_assert' {X : Operand} {t tx ta : TypeId} {ok : Bool} {x y : SV} {F : Value → Value} (hx : ev L X = some (If t x)) (hF : ∀ v w, (Instr.typeAssert (.iface t v) tx ta ok).run P w = .ok (F v) w) (hy : ∀ w U v, x.R w U v → y.R w U (F v)) : Rd P (St.mk n D L H) ⟨dst, .typeAssert X tx ta ok, ty, pos, af, g⟩ y :=
  rd_assert (s := ⟨n, D, L, H⟩) hx hF hy

theorem ent_fn' {f : Nat} {fn : Func} {Xs : List Operand} {ts : Array TypeId} {A : List SV} (hf : P.funcs[f]? = some fn) (hn : (fn.name == "runtime.NumGoroutine") = false) (hb : fn.body.isNone = false) (ha : evs L Xs = some A) : Ent P (St.mk n D L H) { callee := .value (.func f), args := ⟨Xs⟩, argTypes := ts } f A :=
  ent_fn (s := ⟨n, D, L, H⟩) hf hn hb ha

theorem ent_inv' {f : Nat} {R : Operand} {name : String} {Xs : List Operand} {ts : Array TypeId} {t : TypeId} {x y : SV} {A : List SV} (hr : ev L R = some (If t x)) (ha : evs L Xs = some A) (hm : Inv P t name Xs.length f x y) : Ent P (St.mk n D L H) { callee := .invoke R name, args := ⟨Xs⟩, argTypes := ts } f (y :: A) :=
  ent_inv (s := ⟨n, D, L, H⟩) hr ha hm

theorem ent_clo' {f : Nat} {fn : Func} {C : Operand} {us : List Value} {Xs : List Operand} {ts : Array TypeId} {A : List SV} (hx : ev L C = some (Vl (.func (.func f) #[] ⟨us⟩))) (hf : P.funcs[f]? = some fn) (hn : (fn.name == "runtime.NumGoroutine") = false) (hb : fn.body.isNone = false) (ha : evs L Xs = some A) : Ent P (St.mk n D L H) { callee := .value C, args := ⟨Xs⟩, argTypes := ts } f (A ++ us.map Vl) :=
  ent_clo (s := ⟨n, D, L, H⟩) hx hf hn hb ha

theorem ox_callg' {c : Call} {f d : Nat} {A : List SV} {HA H' : List Res} {X : Type} {r : X → SV} {HR : X → List Res} (he : Ent P (St.mk n D L H) c f A) (hc : Fn P f A HA r HR) (is js : List Nat) (hn : (is ++ js).Nodup) (hA : PickAt H is HA) (hJ : PickAt H js H') {Hn : X → List Res} (hHn : ∀ x, HR x ++ H' = Hn x) (hd : dst = some d) (hdn : Nat.ble (d + 1) n = true) : OX E P ⟨dst, .call c, ty, pos, af, g⟩ 2 (fun x : X => (St.mk n D ((d, r x) :: L) (Hn x))) (St.mk n D L H) :=
  ox_callg (s := ⟨n, D, L, H⟩) he hc is js hn hA hJ hHn hd hdn

theorem ox_calln' {c : Call} {f d : Nat} {A : List SV} {X : Type} {r : X → SV} {HR : X → List Res} (he : Ent P (St.mk n D L H) c f A) (hc : Fn P f A [] r HR) {Hn : X → List Res} (hHn : ∀ x, HR x ++ H = Hn x) (hd : dst = some d) (hdn : Nat.ble (d + 1) n = true) : OX E P ⟨dst, .call c, ty, pos, af, g⟩ 0 (fun x : X => (St.mk n D ((d, r x) :: L) (Hn x))) (St.mk n D L H) :=
  ox_calln (s := ⟨n, D, L, H⟩) he hc hHn hd hdn

theorem tx_fz' {K' : Act → World → Prop} {s' : St} (h : FrzTo (St.mk n D L H) s') (k : TX E K' s') : TX E K' (St.mk n D L H) :=
  tx_fz (s := ⟨n, D, L, H⟩) h k

theorem ox_brw' {c : Call} {f d : Nat} {A : List SV} {s' : St} {r : SV} (hfz : FrzTo (St.mk n D L H) s') (he : Ent P s' c f A) (hc : Fn P f A [] (fun _ : Unit => r) (fun _ => [])) (hp : Pu r) (hd : dst = some d) (hdn : Nat.ble (d + 1) n = true) : OX E P ⟨dst, .call c, ty, pos, af, g⟩ 0 (fun _ : Unit => (St.mk n D ((d, r) :: L) (H))) (St.mk n D L H) :=
  ox_brw (s := ⟨n, D, L, H⟩) hfz he hc hp hd hdn

theorem cx_plana' {id : Nat} {l : List Oper} (Bs : List Nat) (late plan : List (Nat × Nat)) (f : Nat) (last : Array Bool) (hm : P.follows .mixedOrders = true) (hB : planToOk l.toArray late plan f last = true) (h : PX E P l.toArray (Exit.then (wpAnyX P l.toArray Q Bs (levOf late) f last) Q) Bs late plan (St.mk n D L H)) : CX E P (.region id l.toArray true) Q (St.mk n D L H) :=
  cx_plana (s := ⟨n, D, L, H⟩) Bs late plan f last hm hB h

theorem nx_ox' {f : Nat} {listed last : Array Bool} {l : Nat} {X : Type} {S : X → St} (hi : ops[ix]? = some o) (h : OX E P o l S (St.mk n D L H)) (hl : Nat.ble l (levOf late ix) = true) (hB : BsIn H Bs) (hw : Wt ops (St.mk n D L H) o true) (hlast : listed.setIfInBounds ix true = last) (k : ∀ x, AX E P ops Q Bs late f last (S x)) : NX E P ops Q Bs late f listed ix (St.mk n D L H) :=
  nx_ox (s := ⟨n, D, L, H⟩) hi h hl hB hw hlast k

theorem px_oxv' {i : Nat} {X : Type} {S : X → St} {r : Res} (hi : ops[ix]? = some o) (h : OXV E P o i S (St.mk n D L H)) (hr : H[i]? = some r) (hl : Nat.ble 1 (levOf late ix) = true) (hB : BsOut H i Bs) (hw : Wt ops (St.mk n D L H) o true) (k : ∀ x, PX E P ops Q Bs late pl (S x)) : PX E P ops Q Bs late ((ix, 0) :: pl) (St.mk n D L H) :=
  px_oxv (s := ⟨n, D, L, H⟩) hi h hr hl hB hw k

theorem px_oxb' {is : List Nat} {HA : List Res} {X : Type} {S : X → St} (hi : ops[ix]? = some o) (h : OXB E P o HA S (St.mk n D L H)) (hA : PickAt H is HA) (hl : Nat.ble 1 (levOf late ix) = true) (hB : BsOutL H is Bs) (hw : Wt ops (St.mk n D L H) o true) (k : ∀ x, PX E P ops Q Bs late pl (S x)) : PX E P ops Q Bs late ((ix, 0) :: pl) (St.mk n D L H) :=
  px_oxb (s := ⟨n, D, L, H⟩) hi h hA hl hB hw k

theorem rb_fmax' {X Y : Operand} {x y r : Nat} {ts : Array TypeId} (hx : ev L X = some (Vl (.float .f64 x))) (hy : ev L Y = some (Vl (.float .f64 y))) (h : fmax x y = some r) : Rb P Bs (St.mk n D L H) ⟨dst, .call { callee := .builtin .max, args := #[X, Y], argTypes := ts }, ty, pos, af, g⟩ (Vl (.float .f64 r)) :=
  rb_fmax (s := ⟨n, D, L, H⟩) hx hy h

theorem rd_mkmeth' {name : String} {X : Operand} {x : SV} (hx : ev L X = some x) : Rd P (St.mk n D L H) ⟨dst, .makeFunc (.method name) #[X] #[], ty, pos, af, g⟩ (Mf name x) :=
  rd_mkmeth (s := ⟨n, D, L, H⟩) hx

theorem rd_nilck_mf' {name : String} {X : Operand} {t : TypeId} {x : SV} (hx : ev L X = some (Mf name (If t x))) (h : ∀ w U v, x.R w U v → ∀ w', (nilAhead (P.types.size + Made.depth) t v name).run P w' = .ok (some false) w') : Rd P (St.mk n D L H) ⟨dst, .nilCheck X, ty, pos, af, g⟩ (Mf name (If t x)) :=
  rd_nilck_mf (s := ⟨n, D, L, H⟩) hx h

theorem tx_perm' {E : Env} {K : Act → World → Prop} {H' : List Res} (hp : H.Perm H') (k : TX E K (St.mk n D (L) (H'))) : TX E K (St.mk n D L H) :=
  tx_perm (s := ⟨n, D, L, H⟩) hp k

theorem tx_drop' {E : Env} {K : Act → World → Prop} {C H' : List Res} (hp : H.Perm (C ++ H')) (k : TX E K (St.mk n D (L) (H'))) : TX E K (St.mk n D L H) :=
  tx_drop (s := ⟨n, D, L, H⟩) hp k

theorem frz_chunk' {C H' : List Res} (hp : H.Perm (C ++ H')) (ts : List (Nat × SV × SV)) (hts : ∀ p ∈ ts, look L p.1 = some p.2.1 ∧ ∀ (w : World) (U' : Nat → Prop) (v : Value), (∀ q ∈ C, q.own w U') → (∀ q ∈ C, ∀ b ∈ q.blk, U' b) → p.2.1.R w U' v → p.2.2.R w U' v) : FrzTo (St.mk n D L H) (St.mk n D (tsL L ts) (H')) :=
  frz_chunk (s := ⟨n, D, L, H⟩) hp ts hts

end Go.Sx
