/-
  Steps of a walk over the symbolic state: addresses that are not nil, comparisons with nil, interfaces, calls that take memory of one's own. Ours; it knows no program.
-/
import Derived.Test.YtmagcmeknclljaaSxO
namespace Go.Sx
set_option linter.unusedVariables false
set_option linter.unusedSectionVars false
set_option linter.unusedSimpArgs false
variable [Gv]

section
variable {E : Env} {P : Program} {s : St} {dst : Option Tmp} {ty : TypeId} {pos : String} {af : Array Edge} {g : Option (Nat × Bool)}

/-! #### kinds of data that have themselves in them -/
theorem le_foldl_max : ∀ (l : List Nat) (b x : Nat), x ∈ l → x ≤ l.foldl Nat.max b := by
  have mono : ∀ (l : List Nat) (b : Nat), b ≤ l.foldl Nat.max b := by
    intro l
    induction l with
    | nil => intro b; exact Nat.le_refl _
    | cons a l ih => intro b; exact Nat.le_trans (Nat.le_max_left b a) (ih _)
  intro l
  induction l with
  | nil => intro b x h; cases h
  | cons a l ih =>
    intro b x h
    rcases List.mem_cons.1 h with e | e
    · subst e; exact Nat.le_trans (Nat.le_max_right b x) (mono l _)
    · exact ih _ x e
theorem sl_congr {α : Type} {K K' : Kd α} {xs : List α} (hs : K.size = K'.size) (h : ∀ x ∈ xs, K.enc x = K'.enc x) : Sl K xs = Sl K' xs := by
  have : (Sl K xs).R = (Sl K' xs).R := by
    funext w U v
    apply propext
    constructor
    · rintro ⟨a, c, e, hc, hx⟩
      refine ⟨a, c, e, hc, fun hn => ?_⟩
      obtain ⟨b, off, e1, hb, hcell⟩ := hx hn
      exact ⟨b, off, e1, hb, fun i x hi => by rw [← hs, ← h x (List.mem_of_getElem? hi)]; exact hcell i x hi⟩
    · rintro ⟨a, c, e, hc, hx⟩
      refine ⟨a, c, e, hc, fun hn => ?_⟩
      obtain ⟨b, off, e1, hb, hcell⟩ := hx hn
      exact ⟨b, off, e1, hb, fun i x hi => by rw [hs, h x (List.mem_of_getElem? hi)]; exact hcell i x hi⟩
  cases hS : Sl K xs with
  | mk R m => cases hS' : Sl K' xs with
    | mk R' m' => rw [hS, hS'] at this; simp only at this; subst this; rfl
theorem rd_eq {o : Oper} {x y : SV} (h : x = y) (hr : Rd P s o x) : Rd P s o y := h ▸ hr

/-! #### nil -/
theorem rd_nilck {X : Operand} {q : Addr} (hx : ev s.L X = some (Vl (.pointer (some q)))) : Rd P s ⟨dst, .nilCheck X, ty, pos, af, g⟩ (Vl (.pointer (some q))) := fun E a w U hs => by
  have e : a.eval X = .pointer (some q) := look_ev hs hx
  exact ⟨_, rfl, fun w' _ => by simp [execOp, e]⟩
theorem rd_nilck_pt {X : Operand} {l : List SV} (hx : ev s.L X = some (Pt l)) : Rd P s ⟨dst, .nilCheck X, ty, pos, af, g⟩ (Pt l) := fun E a w U hs => by
  have h := look_ev hs hx
  obtain ⟨b, off, e, h1, h2⟩ := h
  exact ⟨_, ⟨b, off, rfl, h1, h2⟩, fun w' _ => by simp [execOp, e]⟩
/-- an operator on operands of which something is known -/
theorem rd_binf {op : BinOp} {tx t2 : TypeId} {X Y : Operand} {x y : SV} {v : Value} (hx : ev s.L X = some x) (hy : ev s.L Y = some y)
    (h : ∀ w U a b, x.R w U a → y.R w U b → Runs P (eqGuard op tx X Y a b) () ∧ Runs P (binOp op tx a b) v) : Rd P s ⟨dst, .binOp op tx X Y t2, ty, pos, af, g⟩ (Vl v) := fun E a w U hs => by
  obtain ⟨h1, h2⟩ := h w U _ _ (look_ev hs hx) (look_ev hs hy)
  exact ⟨v, rfl, fun w' _ => by simp [execOp, h1 w', h2 w']⟩
theorem bf_vl {op : BinOp} {tx : TypeId} {X Y : Operand} {x y v : Value} (h1 : ∀ w, (eqGuard op tx X Y x y).run P w = .ok () w) (h2 : ∀ w, (binOp op tx x y).run P w = .ok v w) :
    ∀ w U a b, (Vl x).R w U a → (Vl y).R w U b → Runs P (eqGuard op tx X Y a b) () ∧ Runs P (binOp op tx a b) v := fun w U a b ha hb => by
  rw [show a = x from ha, show b = y from hb]; exact ⟨h1, h2⟩
theorem bf_pt {op : BinOp} {tx : TypeId} {X Y : Operand} {l : List SV} {y v : Value} (h1 : ∀ q w, (eqGuard op tx X Y (.pointer (some q)) y).run P w = .ok () w) (h2 : ∀ q w, (binOp op tx (.pointer (some q)) y).run P w = .ok v w) :
    ∀ w U a b, (Pt l).R w U a → (Vl y).R w U b → Runs P (eqGuard op tx X Y a b) () ∧ Runs P (binOp op tx a b) v := fun w U a b ⟨_, _, ha, _⟩ hb => by
  rw [ha, show b = y from hb]; exact ⟨h1 _, h2 _⟩
theorem bf_if {op : BinOp} {tx t : TypeId} {X Y : Operand} {x : SV} {y v : Value} (h1 : ∀ u w, (eqGuard op tx X Y (.iface t u) y).run P w = .ok () w) (h2 : ∀ u w, (binOp op tx (.iface t u) y).run P w = .ok v w) :
    ∀ w U a b, (If t x).R w U a → (Vl y).R w U b → Runs P (eqGuard op tx X Y a b) () ∧ Runs P (binOp op tx a b) v := fun w U a b ⟨_, ha, _⟩ hb => by
  rw [ha, show b = y from hb]; exact ⟨h1 _, h2 _⟩
/-- a list with something in it: its slice is not nil -/
def some1 {α : Type} (xs : List α) : Option Unit := match xs with | [] => none | _ :: _ => some ()
theorem some1_ne {α : Type} {xs : List α} {u : Unit} (h : some1 xs = some u) : xs ≠ [] := by rintro rfl; cases h
theorem bf_sl {op : BinOp} {tx : TypeId} {X Y : Operand} {α : Type} {K : Kd α} {xs : List α} {u : Unit} (hn : some1 xs = some u) {y v : Value} (h1 : ∀ q n c w, (eqGuard op tx X Y (.slice (some q) n c) y).run P w = .ok () w) (h2 : ∀ q n c w, (binOp op tx (.slice (some q) n c) y).run P w = .ok v w) :
    ∀ w U a b, (Sl K xs).R w U a → (Vl y).R w U b → Runs P (eqGuard op tx X Y a b) () ∧ Runs P (binOp op tx a b) v := fun w U a b ⟨q, c, ha, _, hb'⟩ hb => by
  obtain ⟨_, _, rfl, _⟩ := hb' (some1_ne hn)
  rw [ha, show b = y from hb]; exact ⟨h1 _ _ _, h2 _ _ _⟩

/-- the address of a first part, and of a part of a part -/
theorem add_zero (q : Addr) : q.add 0 = q := rfl
theorem rd_field0 {t : TypeId} {X : Operand} {q : Addr} {f : Nat} {fs : Array Field} {fd : Field} (hx : ev s.L X = some (Vl (.pointer (some q)))) (ht : P.underlying t = some (.struct fs)) (hf : fs[f]? = some fd)
    {z : Option Value} {m bytes : Nat} (hz : (P.info? fd.type).map (fun i => (i.zero, i.size, i.bytes)) = some (z, m + 1, bytes)) (hoff : fd.offset = 0) :
    Rd P s ⟨dst, .fieldAddr t X f, ty, pos, af, g⟩ (Vl (.pointer (some q))) := rd_field hx ht hf hz hoff
theorem rd_fieldn {t : TypeId} {X : Operand} {q : Addr} {j : Nat} {f : Nat} {fs : Array Field} {fd : Field} (hx : ev s.L X = some (Vl (.pointer (some (q.add j))))) (ht : P.underlying t = some (.struct fs)) (hf : fs[f]? = some fd)
    {z : Option Value} {m bytes : Nat} (hz : (P.info? fd.type).map (fun i => (i.zero, i.size, i.bytes)) = some (z, m + 1, bytes)) {off : Nat} (hoff : fd.offset = off) {i : Nat} (hi : j + off = i) :
    Rd P s ⟨dst, .fieldAddr t X f, ty, pos, af, g⟩ (Vl (.pointer (some (q.add i)))) := by
  have h := rd_field (dst := dst) (ty := ty) (pos := pos) (af := af) (g := g) hx ht hf hz hoff
  rw [addr_add_add, hi] at h; exact h
theorem rb_field0 {Bs : List Nat} {t : TypeId} {X : Operand} {q : Addr} {f : Nat} {fs : Array Field} {fd : Field} (hx : ev s.L X = some (Vl (.pointer (some q)))) (ht : P.underlying t = some (.struct fs)) (hf : fs[f]? = some fd)
    {z : Option Value} {m bytes : Nat} (hz : (P.info? fd.type).map (fun i => (i.zero, i.size, i.bytes)) = some (z, m + 1, bytes)) (hoff : fd.offset = 0) :
    Rb P Bs s ⟨dst, .fieldAddr t X f, ty, pos, af, g⟩ (Vl (.pointer (some q))) := rb_field hx ht hf hz hoff
theorem rb_fieldn {Bs : List Nat} {t : TypeId} {X : Operand} {q : Addr} {j : Nat} {f : Nat} {fs : Array Field} {fd : Field} (hx : ev s.L X = some (Vl (.pointer (some (q.add j))))) (ht : P.underlying t = some (.struct fs)) (hf : fs[f]? = some fd)
    {z : Option Value} {m bytes : Nat} (hz : (P.info? fd.type).map (fun i => (i.zero, i.size, i.bytes)) = some (z, m + 1, bytes)) {off : Nat} (hoff : fd.offset = off) {i : Nat} (hi : j + off = i) :
    Rb P Bs s ⟨dst, .fieldAddr t X f, ty, pos, af, g⟩ (Vl (.pointer (some (q.add i)))) := by
  have h := rb_field (Bs := Bs) (dst := dst) (ty := ty) (pos := pos) (af := af) (g := g) hx ht hf hz hoff
  rw [addr_add_add, hi] at h; exact h

/-! #### arrays -/
theorem rd_ixa {p p' : Addr} {X I : Operand} {k : IntKind} {i : Int} {t e : TypeId} {len : Nat} {z : Option Value} {size bytes : Nat} (hx : ev s.L X = some (Vl (.pointer (some p)))) (hi : ev s.L I = some (Vl (.int k i)))
    (h0 : 0 ≤ i) (h1 : i < len) (ht : P.underlying t = some (.array len e)) (he : (P.info? e).map (fun i => (i.zero, i.size, i.bytes)) = some (z, size, bytes)) (hp : p.add (i.toNat * size) = p') :
    Rd P s ⟨dst, .indexAddr t X I, ty, pos, af, g⟩ (Vl (.pointer (some p'))) := fun E a w U hs => by
  have e1 : a.eval X = .pointer (some p) := look_ev hs hx
  have e2 : a.eval I = .int k i := look_ev hs hi
  refine ⟨_, rfl, fun w' _ => ?_⟩
  cases hinfo : P.info? e with
  | none => rw [hinfo] at he; simp at he
  | some inf =>
    rw [hinfo] at he; simp at he
    subst hp
    simp [execOp, Instr.indexAt, Instr.sureAddr, asIntOf, e1, e2, run_underlying ht, h0, h1, sizeOf, typeInfo, hinfo, he.2.1]
theorem rb_ixa {Bs : List Nat} {p p' : Addr} {X I : Operand} {k : IntKind} {i : Int} {t e : TypeId} {len : Nat} {z : Option Value} {size bytes : Nat} (hx : ev s.L X = some (Vl (.pointer (some p)))) (hi : ev s.L I = some (Vl (.int k i)))
    (h0 : 0 ≤ i) (h1 : i < len) (ht : P.underlying t = some (.array len e)) (he : (P.info? e).map (fun i => (i.zero, i.size, i.bytes)) = some (z, size, bytes)) (hp : p.add (i.toNat * size) = p') :
    Rb P Bs s ⟨dst, .indexAddr t X I, ty, pos, af, g⟩ (Vl (.pointer (some p'))) := fun E a w U hs => by
  have e1 : a.eval X = .pointer (some p) := look_ev hs hx
  have e2 : a.eval I = .int k i := look_ev hs hi
  refine ⟨_, rfl, fun w' _ => ?_⟩
  cases hinfo : P.info? e with
  | none => rw [hinfo] at he; simp at he
  | some inf =>
    rw [hinfo] at he; simp at he
    subst hp
    simp [execOp, Instr.indexAt, Instr.sureAddr, asIntOf, e1, e2, run_underlying ht, h0, h1, sizeOf, typeInfo, hinfo, he.2.1]
theorem rd_builda {t e : TypeId} {len : Nat} {ps : List (Nat × Operand)} {zs : List Value} {z : Value} {size bytes es eb : Nat} {ez : Option Value} {qs : List (Nat × List SV)} {r : List SV} (hp : PartsEv s.L ps qs)
    (ht : P.underlying t = some (.array len e)) (he : (P.info? e).map (fun i => (i.zero, i.size, i.bytes)) = some (ez, es, eb)) (hz : (P.info? t).map (fun i => (i.zero, i.size, i.bytes)) = some (some z, size, bytes)) (hzc : z.cells = ⟨zs⟩)
    (h1 : zs.all (·.oneCell') = true) (hf : fillS (fun i : Nat => some (i * es, es)) (zs.map Vl) qs = some r) : Rd P s ⟨dst, .build t ⟨ps⟩, ty, pos, af, g⟩ (Ag r) := fun E a w U hs => by
  obtain ⟨out, ho, hR⟩ := fill_of (partsEv_at hs hp) (all2_vl h1) hf
  refine ⟨.agg ⟨out⟩, ⟨out, rfl, hR⟩, fun w' hw' => ?_⟩
  cases hinfo : P.info? t with
  | none => rw [hinfo] at hz; simp at hz
  | some inf =>
    rw [hinfo] at hz; simp at hz
    cases hinfo2 : P.info? e with
    | none => rw [hinfo2] at he; simp at he
    | some inf2 =>
      rw [hinfo2] at he; simp at he
      have e' : (Instr.build t ((⟨ps⟩ : Array (Nat × Operand)).map fun (i, x) => (i, a.eval x))).run P w' = .ok (.agg ⟨out⟩) w' := by
        simp only [Instr.build, zeroValue, sizeOf, typeInfo, Sem.run_bind, run_program, Result.andThen_ok, hinfo, hinfo2, Sem.run_pure, hz.1, run_underlying ht, hzc, he.2.1]
        simp only [List.map_toArray]
        have ho' : Instr.fill (fun i : Nat => some (i * es, es)) ⟨zs⟩ (ps.map fun x => match x with | (i, x) => (i, a.eval x)) = some ⟨out⟩ := ho
        rw [ho']
        rfl
      simp only [execOp, Sem.run_bind]
      rw [e']; rfl

/-! #### interfaces -/
theorem rd_assert {X : Operand} {t tx ta : TypeId} {ok : Bool} {x y : SV} {F : Value → Value} (hx : ev s.L X = some (If t x)) (hF : ∀ v w, (Instr.typeAssert (.iface t v) tx ta ok).run P w = .ok (F v) w)
    (hy : ∀ w U v, x.R w U v → y.R w U (F v)) : Rd P s ⟨dst, .typeAssert X tx ta ok, ty, pos, af, g⟩ y := fun E a w U hs => by
  obtain ⟨u, e, h⟩ := look_ev hs hx
  exact ⟨_, hy _ _ _ h, fun w' _ => by simp [execOp, e, hF u w']⟩
theorem as_id {x : SV} : ∀ w U v, x.R w U v → x.R w U v := fun _ _ _ h => h
theorem as_if {t : TypeId} {x : SV} : ∀ w U v, x.R w U v → (If t x).R w U (.iface t v) := fun _ _ v h => ⟨v, rfl, h⟩
theorem as_ok {x : SV} : ∀ w U v, x.R w U v → (Tu [x, Vl (.bool true)]).R w U (.tuple #[v, .bool true]) := fun _ _ v h => ⟨[v, .bool true], rfl, h, rfl, trivial⟩
theorem as_ifok {t : TypeId} {x : SV} : ∀ w U v, x.R w U v → (Tu [If t x, Vl (.bool true)]).R w U (.tuple #[.iface t v, .bool true]) := fun _ _ v h => ⟨[.iface t v, .bool true], rfl, ⟨v, rfl, h⟩, rfl, trivial⟩
theorem as_no {x : SV} {z : Value} : ∀ w U v, x.R w U v → (Tu [Vl z, Vl (.bool false)]).R w U (.tuple #[z, .bool false]) := fun _ _ v h => ⟨[z, .bool false], rfl, rfl, rfl, trivial⟩
theorem rd_assert_nil {X : Operand} {tx ta : TypeId} {z : Value} (hx : ev s.L X = some (Vl .nilIface)) (hF : ∀ w, (Instr.typeAssert .nilIface tx ta true).run P w = .ok (.tuple #[z, .bool false]) w) :
    Rd P s ⟨dst, .typeAssert X tx ta true, ty, pos, af, g⟩ (Tu [Vl z, Vl (.bool false)]) := fun E a w U hs => by
  have e : a.eval X = .nilIface := look_ev hs hx
  exact ⟨_, ⟨[z, .bool false], rfl, rfl, rfl, trivial⟩, fun w' _ => by simp [execOp, e, hF w']⟩

/-! #### calls with memory of one's own -/
theorem pick_app {H : List Res} : ∀ {is js : List Nat} {A B : List Res}, PickAt H is A → PickAt H js B → PickAt H (is ++ js) (A ++ B)
  | [], _, [], _, _, h => h
  | _ :: _, _, _ :: _, _, ⟨h, h'⟩, k => ⟨h, pick_app h' k⟩
  | [], _, _ :: _, _, h, _ => h.elim
  | _ :: _, _, [], _, h, _ => h.elim
theorem sub_refl (L : List (Nat × SV)) (h : ∀ p ∈ L, look L p.1 = some p.2) : Sub L L := by
  have key : ∀ l : List (Nat × SV), (∀ p ∈ l, look L p.1 = some p.2) → Sub l L := by
    intro l
    induction l with
    | nil => intro _; trivial
    | cons p l ih => intro h; exact ⟨h p (by simp), ih fun q hq => h q (List.mem_cons_of_mem _ hq)⟩
  exact key L h
theorem SymAt.pickH {a : Act} {w : World} {U : Nat → Prop} (h : SymAt E s a w U) {H' : List Res} (is : List Nat) (hn : is.Nodup) (hp : PickAt s.H is H') : SymAt E { s with H := H' } a w U :=
  have h' := h.pick (L' := []) is trivial hn hp
  { size := h'.size, defers := h'.defers, slot := h.slot, own := h'.own, nodup := h'.nodup, apart := h'.apart, base := h'.base, lt := h'.lt, from0 := h'.from0, to0 := h'.to0, ext := h'.ext, glob := h'.glob }

/-- how a call finds its function: by its number, or by the method of an interface value -/
def Ent (P : Program) (s : St) (c : Call) (f : Nat) (A : List SV) : Prop :=
  ∀ E a w U, SymAt E s a w U → ∃ vs : List Value, All2 (fun x v => x.R w U v) A vs ∧ ∀ dst ty pos af g, ∀ w' : World, (execOp a.eval ⟨dst, .call c, ty, pos, af, g⟩).run P w' = .ok (.enter f vs.toArray) w'
theorem ent_fn {f : Nat} {fn : Func} {Xs : List Operand} {ts : Array TypeId} {A : List SV} (hf : P.funcs[f]? = some fn)
    (hn : (fn.name == "runtime.NumGoroutine") = false) (hb : fn.body.isNone = false) (ha : evs s.L Xs = some A) : Ent P s { callee := .value (.func f), args := ⟨Xs⟩, argTypes := ts } f A := fun E a w U hs =>
  ⟨_, evs_all2 hs ha, fun dst ty pos af g w' => exec_call rfl hf hn hb w'⟩
/-- a method of an interface value: the function that it is, and the receiver -/
def Inv (P : Program) (t : TypeId) (name : String) (n f : Nat) (x y : SV) : Prop :=
  ∀ w U v, x.R w U v → ∃ v', y.R w U v' ∧ ∀ l : List Value, l.length = n → ∀ w', (callMethod (.iface t v) name l.toArray).run P w' = .ok (.enter f (v' :: l).toArray) w'
theorem ent_inv {f : Nat} {R : Operand} {name : String} {Xs : List Operand} {ts : Array TypeId} {t : TypeId} {x y : SV} {A : List SV} (hr : ev s.L R = some (If t x)) (ha : evs s.L Xs = some A)
    (hm : Inv P t name Xs.length f x y) : Ent P s { callee := .invoke R name, args := ⟨Xs⟩, argTypes := ts } f (y :: A) := fun E a w U hs => by
  obtain ⟨u, e, h⟩ := look_ev hs hr
  obtain ⟨v', hv, hrun⟩ := hm w U u h
  refine ⟨v' :: Xs.map a.eval, ⟨hv, evs_all2 hs ha⟩, fun dst ty pos af g w' => ?_⟩
  have := hrun (Xs.map a.eval) (by simp) w'
  have ht : List.take Xs.length (List.map a.eval Xs) = List.map a.eval Xs := List.take_of_length_le (by simp)
  simpa [execOp, resolve, invoke, e, ht] using this
theorem inv_any0 {t : TypeId} {name : String} {f : Nat} {x : SV} (h : ∀ v w', (callMethod (.iface t v) name #[]).run P w' = .ok (.enter f #[v]) w') : Inv P t name 0 f x x := fun w U v hv =>
  ⟨v, hv, fun l hl w' => by obtain rfl : l = [] := List.length_eq_zero_iff.1 hl; exact h v w'⟩
theorem inv_any1 {t : TypeId} {name : String} {f : Nat} {x : SV} (h : ∀ v a w', (callMethod (.iface t v) name #[a]).run P w' = .ok (.enter f #[v, a]) w') : Inv P t name 1 f x x := fun w U v hv =>
  ⟨v, hv, fun l hl w' => by obtain ⟨a, rfl⟩ := List.length_eq_one_iff.1 hl; exact h v a w'⟩
theorem inv_any2 {t : TypeId} {name : String} {f : Nat} {x : SV} (h : ∀ v a b w', (callMethod (.iface t v) name #[a, b]).run P w' = .ok (.enter f #[v, a, b]) w') : Inv P t name 2 f x x := fun w U v hv =>
  ⟨v, hv, fun l hl w' => by
    obtain _ | ⟨a, _ | ⟨b, _ | ⟨c, l⟩⟩⟩ := l <;> simp at hl
    exact h v a b w'⟩
theorem inv_ptr0 {t : TypeId} {name : String} {f : Nat} {q q' : Addr} (h : ∀ w', (callMethod (.iface t (.pointer (some q))) name #[]).run P w' = .ok (.enter f #[.pointer (some q')]) w') :
    Inv P t name 0 f (Vl (.pointer (some q))) (Vl (.pointer (some q'))) := fun w U v hv =>
  ⟨_, rfl, fun l hl w' => by obtain rfl : l = [] := List.length_eq_zero_iff.1 hl; rw [show v = _ from hv]; exact h w'⟩
theorem inv_ptr1 {t : TypeId} {name : String} {f : Nat} {q q' : Addr} (h : ∀ a w', (callMethod (.iface t (.pointer (some q))) name #[a]).run P w' = .ok (.enter f #[.pointer (some q'), a]) w') :
    Inv P t name 1 f (Vl (.pointer (some q))) (Vl (.pointer (some q'))) := fun w U v hv =>
  ⟨_, rfl, fun l hl w' => by obtain ⟨a, rfl⟩ := List.length_eq_one_iff.1 hl; rw [show v = _ from hv]; exact h a w'⟩

theorem inv_pt0 {t : TypeId} {name : String} {f : Nat} {l : List SV} (h : ∀ q w', (callMethod (.iface t (.pointer (some q))) name #[]).run P w' = .ok (.enter f #[.pointer (some q)]) w') : Inv P t name 0 f (Pt l) (Pt l) := fun w U v hv => by
  obtain ⟨b, off, rfl, h1, h2⟩ := hv
  exact ⟨_, ⟨b, off, rfl, h1, h2⟩, fun m hm w' => by obtain rfl : m = [] := List.length_eq_zero_iff.1 hm; exact h _ w'⟩
theorem inv_pt1 {t : TypeId} {name : String} {f : Nat} {l : List SV} (h : ∀ q a w', (callMethod (.iface t (.pointer (some q))) name #[a]).run P w' = .ok (.enter f #[.pointer (some q), a]) w') : Inv P t name 1 f (Pt l) (Pt l) := fun w U v hv => by
  obtain ⟨b, off, rfl, h1, h2⟩ := hv
  exact ⟨_, ⟨b, off, rfl, h1, h2⟩, fun m hm w' => by obtain ⟨a, rfl⟩ := List.length_eq_one_iff.1 hm; exact h _ a w'⟩
theorem inv_ptr2 {t : TypeId} {name : String} {f : Nat} {q q' : Addr} (h : ∀ a b w', (callMethod (.iface t (.pointer (some q))) name #[a, b]).run P w' = .ok (.enter f #[.pointer (some q'), a, b]) w') :
    Inv P t name 2 f (Vl (.pointer (some q))) (Vl (.pointer (some q'))) := fun w U v hv =>
  ⟨_, rfl, fun l hl w' => by
    obtain _ | ⟨a, _ | ⟨b, _ | ⟨c, l⟩⟩⟩ := l <;> simp at hl
    rw [show v = _ from hv]; exact h a b w'⟩
/-- a closure that is called -/
theorem ent_clo {f : Nat} {fn : Func} {C : Operand} {us : List Value} {Xs : List Operand} {ts : Array TypeId} {A : List SV} (hx : ev s.L C = some (Vl (.func (.func f) #[] ⟨us⟩))) (hf : P.funcs[f]? = some fn)
    (hn : (fn.name == "runtime.NumGoroutine") = false) (hb : fn.body.isNone = false) (ha : evs s.L Xs = some A) : Ent P s { callee := .value C, args := ⟨Xs⟩, argTypes := ts } f (A ++ us.map Vl) := fun E a w U hs => by
  have e : a.eval C = .func (.func f) #[] ⟨us⟩ := look_ev hs hx
  have hn' : ¬ fn.name = "runtime.NumGoroutine" := by simpa using hn
  have hb' : ¬ fn.body = none := fun e => by rw [e] at hb; cases hb
  have hus : All2 (fun x v => x.R w U v) (us.map Vl) us := by
    have : ∀ l : List Value, All2 (fun x v => x.R w U v) (l.map Vl) l := fun l => by
      induction l with
      | nil => trivial
      | cons x l ih => exact ⟨rfl, ih⟩
    exact this us
  refine ⟨Xs.map a.eval ++ us, (evs_all2 hs ha).append hus, fun dst ty pos af g w' => ?_⟩
  simp [execOp, resolve, e, Deferred.ofValue, invoke, callFunc, hf, hn', hb']

/-- one cell, of which nothing is known -/
def An : SV := ⟨fun _ _ _ => True, fun _ _ _ => trivial⟩
theorem imp_any {x : SV} : Imp x An := fun _ _ _ _ => trivial
theorem imp_if {t : TypeId} {x y : SV} (h : Imp x y) : Imp (If t x) (If t y) := fun w U v ⟨u, e, hu⟩ => ⟨u, e, h _ _ _ hu⟩
theorem imp_pt {l m : List SV} (h : All2 Imp l m) : Imp (Pt l) (Pt m) := fun w U v ⟨b, off, e, hb, hc⟩ => by
  refine ⟨b, off, e, hb, fun j y hy => ?_⟩
  have key : ∀ {l m : List SV}, All2 Imp l m → ∀ {j : Nat} {y : SV}, m[j]? = some y → ∃ x, l[j]? = some x ∧ Imp x y := by
    intro l
    induction l with
    | nil => intro m h j y hy; cases m with
      | nil => simp at hy
      | cons b m => exact h.elim
    | cons a l ih => intro m h j y hy; cases m with
      | nil => exact h.elim
      | cons b m => cases j with
        | zero => simp at hy; subst hy; exact ⟨a, rfl, h.1⟩
        | succ j => obtain ⟨x, h1, h2⟩ := ih h.2 (j := j) (by simpa using hy); exact ⟨x, by simpa using h1, h2⟩
  obtain ⟨x, h1, h2⟩ := key h hy
  obtain ⟨v, h3, h4⟩ := hc j x h1
  exact ⟨v, h3, h2 _ _ _ h4.1, h4.2⟩

theorem ox_callg {c : Call} {f d : Nat} {A : List SV} {HA H' : List Res} {X : Type} {r : X → SV} {HR : X → List Res} (he : Ent P s c f A) (hc : Fn P f A HA r HR) (is js : List Nat)
    (hn : (is ++ js).Nodup) (hA : PickAt s.H is HA) (hJ : PickAt s.H js H') {Hn : X → List Res} (hHn : ∀ x, HR x ++ H' = Hn x) (hd : dst = some d) (hdn : Nat.ble (d + 1) s.n = true) :
    OX E P ⟨dst, .call c, ty, pos, af, g⟩ 2 (fun x : X => { s with L := (d, r x) :: s.L, H := Hn x }) s := fun Q a w U hs K k => by
  obtain rfl : (fun x => HR x ++ H') = Hn := funext hHn
  obtain ⟨vs, hvs, hrun⟩ := he E a w U hs
  unfold Oper.wp
  rw [hrun]
  have hs' := hs.pickH (is ++ js) hn (pick_app hA hJ)
  have hnd0 : ((HA ++ H').flatMap Res.blk).Nodup := hs'.nodup
  rw [List.flatMap_append, List.nodup_append] at hnd0
  refine (hc w U _ hvs (fun q hq => hs'.own q (List.mem_append.2 (.inl hq))) hnd0.1 (fun q hq => hs'.apart q (List.mem_append.2 (.inl hq))) hs.lt hs.glob).mono ?_
  rintro e w' ⟨x, v, U', rfl, hr, ho, hnd, hap, hto, hlt, hfrom, hext⟩
  show K (a.put dst v) w'
  rw [hd]
  exact k x _ _ ⟨U', (hs'.called (HA := HA) (H' := H') (List.Perm.refl _) ho hnd hap hto hlt hfrom hext).put (s := { s with H := HR x ++ H' }) hdn hr⟩ (fun h => by cases h) (fun h => by cases h)
theorem ox_callg0 {c : Call} {f : Nat} {A : List SV} {HA H' : List Res} {X : Type} {r : X → SV} {HR : X → List Res} (he : Ent P s c f A) (hc : Fn P f A HA r HR) (is js : List Nat)
    (hn : (is ++ js).Nodup) (hA : PickAt s.H is HA) (hJ : PickAt s.H js H') {Hn : X → List Res} (hHn : ∀ x, HR x ++ H' = Hn x) (hd : dst = none) :
    OX E P ⟨dst, .call c, ty, pos, af, g⟩ 2 (fun x : X => { s with H := Hn x }) s := fun Q a w U hs K k => by
  obtain rfl : (fun x => HR x ++ H') = Hn := funext hHn
  obtain ⟨vs, hvs, hrun⟩ := he E a w U hs
  unfold Oper.wp
  rw [hrun]
  have hs' := hs.pickH (is ++ js) hn (pick_app hA hJ)
  have hnd0 : ((HA ++ H').flatMap Res.blk).Nodup := hs'.nodup
  rw [List.flatMap_append, List.nodup_append] at hnd0
  refine (hc w U _ hvs (fun q hq => hs'.own q (List.mem_append.2 (.inl hq))) hnd0.1 (fun q hq => hs'.apart q (List.mem_append.2 (.inl hq))) hs.lt hs.glob).mono ?_
  rintro e w' ⟨x, v, U', rfl, hr, ho, hnd, hap, hto, hlt, hfrom, hext⟩
  show K (a.put dst v) w'
  rw [hd]
  exact k x _ _ ⟨U', hs'.called (HA := HA) (H' := H') (List.Perm.refl _) ho hnd hap hto hlt hfrom hext⟩ (fun h => by cases h) (fun h => by cases h)
/-- a call to which nothing is handed over: new memory may come back -/
theorem ox_calln {c : Call} {f d : Nat} {A : List SV} {X : Type} {r : X → SV} {HR : X → List Res} (he : Ent P s c f A) (hc : Fn P f A [] r HR) {Hn : X → List Res} (hHn : ∀ x, HR x ++ s.H = Hn x) (hd : dst = some d) (hdn : Nat.ble (d + 1) s.n = true) :
    OX E P ⟨dst, .call c, ty, pos, af, g⟩ 0 (fun x : X => { s with L := (d, r x) :: s.L, H := Hn x }) s := fun Q a w U hs K k => by
  obtain rfl : (fun x => HR x ++ s.H) = Hn := funext hHn
  obtain ⟨vs, hvs, hrun⟩ := he E a w U hs
  unfold Oper.wp
  rw [hrun]
  refine (hc w U _ hvs (by simp) (by simp) (by simp) hs.lt hs.glob).mono ?_
  rintro e w' ⟨x, v, U', rfl, hr, ho, hnd, hap, hto, hlt, hfrom, hext⟩
  show K (a.put dst v) w'
  rw [hd]
  exact k x _ _ ⟨U', (hs.called (HA := []) (H' := s.H) (List.Perm.refl _) ho hnd hap hto hlt hfrom hext).put (s := { s with H := HR x ++ s.H }) hdn hr⟩ (fun _ => hext) (fun h => by cases h)
theorem ox_calln0 {c : Call} {f : Nat} {A : List SV} {X : Type} {r : X → SV} {HR : X → List Res} (he : Ent P s c f A) (hc : Fn P f A [] r HR) {Hn : X → List Res} (hHn : ∀ x, HR x ++ s.H = Hn x) (hd : dst = none) :
    OX E P ⟨dst, .call c, ty, pos, af, g⟩ 0 (fun x : X => { s with H := Hn x }) s := fun Q a w U hs K k => by
  obtain rfl : (fun x => HR x ++ s.H) = Hn := funext hHn
  obtain ⟨vs, hvs, hrun⟩ := he E a w U hs
  unfold Oper.wp
  rw [hrun]
  refine (hc w U _ hvs (by simp) (by simp) (by simp) hs.lt hs.glob).mono ?_
  rintro e w' ⟨x, v, U', rfl, hr, ho, hnd, hap, hto, hlt, hfrom, hext⟩
  show K (a.put dst v) w'
  rw [hd]
  exact k x _ _ ⟨U', hs.called (HA := []) (H' := s.H) (List.Perm.refl _) ho hnd hap hto hlt hfrom hext⟩ (fun _ => hext) (fun h => by cases h)
/-! #### rows frozen, for good or while they are lent -/
def FrzTo (s s' : St) : Prop := ∀ E a w U, SymAt E s a w U → ∃ U', (∀ k, U k → U' k) ∧ SymAt E s' a w U'
theorem frz_comp {s s1 s2 : St} (h : FrzTo s s1) (k : FrzTo s1 s2) : FrzTo s s2 := fun E a w U hs => by
  obtain ⟨U1, hu1, h1⟩ := h E a w U hs
  obtain ⟨U2, hu2, h2⟩ := k E a w U1 h1
  exact ⟨U2, fun k hk => hu2 k (hu1 k hk), h2⟩
def TsOk (L : List (Nat × SV)) (v : Value) (x : SV) : List (Nat × SV × SV) → Prop
  | [] => True
  | (t, y, z) :: r => (look L t = some y ∧ Frz v x y z) ∧ TsOk L v x r
def tsA (L : List (Nat × SV)) : List (Nat × SV × SV) → List (Nat × SV)
  | [] => L
  | (t, y, _) :: r => (t, y) :: tsA L r
def tsL (L : List (Nat × SV)) : List (Nat × SV × SV) → List (Nat × SV)
  | [] => L
  | (t, _, z) :: r => (t, z) :: tsL L r
theorem tsA_look {L : List (Nat × SV)} {v : Value} {x : SV} : ∀ {ts : List (Nat × SV × SV)}, TsOk L v x ts → ∀ k, look (tsA L ts) k = look L k
  | [], _, k => rfl
  | (t, y, z) :: r, ⟨⟨h, _⟩, h'⟩, k => by
    simp only [tsA, look]
    cases hb : Nat.beq t k with
    | true => have := Nat.eq_of_beq_eq_true hb; subst this; simp [h]
    | false => simpa using tsA_look h' k
theorem tsL_frz {L : List (Nat × SV)} {v : Value} {x : SV} : ∀ {ts : List (Nat × SV × SV)}, TsOk L v x ts → FrzS v x (tsA L ts) (tsL L ts)
  | [], _ => frzS_refl
  | (t, y, z) :: r, ⟨⟨_, h⟩, h'⟩ => ⟨⟨rfl, h⟩, tsL_frz h'⟩
theorem frz_row (i : Nat) (ts : List (Nat × SV × SV)) {α : Type} {K : Kd α} {e : TypeId} {v : Value} {xs : List α} (hK : Nat.ble 1 K.size = true) (hi : s.H[i]? = some (Rw K e v xs)) (hts : TsOk s.L v (Sl K xs) ts) {H' : List Res}
    (hH : FrzH v (Sl K xs) (s.H.eraseIdx i) H') : FrzTo s { s with L := tsL s.L ts, H := H' } := fun E a w U hs => by
  have h1 : SymAt E { s with L := tsA s.L ts } a w U := { hs with slot := fun k x hk => hs.slot k x (by rw [← tsA_look hts k]; exact hk) }
  exact h1.frz (s := { s with L := tsA s.L ts }) (Nat.le_of_ble_eq_true hK) hi (tsL_frz hts) hH
/-- a variable of one's own frozen -/
theorem frz_var (i : Nat) (ts : List (Nat × SV × SV)) {q : Addr} {cs : List SV} {e : TypeId} (hi : s.H[i]? = some ⟨.pointer (some q), cs, e, none⟩) (hts : TsOk s.L (.pointer (some q)) (Pt cs) ts) {H' : List Res}
    (hH : FrzH (.pointer (some q)) (Pt cs) (s.H.eraseIdx i) H') : FrzTo s { s with L := tsL s.L ts, H := H' } := fun E a w U hs => by
  have h1 : SymAt E { s with L := tsA s.L ts } a w U := { hs with slot := fun k x hk => hs.slot k x (by rw [← tsA_look hts k]; exact hk) }
  exact h1.frzx (s := { s with L := tsA s.L ts }) (v := .pointer (some q)) rfl hi (fun U' ho hb => by
    obtain ⟨b, vs, e1, e2, e3⟩ := ho
    refine ⟨⟨b, 0, e1, hb b (by rw [Res.blk, e1]; simp [blkOf]), fun j y hj => ?_⟩, rfl⟩
    obtain ⟨z, hz, hR⟩ := e3.get hj
    exact ⟨z, by simp [World.cell?, e2, hz], hR⟩) (tsL_frz hts) hH
theorem tx_fz {K' : Act → World → Prop} {s' : St} (h : FrzTo s s') (k : TX E K' s') : TX E K' s := fun a w ⟨U, hs⟩ => by
  obtain ⟨U', _, h'⟩ := h E a w U hs
  exact k a w ⟨U', h'⟩
theorem tq_fz {K' : Act → World → (Nat → Prop) → Prop} {s' : St} (h : FrzTo s s') (k : TQ E K' s') : ∀ a w U, SymAt E s a w U → ∃ U', K' a w U' := fun a w U hs => by
  obtain ⟨U', _, h'⟩ := h E a w U hs
  exact ⟨U', k a w U' h'⟩
/-- a value that speaks of no memory -/
def Pu (x : SV) : Prop := ∀ w U v w' U', x.R w U v → x.R w' U' v
def PuL : List SV → Prop
  | [] => True
  | x :: l => Pu x ∧ PuL l
theorem pu_vl {u : Value} : Pu (Vl u) := fun _ _ _ _ _ h => h
theorem pu_fl {x : Nat} : Pu (Fl x) := fun _ _ _ _ _ h => h
theorem pu_ag {l : List SV} (h : PuL l) : Pu (Ag l) := fun w U v w' U' ⟨vs, e, hv⟩ => ⟨vs, e, by
  have key : ∀ {l : List SV} {vs : List Value}, PuL l → All2 (fun s v => s.C w U v) l vs → All2 (fun s v => s.C w' U' v) l vs := by
    intro l
    induction l with
    | nil => intro vs _ h; cases vs with | nil => trivial | cons _ _ => exact h.elim
    | cons x l ih => intro vs hp h; cases vs with | nil => exact h.elim | cons u vs => exact ⟨⟨hp.1 _ _ _ _ _ h.1.1, h.1.2⟩, ih hp.2 h.2⟩
  exact key h hv⟩
theorem pu_tu {l : List SV} (h : PuL l) : Pu (Tu l) := fun w U v w' U' ⟨vs, e, hv⟩ => ⟨vs, e, by
  have key : ∀ {l : List SV} {vs : List Value}, PuL l → All2 (fun s v => s.R w U v) l vs → All2 (fun s v => s.R w' U' v) l vs := by
    intro l
    induction l with
    | nil => intro vs _ h; cases vs with | nil => trivial | cons _ _ => exact h.elim
    | cons x l ih => intro vs hp h; cases vs with | nil => exact h.elim | cons u vs => exact ⟨hp.1 _ _ _ _ _ h.1, ih hp.2 h.2⟩
  exact key h hv⟩
theorem pu_if {t : TypeId} {x : SV} (h : Pu x) : Pu (If t x) := fun w U v w' U' ⟨u, e, hu⟩ => ⟨u, e, h _ _ _ _ _ hu⟩
theorem ox_brw {c : Call} {f d : Nat} {A : List SV} {s' : St} {r : SV} (hfz : FrzTo s s') (he : Ent P s' c f A) (hc : Fn P f A [] (fun _ : Unit => r) (fun _ => [])) (hp : Pu r) (hd : dst = some d) (hdn : Nat.ble (d + 1) s.n = true) :
    OX E P ⟨dst, .call c, ty, pos, af, g⟩ 0 (fun _ : Unit => { s with L := (d, r) :: s.L }) s := fun Q a w U hs K k => by
  obtain ⟨U1, hu1, hs1⟩ := hfz E a w U hs
  obtain ⟨vs, hvs, hrun⟩ := he E a w U1 hs1
  unfold Oper.wp
  rw [hrun]
  refine (hc w U1 _ hvs (by simp) (by simp) (by simp) hs1.lt hs1.glob).mono ?_
  rintro e w' ⟨x, v, U', rfl, hr, ho, hnd, hap, hto, hlt, hfrom, hext⟩
  show K (a.put dst v) w'
  rw [hd]
  have hext' : Ext [] w w' := hext
  exact k () _ _ ⟨U, (hs.world (fun i hi => hext'.block i hi (by simp)) hext'.size hext'.os hext'.tape hext'.output).put hdn (hp _ _ _ _ _ hr)⟩ (fun _ => hext') (fun h => by cases h)
theorem ox_brw0 {c : Call} {f : Nat} {A : List SV} {s' : St} {r : SV} (hfz : FrzTo s s') (he : Ent P s' c f A) (hc : Fn P f A [] (fun _ : Unit => r) (fun _ => [])) (hd : dst = none) :
    OX E P ⟨dst, .call c, ty, pos, af, g⟩ 0 (fun _ : Unit => s) s := fun Q a w U hs K k => by
  obtain ⟨U1, hu1, hs1⟩ := hfz E a w U hs
  obtain ⟨vs, hvs, hrun⟩ := he E a w U1 hs1
  unfold Oper.wp
  rw [hrun]
  refine (hc w U1 _ hvs (by simp) (by simp) (by simp) hs1.lt hs1.glob).mono ?_
  rintro e w' ⟨x, v, U', rfl, hr, ho, hnd, hap, hto, hlt, hfrom, hext⟩
  show K (a.put dst v) w'
  rw [hd]
  have hext' : Ext [] w w' := hext
  exact k () _ _ ⟨U, hs.world (fun i hi => hext'.block i hi (by simp)) hext'.size hext'.os hext'.tape hext'.output⟩ (fun _ => hext') (fun h => by cases h)
/-- rows are lent, and other memory is handed over: what comes back speaks of no lent row -/
def PuH : List Res → Prop
  | [] => True
  | r :: l => PuL r.cs ∧ PuH l
theorem own_pu {r : Res} {w : World} {U U' : Nat → Prop} (h : PuL r.cs) (ho : r.own w U) : r.own w U' := by
  have key : ∀ {l : List SV} {vs : List Value}, PuL l → All2 (fun s v => s.C w U v) l vs → All2 (fun s v => s.C w U' v) l vs := by
    intro l
    induction l with
    | nil => intro vs _ h; cases vs with | nil => trivial | cons _ _ => exact h.elim
    | cons x l ih => intro vs hp h; cases vs with | nil => exact h.elim | cons u vs => exact ⟨⟨hp.1 _ _ _ _ _ h.1.1, h.1.2⟩, ih hp.2 h.2⟩
  unfold Res.own at ho ⊢
  split
  · rename_i hr
    rw [hr] at ho
    obtain ⟨b, vs, h1, h2, h3⟩ := ho
    exact ⟨b, vs, h1, h2, key h h3⟩
  · rename_i sz hr
    rw [hr] at ho
    rcases ho with ⟨h1, h2⟩ | ⟨b, n, cap, vs, sp, h1, h2, h3, h4, h5, h6⟩
    · exact .inl ⟨h1, h2⟩
    · exact .inr ⟨b, n, cap, vs, sp, h1, h2, key h h3, h4, h5, h6⟩
theorem puL_app {l m : List SV} (h : PuL l) (h' : PuL m) : PuL (l ++ m) := by
  induction l with
  | nil => exact h'
  | cons x l ih => exact ⟨h.1, ih h.2⟩
theorem puL_flat {α : Type} {K : Kd α} (h : ∀ x, PuL (K.enc x)) (xs : List α) : PuL (xs.flatMap K.enc) := by
  induction xs with
  | nil => trivial
  | cons x xs ih => rw [List.flatMap_cons]; exact puL_app (h x) ih
theorem pu_kf : ∀ x, PuL (Kf.enc x) := fun _ => ⟨pu_vl, trivial⟩
theorem pu_ki {k : IntKind} : ∀ x, PuL ((Ki k).enc x) := fun _ => ⟨pu_vl, trivial⟩
theorem pu_kb : ∀ x, PuL (Kb.enc x) := fun _ => ⟨pu_vl, trivial⟩
theorem ox_brwg {c : Call} {f d : Nat} {A : List SV} {s' : St} {HA H' : List Res} {X : Type} {r : X → SV} {HR : X → List Res} (hfz : FrzTo s s') (he : Ent P s' c f A) (hc : Fn P f A HA r HR) (is js ks : List Nat)
    (hA' : PickAt s'.H ks HA) (hn : (is ++ js).Nodup) (hk : ks.Nodup) (hA : PickAt s.H is HA) (hJ : PickAt s.H js H') {Hn : X → List Res} (hHn : ∀ x, HR x ++ H' = Hn x) (hp : ∀ x, Pu (r x)) (hq : ∀ x, PuH (HR x)) (hd : dst = some d) (hdn : Nat.ble (d + 1) s.n = true) :
    OX E P ⟨dst, .call c, ty, pos, af, g⟩ 2 (fun x : X => { s with L := (d, r x) :: s.L, H := Hn x }) s := fun Q a w U hs K k => by
  obtain rfl : (fun x => HR x ++ H') = Hn := funext hHn
  obtain ⟨U1, hu1, hs1⟩ := hfz E a w U hs
  obtain ⟨vs, hvs, hrun⟩ := he E a w U1 hs1
  unfold Oper.wp
  rw [hrun]
  have hs' := hs.pickH (is ++ js) hn (pick_app hA hJ)
  have hs1' := hs1.pickH ks hk hA'
  have hpu : ∀ {l : List Res} {q : Res}, PuH l → q ∈ l → PuL q.cs := by
    intro l
    induction l with
    | nil => intro q _ h; cases h
    | cons a l ih => intro q h hq; rcases List.mem_cons.1 hq with e | e; subst e; exact h.1; exact ih h.2 e
  refine (hc w U1 _ hvs (fun q hq => hs1'.own q hq) hs1'.nodup (fun q hq => hs1'.apart q hq) hs1.lt hs1.glob).mono ?_
  rintro e w' ⟨x, v, U', rfl, hr, ho, hnd, hap, hto, hlt, hfrom, hext⟩
  show K (a.put dst v) w'
  rw [hd]
  have hsub : ∀ k, U k → U' k := fun k hk => hto k (hu1 k hk)
  exact k x _ _ ⟨U, (hs'.called (U' := U) (HA := HA) (H' := H') (List.Perm.refl _) (fun q hq' => own_pu (hpu (hq x) hq') (ho q hq')) hnd (fun q hq b hb => ⟨fun hu => (hap q hq b hb).1 (hsub b hu), (hap q hq b hb).2⟩) (fun _ h => h)
    (fun k hk => hlt k (hsub k hk)) (fun k hk => .inl hk) hext).put (s := { s with H := HR x ++ H' }) hdn (hp x _ _ _ _ _ hr)⟩ (fun h => by cases h) (fun h => by cases h)
theorem ox_brwg0 {c : Call} {f : Nat} {A : List SV} {s' : St} {HA H' : List Res} {X : Type} {r : X → SV} {HR : X → List Res} (hfz : FrzTo s s') (he : Ent P s' c f A) (hc : Fn P f A HA r HR) (is js ks : List Nat)
    (hA' : PickAt s'.H ks HA) (hn : (is ++ js).Nodup) (hk : ks.Nodup) (hA : PickAt s.H is HA) (hJ : PickAt s.H js H') {Hn : X → List Res} (hHn : ∀ x, HR x ++ H' = Hn x) (hq : ∀ x, PuH (HR x)) (hd : dst = none) :
    OX E P ⟨dst, .call c, ty, pos, af, g⟩ 2 (fun x : X => { s with H := Hn x }) s := fun Q a w U hs K k => by
  obtain rfl : (fun x => HR x ++ H') = Hn := funext hHn
  obtain ⟨U1, hu1, hs1⟩ := hfz E a w U hs
  obtain ⟨vs, hvs, hrun⟩ := he E a w U1 hs1
  unfold Oper.wp
  rw [hrun]
  have hs' := hs.pickH (is ++ js) hn (pick_app hA hJ)
  have hs1' := hs1.pickH ks hk hA'
  have hpu : ∀ {l : List Res} {q : Res}, PuH l → q ∈ l → PuL q.cs := by
    intro l
    induction l with
    | nil => intro q _ h; cases h
    | cons a l ih => intro q h hq; rcases List.mem_cons.1 hq with e | e; subst e; exact h.1; exact ih h.2 e
  refine (hc w U1 _ hvs (fun q hq => hs1'.own q hq) hs1'.nodup (fun q hq => hs1'.apart q hq) hs1.lt hs1.glob).mono ?_
  rintro e w' ⟨x, v, U', rfl, hr, ho, hnd, hap, hto, hlt, hfrom, hext⟩
  show K (a.put dst v) w'
  rw [hd]
  have hsub : ∀ k, U k → U' k := fun k hk => hto k (hu1 k hk)
  exact k x _ _ ⟨U, hs'.called (U' := U) (HA := HA) (H' := H') (List.Perm.refl _) (fun q hq' => own_pu (hpu (hq x) hq') (ho q hq')) hnd (fun q hq b hb => ⟨fun hu => (hap q hq b hb).1 (hsub b hu), (hap q hq b hb).2⟩) (fun _ h => h)
    (fun k hk => hlt k (hsub k hk)) (fun k hk => .inl hk) hext⟩ (fun h => by cases h) (fun h => by cases h)
end
end Go.Sx
