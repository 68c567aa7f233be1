/-
  Steps of a walk over the symbolic state: addresses that are not nil, comparisons with nil, interfaces, calls that take memory of one's own. Ours; it knows no program.
-/
import Derived.Test.YtjgpiealnfbkcaaSxO
namespace Go.Sx
set_option linter.unusedVariables false
set_option linter.unusedSectionVars false
set_option linter.unusedSimpArgs false
variable [Gv]

section
variable {E : Env} {P : Program} {s : St} {dst : Option Tmp} {ty : TypeId} {pos : String} {af : Array Edge} {g : Option (Nat × Bool)}

/-! #### kinds of data that have themselves in them -/
theorem rd_nilck {X : Operand} {q : Addr} (hx : ev s.L X = some (Vl (.pointer (some q)))) : Rd P s ⟨dst, .nilCheck X, ty, pos, af, g⟩ (Vl (.pointer (some q))) := fun E a w U hs => by
  have e : a.eval X = .pointer (some q) := look_ev hs hx
  exact ⟨_, rfl, fun w' _ => by simp [execOp, e]⟩
theorem rd_nilck_pt {X : Operand} {l : List SV} (hx : ev s.L X = some (Pt l)) : Rd P s ⟨dst, .nilCheck X, ty, pos, af, g⟩ (Pt l) := fun E a w U hs => by
  have h := look_ev hs hx
  obtain ⟨b, off, e, h1, h2⟩ := h
  exact ⟨_, ⟨b, off, rfl, h1, h2⟩, fun w' _ => by simp [execOp, e]⟩
theorem rd_binf {op : BinOp} {tx t2 : TypeId} {X Y : Operand} {x y : SV} {v : Value} (hx : ev s.L X = some x) (hy : ev s.L Y = some y)
    (h : ∀ w U a b, x.R w U a → y.R w U b → Runs P (eqGuard op tx X Y a b) () ∧ Runs P (binOp op tx a b) v) : Rd P s ⟨dst, .binOp op tx X Y t2, ty, pos, af, g⟩ (Vl v) := fun E a w U hs => by
  obtain ⟨h1, h2⟩ := h w U _ _ (look_ev hs hx) (look_ev hs hy)
  exact ⟨v, rfl, fun w' _ => by simp [execOp, h1 w', h2 w']⟩
theorem bf_vl {op : BinOp} {tx : TypeId} {X Y : Operand} {x y v : Value} (h1 : ∀ w, (eqGuard op tx X Y x y).run P w = .ok () w) (h2 : ∀ w, (binOp op tx x y).run P w = .ok v w) :
    ∀ w U a b, (Vl x).R w U a → (Vl y).R w U b → Runs P (eqGuard op tx X Y a b) () ∧ Runs P (binOp op tx a b) v := fun w U a b ha hb => by
  rw [show a = x from ha, show b = y from hb]; exact ⟨h1, h2⟩
theorem bf_pt {op : BinOp} {tx : TypeId} {X Y : Operand} {l : List SV} {y v : Value} (h1 : ∀ q w, (eqGuard op tx X Y (.pointer (some q)) y).run P w = .ok () w) (h2 : ∀ q w, (binOp op tx (.pointer (some q)) y).run P w = .ok v w) :
    ∀ w U a b, (Pt l).R w U a → (Vl y).R w U b → Runs P (eqGuard op tx X Y a b) () ∧ Runs P (binOp op tx a b) v := fun w U a b ⟨_, _, ha, _⟩ hb => by
  rw [ha, show b = y from hb]; exact ⟨h1 _, h2 _⟩
def some1 {α : Type} (xs : List α) : Option Unit := match xs with | [] => none | _ :: _ => some ()
theorem add_zero (q : Addr) : q.add 0 = q := rfl
theorem rd_field0 {t : TypeId} {X : Operand} {q : Addr} {f : Nat} {fs : Array Field} {fd : Field} (hx : ev s.L X = some (Vl (.pointer (some q)))) (ht : P.underlying t = some (.struct fs)) (hf : fs[f]? = some fd)
    {z : Option Value} {m bytes : Nat} (hz : (P.info? fd.type).map (fun i => (i.zero, i.size, i.bytes)) = some (z, m + 1, bytes)) (hoff : fd.offset = 0) :
    Rd P s ⟨dst, .fieldAddr t X f, ty, pos, af, g⟩ (Vl (.pointer (some q))) := rd_field hx ht hf hz hoff
theorem rd_assert {X : Operand} {t tx ta : TypeId} {ok : Bool} {x y : SV} {F : Value → Value} (hx : ev s.L X = some (If t x)) (hF : ∀ v w, (Instr.typeAssert (.iface t v) tx ta ok).run P w = .ok (F v) w)
    (hy : ∀ w U v, x.R w U v → y.R w U (F v)) : Rd P s ⟨dst, .typeAssert X tx ta ok, ty, pos, af, g⟩ y := fun E a w U hs => by
  obtain ⟨u, e, h⟩ := look_ev hs hx
  exact ⟨_, hy _ _ _ h, fun w' _ => by simp [execOp, e, hF u w']⟩
theorem as_id {x : SV} : ∀ w U v, x.R w U v → x.R w U v := fun _ _ _ h => h
theorem as_ifok {t : TypeId} {x : SV} : ∀ w U v, x.R w U v → (Tu [If t x, Vl (.bool true)]).R w U (.tuple #[.iface t v, .bool true]) := fun _ _ v h => ⟨[.iface t v, .bool true], rfl, ⟨v, rfl, h⟩, rfl, trivial⟩
theorem pick_app {H : List Res} : ∀ {is js : List Nat} {A B : List Res}, PickAt H is A → PickAt H js B → PickAt H (is ++ js) (A ++ B)
  | [], _, [], _, _, h => h
  | _ :: _, _, _ :: _, _, ⟨h, h'⟩, k => ⟨h, pick_app h' k⟩
  | [], _, _ :: _, _, h, _ => h.elim
  | _ :: _, _, [], _, h, _ => h.elim
theorem SymAt.pickH {a : Act} {w : World} {U : Nat → Prop} (h : SymAt E s a w U) {H' : List Res} (is : List Nat) (hn : is.Nodup) (hp : PickAt s.H is H') : SymAt E { s with H := H' } a w U :=
  have h' := h.pick (L' := []) is trivial hn hp
  { size := h'.size, defers := h'.defers, slot := h.slot, own := h'.own, nodup := h'.nodup, apart := h'.apart, base := h'.base, lt := h'.lt, from0 := h'.from0, to0 := h'.to0, ext := h'.ext, glob := h'.glob }

def Ent (P : Program) (s : St) (c : Call) (f : Nat) (A : List SV) : Prop :=
  ∀ E a w U, SymAt E s a w U → ∃ vs : List Value, All2 (fun x v => x.R w U v) A vs ∧ ∀ dst ty pos af g, ∀ w' : World, (execOp a.eval ⟨dst, .call c, ty, pos, af, g⟩).run P w' = .ok (.enter f vs.toArray) w'
theorem ent_fn {f : Nat} {fn : Func} {Xs : List Operand} {ts : Array TypeId} {A : List SV} (hf : P.funcs[f]? = some fn)
    (hn : (fn.name == "runtime.NumGoroutine") = false) (hb : fn.body.isNone = false) (ha : evs s.L Xs = some A) : Ent P s { callee := .value (.func f), args := ⟨Xs⟩, argTypes := ts } f A := fun E a w U hs =>
  ⟨_, evs_all2 hs ha, fun dst ty pos af g w' => exec_call rfl hf hn hb w'⟩
def Inv (P : Program) (t : TypeId) (name : String) (n f : Nat) (x y : SV) : Prop :=
  ∀ w U v, x.R w U v → ∃ v', y.R w U v' ∧ ∀ l : List Value, l.length = n → ∀ w', (callMethod (.iface t v) name l.toArray).run P w' = .ok (.enter f (v' :: l).toArray) w'
theorem ent_inv {f : Nat} {R : Operand} {name : String} {Xs : List Operand} {ts : Array TypeId} {t : TypeId} {x y : SV} {A : List SV} (hr : ev s.L R = some (If t x)) (ha : evs s.L Xs = some A)
    (hm : Inv P t name Xs.length f x y) : Ent P s { callee := .invoke R name, args := ⟨Xs⟩, argTypes := ts } f (y :: A) := fun E a w U hs => by
  obtain ⟨u, e, h⟩ := look_ev hs hr
  obtain ⟨v', hv, hrun⟩ := hm w U u h
  refine ⟨v' :: Xs.map a.eval, ⟨hv, evs_all2 hs ha⟩, fun dst ty pos af g w' => ?_⟩
  have := hrun (Xs.map a.eval) (by simp) w'
  have ht : List.take Xs.length (List.map a.eval Xs) = List.map a.eval Xs := List.take_of_length_le (by simp)
  simpa [execOp, resolve, invoke, e, ht] using this
theorem inv_any0 {t : TypeId} {name : String} {f : Nat} {x : SV} (h : ∀ v w', (callMethod (.iface t v) name #[]).run P w' = .ok (.enter f #[v]) w') : Inv P t name 0 f x x := fun w U v hv =>
  ⟨v, hv, fun l hl w' => by obtain rfl : l = [] := List.length_eq_zero_iff.1 hl; exact h v w'⟩
theorem inv_any1 {t : TypeId} {name : String} {f : Nat} {x : SV} (h : ∀ v a w', (callMethod (.iface t v) name #[a]).run P w' = .ok (.enter f #[v, a]) w') : Inv P t name 1 f x x := fun w U v hv =>
  ⟨v, hv, fun l hl w' => by obtain ⟨a, rfl⟩ := List.length_eq_one_iff.1 hl; exact h v a w'⟩
theorem inv_any2 {t : TypeId} {name : String} {f : Nat} {x : SV} (h : ∀ v a b w', (callMethod (.iface t v) name #[a, b]).run P w' = .ok (.enter f #[v, a, b]) w') : Inv P t name 2 f x x := fun w U v hv =>
  ⟨v, hv, fun l hl w' => by
    obtain _ | ⟨a, _ | ⟨b, _ | ⟨c, l⟩⟩⟩ := l <;> simp at hl
    exact h v a b w'⟩
theorem ent_clo {f : Nat} {fn : Func} {C : Operand} {us : List Value} {Xs : List Operand} {ts : Array TypeId} {A : List SV} (hx : ev s.L C = some (Vl (.func (.func f) #[] ⟨us⟩))) (hf : P.funcs[f]? = some fn)
    (hn : (fn.name == "runtime.NumGoroutine") = false) (hb : fn.body.isNone = false) (ha : evs s.L Xs = some A) : Ent P s { callee := .value C, args := ⟨Xs⟩, argTypes := ts } f (A ++ us.map Vl) := fun E a w U hs => by
  have e : a.eval C = .func (.func f) #[] ⟨us⟩ := look_ev hs hx
  have hn' : ¬ fn.name = "runtime.NumGoroutine" := by simpa using hn
  have hb' : ¬ fn.body = none := fun e => by rw [e] at hb; cases hb
  have hus : All2 (fun x v => x.R w U v) (us.map Vl) us := by
    have : ∀ l : List Value, All2 (fun x v => x.R w U v) (l.map Vl) l := fun l => by
      induction l with
      | nil => trivial
      | cons x l ih => exact ⟨rfl, ih⟩
    exact this us
  refine ⟨Xs.map a.eval ++ us, (evs_all2 hs ha).append hus, fun dst ty pos af g w' => ?_⟩
  simp [execOp, resolve, e, Deferred.ofValue, invoke, callFunc, hf, hn', hb']

def An : SV := ⟨fun _ _ _ => True, fun _ _ _ => trivial⟩
theorem ox_callg {c : Call} {f d : Nat} {A : List SV} {HA H' : List Res} {X : Type} {r : X → SV} {HR : X → List Res} (he : Ent P s c f A) (hc : Fn P f A HA r HR) (is js : List Nat)
    (hn : (is ++ js).Nodup) (hA : PickAt s.H is HA) (hJ : PickAt s.H js H') {Hn : X → List Res} (hHn : ∀ x, HR x ++ H' = Hn x) (hd : dst = some d) (hdn : Nat.ble (d + 1) s.n = true) :
    OX E P ⟨dst, .call c, ty, pos, af, g⟩ 2 (fun x : X => { s with L := (d, r x) :: s.L, H := Hn x }) s := fun Q a w U hs K k => by
  obtain rfl : (fun x => HR x ++ H') = Hn := funext hHn
  obtain ⟨vs, hvs, hrun⟩ := he E a w U hs
  unfold Oper.wp
  rw [hrun]
  have hs' := hs.pickH (is ++ js) hn (pick_app hA hJ)
  have hnd0 : ((HA ++ H').flatMap Res.blk).Nodup := hs'.nodup
  rw [List.flatMap_append, List.nodup_append] at hnd0
  refine (hc w U _ hvs (fun q hq => hs'.own q (List.mem_append.2 (.inl hq))) hnd0.1 (fun q hq => hs'.apart q (List.mem_append.2 (.inl hq))) hs.lt hs.glob).mono ?_
  rintro e w' ⟨x, v, U', rfl, hr, ho, hnd, hap, hto, hlt, hfrom, hext⟩
  show K (a.put dst v) w'
  rw [hd]
  exact k x _ _ ⟨U', (hs'.called (HA := HA) (H' := H') (List.Perm.refl _) ho hnd hap hto hlt hfrom hext).put (s := { s with H := HR x ++ H' }) hdn hr⟩ (fun h => by cases h) (fun h => by cases h)
theorem ox_calln {c : Call} {f d : Nat} {A : List SV} {X : Type} {r : X → SV} {HR : X → List Res} (he : Ent P s c f A) (hc : Fn P f A [] r HR) {Hn : X → List Res} (hHn : ∀ x, HR x ++ s.H = Hn x) (hd : dst = some d) (hdn : Nat.ble (d + 1) s.n = true) :
    OX E P ⟨dst, .call c, ty, pos, af, g⟩ 0 (fun x : X => { s with L := (d, r x) :: s.L, H := Hn x }) s := fun Q a w U hs K k => by
  obtain rfl : (fun x => HR x ++ s.H) = Hn := funext hHn
  obtain ⟨vs, hvs, hrun⟩ := he E a w U hs
  unfold Oper.wp
  rw [hrun]
  refine (hc w U _ hvs (by simp) (by simp) (by simp) hs.lt hs.glob).mono ?_
  rintro e w' ⟨x, v, U', rfl, hr, ho, hnd, hap, hto, hlt, hfrom, hext⟩
  show K (a.put dst v) w'
  rw [hd]
  exact k x _ _ ⟨U', (hs.called (HA := []) (H' := s.H) (List.Perm.refl _) ho hnd hap hto hlt hfrom hext).put (s := { s with H := HR x ++ s.H }) hdn hr⟩ (fun _ => hext) (fun h => by cases h)
def FrzTo (s s' : St) : Prop := ∀ E a w U, SymAt E s a w U → ∃ U', (∀ k, U k → U' k) ∧ SymAt E s' a w U'
def TsOk (L : List (Nat × SV)) (v : Value) (x : SV) : List (Nat × SV × SV) → Prop
  | [] => True
  | (t, y, z) :: r => (look L t = some y ∧ Frz v x y z) ∧ TsOk L v x r
def tsA (L : List (Nat × SV)) : List (Nat × SV × SV) → List (Nat × SV)
  | [] => L
  | (t, y, _) :: r => (t, y) :: tsA L r
def tsL (L : List (Nat × SV)) : List (Nat × SV × SV) → List (Nat × SV)
  | [] => L
  | (t, _, z) :: r => (t, z) :: tsL L r
theorem tsA_look {L : List (Nat × SV)} {v : Value} {x : SV} : ∀ {ts : List (Nat × SV × SV)}, TsOk L v x ts → ∀ k, look (tsA L ts) k = look L k
  | [], _, k => rfl
  | (t, y, z) :: r, ⟨⟨h, _⟩, h'⟩, k => by
    simp only [tsA, look]
    cases hb : Nat.beq t k with
    | true => have := Nat.eq_of_beq_eq_true hb; subst this; simp [h]
    | false => simpa using tsA_look h' k
theorem tsL_frz {L : List (Nat × SV)} {v : Value} {x : SV} : ∀ {ts : List (Nat × SV × SV)}, TsOk L v x ts → FrzS v x (tsA L ts) (tsL L ts)
  | [], _ => frzS_refl
  | (t, y, z) :: r, ⟨⟨_, h⟩, h'⟩ => ⟨⟨rfl, h⟩, tsL_frz h'⟩
theorem frz_row (i : Nat) (ts : List (Nat × SV × SV)) {α : Type} {K : Kd α} {e : TypeId} {v : Value} {xs : List α} (hK : Nat.ble 1 K.size = true) (hi : s.H[i]? = some (Rw K e v xs)) (hts : TsOk s.L v (Sl K xs) ts) {H' : List Res}
    (hH : FrzH v (Sl K xs) (s.H.eraseIdx i) H') : FrzTo s { s with L := tsL s.L ts, H := H' } := fun E a w U hs => by
  have h1 : SymAt E { s with L := tsA s.L ts } a w U := { hs with slot := fun k x hk => hs.slot k x (by rw [← tsA_look hts k]; exact hk) }
  exact h1.frz (s := { s with L := tsA s.L ts }) (Nat.le_of_ble_eq_true hK) hi (tsL_frz hts) hH
theorem tx_fz {K' : Act → World → Prop} {s' : St} (h : FrzTo s s') (k : TX E K' s') : TX E K' s := fun a w ⟨U, hs⟩ => by
  obtain ⟨U', _, h'⟩ := h E a w U hs
  exact k a w ⟨U', h'⟩
def Pu (x : SV) : Prop := ∀ w U v w' U', x.R w U v → x.R w' U' v
def PuL : List SV → Prop
  | [] => True
  | x :: l => Pu x ∧ PuL l
theorem pu_vl {u : Value} : Pu (Vl u) := fun _ _ _ _ _ h => h
theorem ox_brw {c : Call} {f d : Nat} {A : List SV} {s' : St} {r : SV} (hfz : FrzTo s s') (he : Ent P s' c f A) (hc : Fn P f A [] (fun _ : Unit => r) (fun _ => [])) (hp : Pu r) (hd : dst = some d) (hdn : Nat.ble (d + 1) s.n = true) :
    OX E P ⟨dst, .call c, ty, pos, af, g⟩ 0 (fun _ : Unit => { s with L := (d, r) :: s.L }) s := fun Q a w U hs K k => by
  obtain ⟨U1, hu1, hs1⟩ := hfz E a w U hs
  obtain ⟨vs, hvs, hrun⟩ := he E a w U1 hs1
  unfold Oper.wp
  rw [hrun]
  refine (hc w U1 _ hvs (by simp) (by simp) (by simp) hs1.lt hs1.glob).mono ?_
  rintro e w' ⟨x, v, U', rfl, hr, ho, hnd, hap, hto, hlt, hfrom, hext⟩
  show K (a.put dst v) w'
  rw [hd]
  have hext' : Ext [] w w' := hext
  exact k () _ _ ⟨U, (hs.world (fun i hi => hext'.block i hi (by simp)) hext'.size hext'.os hext'.tape hext'.output).put hdn (hp _ _ _ _ _ hr)⟩ (fun _ => hext') (fun h => by cases h)
def PuH : List Res → Prop
  | [] => True
  | r :: l => PuL r.cs ∧ PuH l
end
end Go.Sx
