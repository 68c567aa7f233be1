/-
  Steps of a walk over the symbolic state: panics, and closures that catch them. Ours; it knows no program.
-/
import Derived.Test.YtmagcmeknclljaaSxS
import Derived.Recover
namespace Go.Sx
set_option linter.unusedVariables false
set_option linter.unusedSectionVars false
set_option linter.unusedSimpArgs false
variable [Gv]

section
variable {E : Env} {P : Program} {Q : Exit → Act → World → Prop} {s : St} {ops : Array Oper} {rest : List Oper} {o : Oper} {dst : Option Tmp} {ty : TypeId} {pos : String} {af : Array Edge} {g : Option (Nat × Bool)}

abbrev pch (tx : TypeId) (vx : Value) : List PanicEntry := [{ v := .iface tx vx, recovered := false }]
def PanE (E : Env) (e : Ending) (w' : World) : Prop := ∃ tx vx, e = .panicked (pch tx vx) ∧ Ext E.M E.w0 w'
def Fx (P : Program) (f : Nat) (A : List SV) (HA : List Res) {X : Type} (pan : Bool) (r : X → SV) (HR : X → List Res) : Prop :=
  ∀ (w : World) (U : Nat → Prop) (args : List Value), All2 (fun s v => s.R w U v) A args → (∀ q ∈ HA, q.own w U) → (HA.flatMap Res.blk).Nodup → (∀ q ∈ HA, ∀ b ∈ q.blk, ¬ U b) →
    (∀ k, U k → k < w.heap.size) → GOk w U → Calls P f args.toArray w (bif pan then PanE ⟨w, U, HA.flatMap Res.blk⟩ else PostE ⟨w, U, HA.flatMap Res.blk⟩ r HR)
theorem Fx.fn {f : Nat} {A : List SV} {HA : List Res} {X : Type} {r : X → SV} {HR : X → List Res} (h : Fx P f A HA false r HR) : Fn P f A HA r HR := h
def Pan (P : Program) (s : St) (o : Oper) : Prop := ∀ E a w U, SymAt E s a w U → ∃ tx vx w', (execOp a.eval o).run P w = .halt (.panic (.iface tx vx)) w' ∧ Ext [] w w'
def PanQ (E : Env) (Q : Exit → Act → World → Prop) (s : St) : Prop := ∀ tx vx, TX E (Q (.panic (pch tx vx))) s
theorem SymAt.ext0 {a : Act} {w w' : World} {U : Nat → Prop} (h : SymAt E s a w U) (hx : Ext [] w w') : SymAt E s a w' U :=
  h.world (fun k hk => hx.block k hk (by simp)) hx.size hx.os hx.tape hx.output
theorem sx_panic (hp : Pan P s o) (hw : Wt ops s o true) (k : PanQ E Q s) : SX E P ops Q (o :: rest) s := fun a w ⟨U, hs⟩ => by
  refine wpList_step fun K hK => ?_
  rw [if_pos (hw E a w U hs)]
  obtain ⟨tx, vx, w', hr, hx⟩ := hp E a w U hs
  unfold Oper.wp
  rw [hr]
  exact k tx vx a w' ⟨U, hs.ext0 hx⟩
def Catch (P : Program) (f : Nat) (A : List SV) (HA HR : List Res) : Prop :=
  ∀ (w : World) (U : Nat → Prop) (args : List Value) (tx : TypeId) (vx : Value), All2 (fun s v => s.R w U v) A args → (∀ q ∈ HA, q.own w U) → (HA.flatMap Res.blk).Nodup → (∀ q ∈ HA, ∀ b ∈ q.blk, ¬ U b) →
    (∀ k, U k → k < w.heap.size) → GOk w U → CallsD P f args.toArray (.panicking (pch tx vx)) w fun e u' w' => settle u' = .returning ∧ PostE ⟨w, U, HA.flatMap Res.blk⟩ (fun _ : Unit => Vl (.tuple #[])) (fun _ => HR) e w'
theorem catch_of {f : Nat} {fn : Func} {c1 : Code} {n i0 d1 d2 : Nat} {t t2 ty1 ty2 : TypeId} {pos1 pos2 : String} {af1 af2 : Array Edge} {A : List SV} {HA HR : List Res} (hf : P.funcs[f]? = some fn)
    (hb : fn.body = some (.seq (.region i0 #[⟨some d1, .call { callee := .builtin .recover, args := #[], argTypes := #[] }, ty1, pos1, af1, none⟩, ⟨some d2, .binOp .neq t (.tmp d1) (.const .nilIface) t2, ty2, pos2, af2, none⟩] false) (.cond (.tmp d2) c1 .skip)))
    (hn : fn.ntmps = n) (hle : Nat.ble A.length n = true) (h1 : Nat.ble (d1 + 1) n = true) (h2 : Nat.ble (d2 + 1) n = true) (hne : ∀ tx vx w, (binOp .neq t (.iface tx vx) .nilIface).run P w = .ok (.bool true) w)
    (h : ∀ E : Env, E.M = HA.flatMap Res.blk → CX E P c1 (bodyPost P fn (PostE E (fun _ : Unit => Vl (.tuple #[])) (fun _ => HR))) ⟨n, [], (d2, Vl (.bool true)) :: (d1, An) :: parL 0 A, HA⟩) : Catch P f A HA HR :=
  fun w U args tx vx hA ho hnd hap hlt hg => by
    subst hn
    obtain ⟨U1, hs⟩ := sym_enter (P := P) (n := fn.ntmps) hA ho hnd hap hlt hg (Nat.le_of_ble_eq_true hle)
    refine callsD_of_wpS hf hb fun c₀ cs hu => ?_
    generalize ({ tmps := args.toArray ++ Array.replicate (fn.ntmps - args.toArray.size) undef, defers := [] } : Act) = a0 at hs ⊢
    have hs1 := hs.put h1 (x := An) (v := .iface tx vx) trivial
    have hs2 := hs1.put h2 (x := Vl (.bool true)) (v := .bool true) rfl
    have hev : (a0.put (some d1) (.iface tx vx)).eval (.tmp d1) = .iface tx vx := by
      have hd : d1 < a0.tmps.size := by rw [hs.size]; exact Nat.le_of_ble_eq_true h1
      have := put_get (a := a0) (k := d1) (v := .iface tx vx) hd
      rw [if_pos rfl] at this
      simp [Act.eval, this]
    have hev2 : ((a0.put (some d1) (.iface tx vx)).put (some d2) (.bool true)).eval (.tmp d2) = .bool true := by
      have hd : d2 < (a0.put (some d1) (.iface tx vx)).tmps.size := by rw [hs1.size]; exact Nat.le_of_ble_eq_true h2
      have := put_get (a := a0.put (some d1) (.iface tx vx)) (k := d2) (v := .bool true) hd
      rw [if_pos rfl] at this
      simp [Act.eval, this]
    apply wpS_seq
    apply wpS_region
    have e1 : (execOp a0.eval ⟨some d1, .call { callee := .builtin .recover, args := #[], argTypes := #[] }, ty1, pos1, af1, none⟩).run P w = .ok .recover w := by
      simp [go_sem]
    have e2 : (execOp (a0.put (some d1) (.iface tx vx)).eval ⟨some d2, .binOp .neq t (.tmp d1) (.const .nilIface) t2, ty2, pos2, af2, none⟩).run P w = .ok (.value (.bool true)) w := by
      have hg : (eqGuard .neq t (.tmp d1) (.const .nilIface) (.iface tx vx) .nilIface).run P w = .ok () w := by simp [eqGuard]
      have e0 : (a0.put (some d1) (.iface tx vx)).eval (.const .nilIface) = .nilIface := rfl
      simp [execOp, hev, e0, hg, hne]
    have er : recoverD (c₀ :: cs) = some (.iface tx vx, { c₀ with mode := .panicking [{ v := .iface tx vx, recovered := true }] } :: cs) := by
      simp [recoverD, hu]
    show wpOpsS P _ _ [0, 1] _ _ _
    simp only [wpOpsS, List.getElem?_toArray, List.getElem?_cons_zero, List.getElem?_cons_succ, Region.wanted, e1, er, e2, if_true]
    show (Code.cond (.tmp d2) c1 .skip).wpS P _ _ _ w
    refine wpS_cond (t := true) hev2 ?_
    rw [if_pos rfl]
    refine wpS_of_wp (Code.wp_mono ?_ (h ⟨w, U, HA.flatMap Res.blk⟩ rfl _ _ ⟨U1, hs2⟩))
    intro e a' w' hq
    cases e with
    | normal => obtain ⟨hd, v, hv, hR⟩ := hq; exact ⟨hd, _, rfl, v, hv, rfl, hR⟩
    | ret => obtain ⟨hd, v, hv, hR⟩ := hq; exact ⟨hd, _, rfl, v, hv, rfl, hR⟩
    | panic ch => obtain ⟨hd, x, v, U', he, _⟩ := hq; cases he
    | outgrown => obtain ⟨x, v, U', he, _⟩ := hq; cases he
    | exit id => exact hq.elim
    | goto l => exact hq.elim
theorem tx_caught {fn : Func} {R : Ending → World → Prop} {f : Nat} {us : List Value} {HA HR H' : List Res} {fn' : Func} (hD : s.D = [⟨.fn (.func f) ⟨us⟩, #[]⟩]) (hc : Catch P f (us.map Vl) HA HR) (hf : P.funcs[f]? = some fn')
    (hn : (fn'.name == "runtime.NumGoroutine") = false) (hb : fn'.body.isNone = false) (is js : List Nat) (hnd : (is ++ js).Nodup) (hA : PickAt s.H is HA) (hJ : PickAt s.H js H')
    (k : TX E (bodyPost P fn R .ret) { s with D := [], H := HR ++ H' }) : PanQ E (bodyPostD P fn R) s := fun tx vx a w ⟨U, hs⟩ => by
  have hs' := hs.pickH (is ++ js) hnd (pick_app hA hJ)
  have hnd0 : ((HA ++ H').flatMap Res.blk).Nodup := hs'.nodup
  rw [List.flatMap_append, List.nodup_append] at hnd0
  have hn' : ¬ fn'.name = "runtime.NumGoroutine" := by simpa using hn
  have hb' : ¬ fn'.body = none := fun e => by rw [e] at hb; cases hb
  have hinv : (invoke (.fn (.func f) ⟨us⟩) #[]).run P w = .ok (.enter f ⟨us⟩) w := by
    simp [invoke, callFunc, hf, hn', hb']
  have hus : All2 (fun x v => x.R w U v) (us.map Vl) us := by
    have : ∀ l : List Value, All2 (fun x v => x.R w U v) (l.map Vl) l := fun l => by
      induction l with
      | nil => trivial
      | cons x l ih => exact ⟨rfl, ih⟩
    exact this us
  show Leaves P fn a.tmps R a.defers (.panicking (pch tx vx)) w
  rw [hs.defers, hD]
  refine leaves_cons (by simp) hinv ((hc w U us tx vx hus (fun q hq => hs'.own q (List.mem_append.2 (.inl hq))) hnd0.1 (fun q hq => hs'.apart q (List.mem_append.2 (.inl hq))) hs.lt hs.glob).mono ?_)
  rintro e u' w' ⟨hset, x, v, U', rfl, hr, ho, hnd', hap, hto, hlt, hfrom, hext⟩
  show Leaves P fn a.tmps R [] (settle u') w'
  rw [hset]
  have h2 := hs'.called (HA := HA) (H' := H') (List.Perm.refl _) ho hnd' hap hto hlt hfrom hext
  obtain ⟨_, v, h3, h4⟩ := k { a with defers := [] } w' ⟨U', { size := h2.size, defers := rfl, slot := h2.slot, own := h2.own, nodup := h2.nodup, apart := h2.apart, base := h2.base, lt := h2.lt, from0 := h2.from0, to0 := h2.to0, ext := h2.ext, glob := h2.glob }⟩
  exact ⟨v, h3, h4⟩
theorem pan_assert {X : Operand} {t tx ta te : TypeId} {x : SV} {u : TypeDesc} (hx : ev s.L X = some (If t x)) (hu : P.underlying ta = some u) (hni : ∀ m, u ≠ .interface m) (hne : Nat.beq t ta = false) (hrt : P.underlying P.rt.typeAssertionError = some (.pointer te)) :
    Pan P s ⟨dst, .typeAssert X tx ta false, ty, pos, af, g⟩ := fun E a w U hs => by
  obtain ⟨v, e1, hv⟩ := look_ev hs hx
  have hne' : ¬ t = ta := fun e => by subst e; simp at hne
  have key : ∃ ad : Addr, ∃ o : Obj, (Instr.typeAssert (.iface t v) tx ta false).run P w = .halt (.panic (.iface P.rt.typeAssertionError (.pointer (some ad)))) { w with heap := w.heap.push o } := by
    cases u <;> first | exact absurd rfl (hni _) | simp [Instr.typeAssert, run_underlying hu, hne', runtimePanic, elemOf, run_underlying hrt, newVar, newRow, goPanic] <;> exact ⟨_, rfl⟩
  obtain ⟨ad, o, h1⟩ := key
  refine ⟨P.rt.typeAssertionError, .pointer (some ad), { w with heap := w.heap.push o }, ?_, ext_push _ _⟩
  simp [execOp, e1, h1]
/-! #### values of several types -/
theorem imp_eq {x y : SV} (h : x = y) : Imp x y := h ▸ imp_refl
end
end Go.Sx
