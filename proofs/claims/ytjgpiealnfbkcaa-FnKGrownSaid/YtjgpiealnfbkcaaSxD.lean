/-
  Steps of a walk over the symbolic state: stores, calls, a function's entry and end, slices that the call makes. Ours; it knows no program.
-/
import Derived.Test.YtjgpiealnfbkcaaSxC
namespace Go.Sx
set_option linter.unusedVariables false
set_option linter.unusedSectionVars false
set_option linter.unusedSimpArgs false
variable [Gv]

theorem all2c_one {w : World} {U : Nat → Prop} : ∀ {l : List SV} {vs : List Value}, All2 (fun s v => s.C w U v) l vs → ∀ v ∈ vs, v.oneCell' = true
  | [], [], _, _, h => by simp at h
  | _ :: _, _ :: _, ⟨x, y⟩, v, h => by
    rcases List.mem_cons.1 h with e | e
    · subst e; exact x.2
    · exact all2c_one y v e
  | [], _ :: _, x, _, _ => x.elim
  | _ :: _, [], x, _, _ => x.elim

def evs (L : List (Nat × SV)) : List Operand → Option (List SV)
  | [] => some []
  | X :: r => match ev L X, evs L r with | some x, some l => some (x :: l) | _, _ => none

theorem evs_all2 {E : Env} {s : St} {a : Act} {w : World} {U : Nat → Prop} (h : SymAt E s a w U) : ∀ {Xs : List Operand} {l : List SV}, evs s.L Xs = some l → All2 (fun x v => x.R w U v) l (Xs.map a.eval)
  | [], l, hl => by simp [evs] at hl; subst hl; trivial
  | X :: r, l, hl => by
    simp only [evs] at hl
    cases hx : ev s.L X with
    | none => simp [hx] at hl
    | some x =>
      cases hr : evs s.L r with
      | none => simp [hx, hr] at hl
      | some m =>
        simp [hx, hr] at hl
        subst hl
        exact ⟨look_ev h hx, evs_all2 h hr⟩

/-! ### calls -/
def PostE (E : Env) {X : Type} (r : X → SV) (HR : X → List Res) (e : Ending) (w' : World) : Prop :=
  ∃ x v, ∃ U' : Nat → Prop, e = .returned v ∧ (r x).R w' U' v ∧ (∀ q ∈ HR x, q.own w' U') ∧ ((HR x).flatMap Res.blk).Nodup ∧
    (∀ q ∈ HR x, ∀ b ∈ q.blk, ¬ U' b ∧ (E.w0.heap.size ≤ b ∨ b ∈ E.M)) ∧ (∀ k, E.U0 k → U' k) ∧ (∀ k, U' k → k < w'.heap.size) ∧
    (∀ k, U' k → E.U0 k ∨ E.w0.heap.size ≤ k ∨ k ∈ E.M) ∧ Ext E.M E.w0 w'

def Fn (P : Program) (f : Nat) (A : List SV) (HA : List Res) {X : Type} (r : X → SV) (HR : X → List Res) : Prop :=
  ∀ (w : World) (U : Nat → Prop) (args : List Value), All2 (fun s v => s.R w U v) A args → (∀ q ∈ HA, q.own w U) → (HA.flatMap Res.blk).Nodup → (∀ q ∈ HA, ∀ b ∈ q.blk, ¬ U b) →
    (∀ k, U k → k < w.heap.size) → GOk w U → Calls P f args.toArray w (PostE ⟨w, U, HA.flatMap Res.blk⟩ r HR)
abbrev Fp (P : Program) (f : Nat) (A : List SV) (r : SV) : Prop := Fn P f A [] (fun _ : Unit => r) (fun _ => [])

def Imp (x y : SV) : Prop := ∀ w U v, x.R w U v → y.R w U v
theorem imp_refl {x : SV} : Imp x x := fun _ _ _ h => h
theorem imp_nil {α : Type} {K : Kd α} : Imp (Vl (.slice none 0 0)) (Sl K []) := fun w U v h => ⟨none, 0, h, Nat.le_refl _, fun hn => absurd rfl hn⟩
theorem Fn.args {P : Program} {f : Nat} {A A' : List SV} {HA : List Res} {X : Type} {r : X → SV} {HR : X → List Res} (h : Fn P f A HA r HR) (hi : All2 Imp A' A) : Fn P f A' HA r HR :=
  fun w U args ha => h w U args (by
    have key : ∀ {A' A : List SV} {args : List Value}, All2 Imp A' A → All2 (fun s v => s.R w U v) A' args → All2 (fun s v => s.R w U v) A args := by
      intro A' A args hi ha
      induction A' generalizing A args with
      | nil => cases A <;> cases args <;> first | trivial | exact hi.elim | exact ha.elim
      | cons x A' ih => cases A <;> cases args <;> first | exact hi.elim | exact ha.elim | exact ⟨hi.1 _ _ _ ha.1, ih hi.2 ha.2⟩
    exact key hi ha)

def parL : Nat → List SV → List (Nat × SV)
  | _, [] => []
  | i, x :: r => (i, x) :: parL (i + 1) r

theorem look_parL {l : List SV} : ∀ {i k : Nat} {x : SV}, look (parL i l) k = some x → i ≤ k ∧ l[k - i]? = some x := by
  induction l with
  | nil => intro i k x h; simp [parL, look] at h
  | cons y l ih =>
    intro i k x h
    simp only [parL, look] at h
    by_cases e : i = k
    · subst e
      have : Nat.beq i i = true := by simp
      rw [this] at h; simp at h; subst h
      exact ⟨Nat.le_refl _, by simp⟩
    · have hb : Nat.beq i k = false := by cases h' : Nat.beq i k with
        | false => rfl
        | true => exact absurd (Nat.eq_of_beq_eq_true h') e
      rw [hb] at h
      obtain ⟨h1, h2⟩ := ih h
      refine ⟨by omega, ?_⟩
      rw [show k - i = (k - (i + 1)) + 1 from by omega]
      simpa using h2

theorem sym_enter {P : Program} {A : List SV} {HA : List Res} {w : World} {U : Nat → Prop} {args : List Value} {n : Nat} (hA : All2 (fun s v => s.R w U v) A args) (ho : ∀ q ∈ HA, q.own w U)
    (hnd : (HA.flatMap Res.blk).Nodup) (hap : ∀ q ∈ HA, ∀ b ∈ q.blk, ¬ U b) (hlt : ∀ k, U k → k < w.heap.size) (hg : GOk w U) (hle : A.length ≤ n) :
    Sym ⟨w, U, HA.flatMap Res.blk⟩ ⟨n, [], parL 0 A, HA⟩ { tmps := args.toArray ++ Array.replicate (n - args.toArray.size) undef, defers := [] } w := by
  have hl := hA.length
  refine ⟨U, { size := ?_, defers := rfl, slot := ?_, own := ho, nodup := hnd, apart := hap, base := ?_, lt := hlt, from0 := fun k hk => .inl hk, to0 := fun k hk => hk, ext := Ext.refl _ _, glob := hg }⟩
  · simp; omega
  · intro k x hk
    obtain ⟨_, h2⟩ := look_parL hk
    obtain ⟨v, hv, hr⟩ := hA.get (by simpa using h2)
    refine ⟨v, ?_, hr⟩
    have hk' : k < args.length := (List.getElem?_eq_some_iff.1 hv).1
    simp only [Array.getElem?_append, List.size_toArray, hk', if_true]
    simpa using hv
  · intro q hq b hb
    exact .inr (List.mem_flatMap.2 ⟨q, hq, hb⟩)

theorem fn_of {P : Program} {f : Nat} {fn : Func} {c : Code} {n : Nat} {A : List SV} {HA : List Res} {X : Type} {r : X → SV} {HR : X → List Res} (hf : P.funcs[f]? = some fn) (hb : fn.body = some c) (hn : fn.ntmps = n)
    (hle : Nat.ble A.length n = true) (h : ∀ E : Env, E.M = HA.flatMap Res.blk → CX E P c (bodyPost P fn (PostE E r HR)) ⟨n, [], parL 0 A, HA⟩) : Fn P f A HA r HR :=
  fun w U args hA ho hnd hap hlt hg => by
    subst hn
    exact calls_of_wp hf hb (h ⟨w, U, HA.flatMap Res.blk⟩ rfl _ _ (sym_enter (P := P) hA ho hnd hap hlt hg (Nat.le_of_ble_eq_true hle)))

theorem SymAt.called {E : Env} {s : St} {a : Act} {w w' : World} {U U' : Nat → Prop} (h : SymAt E s a w U) {HA H' HB : List Res} (hH : s.H.Perm (HA ++ H'))
    (ho : ∀ q ∈ HB, q.own w' U') (hnd : (HB.flatMap Res.blk).Nodup) (hap : ∀ q ∈ HB, ∀ b ∈ q.blk, ¬ U' b ∧ (w.heap.size ≤ b ∨ b ∈ HA.flatMap Res.blk)) (hto : ∀ k, U k → U' k)
    (hlt : ∀ k, U' k → k < w'.heap.size) (hfrom : ∀ k, U' k → U k ∨ w.heap.size ≤ k ∨ k ∈ HA.flatMap Res.blk) (hext : Ext (HA.flatMap Res.blk) w w') :
    SymAt E { s with H := HB ++ H' } a w' U' := by
  have hmem : ∀ q, q ∈ s.H ↔ q ∈ HA ∨ q ∈ H' := fun q => by rw [hH.mem_iff, List.mem_append]
  have hnd0 : ((HA ++ H').flatMap Res.blk).Nodup := (hH.flatMap_right Res.blk).nodup_iff.1 h.nodup
  rw [List.flatMap_append, List.nodup_append] at hnd0
  obtain ⟨hnA, hnH, hdis⟩ := hnd0
  have hUA : ∀ k, U k → k ∉ HA.flatMap Res.blk := fun k hk hm => by
    obtain ⟨q, hq, hb⟩ := List.mem_flatMap.1 hm
    exact h.apart q ((hmem q).2 (.inl hq)) k hb hk
  have hUk : ∀ k, U k → w'.heap[k]? = w.heap[k]? := fun k hk => hext.block k (h.lt k hk) (hUA k hk)
  have hHA : ∀ k, k ∈ HA.flatMap Res.blk → E.w0.heap.size ≤ k ∨ k ∈ E.M := fun k hm => by
    obtain ⟨q, hq, hb⟩ := List.mem_flatMap.1 hm
    exact h.base q ((hmem q).2 (.inl hq)) k hb
  have hH' : ∀ q ∈ H', ∀ b ∈ q.blk, b < w.heap.size ∧ b ∉ HA.flatMap Res.blk := fun q hq b hb =>
    ⟨Res.lt (h.own q ((hmem q).2 (.inr hq))) b hb, fun hm => absurd rfl (hdis b hm b (List.mem_flatMap.2 ⟨q, hq, hb⟩))⟩
  exact {
    size := h.size, defers := h.defers
    slot := fun k x hk => by
      obtain ⟨v, hv, hr⟩ := h.slot k x hk
      exact ⟨v, hv, x.mono hto hUk hr⟩
    own := fun q hq => by
      rcases List.mem_append.1 hq with hq | hq
      · exact ho q hq
      · exact Res.own_mono hto hUk (fun b hb => hext.block b (hH' q hq b hb).1 (hH' q hq b hb).2) (h.own q ((hmem q).2 (.inr hq)))
    nodup := by
      show ((HB ++ H').flatMap Res.blk).Nodup
      rw [List.flatMap_append, List.nodup_append]
      refine ⟨hnd, hnH, fun b hb c hc e => ?_⟩
      subst e
      obtain ⟨q, hq, hbq⟩ := List.mem_flatMap.1 hb
      obtain ⟨p, hp, hbp⟩ := List.mem_flatMap.1 hc
      rcases (hap q hq b hbq).2 with h1 | h1
      · have := (hH' p hp b hbp).1; omega
      · exact (hH' p hp b hbp).2 h1
    apart := fun q hq b hb => by
      rcases List.mem_append.1 hq with hq | hq
      · exact (hap q hq b hb).1
      · intro hu
        rcases hfrom b hu with h1 | h1 | h1
        · exact h.apart q ((hmem q).2 (.inr hq)) b hb h1
        · have := (hH' q hq b hb).1; omega
        · exact (hH' q hq b hb).2 h1
    base := fun q hq b hb => by
      rcases List.mem_append.1 hq with hq | hq
      · rcases (hap q hq b hb).2 with h1 | h1
        · exact .inl (Nat.le_trans h.ext.size h1)
        · exact hHA b h1
      · exact h.base q ((hmem q).2 (.inr hq)) b hb
    lt := hlt
    from0 := fun k hk => by
      rcases hfrom k hk with h1 | h1 | h1
      · exact h.from0 k h1
      · exact .inr (.inl (Nat.le_trans h.ext.size h1))
      · exact .inr (hHA k h1)
    to0 := fun k hk => hto k (h.to0 k hk)
    glob := h.glob.mono hto hUk
    ext := ⟨hext.os.trans h.ext.os, hext.tape.trans h.ext.tape, hext.output.trans h.ext.output, Nat.le_trans h.ext.size hext.size, fun k hk hm =>
      (hext.block k (Nat.lt_of_lt_of_le hk h.ext.size) (fun hb => by
        rcases hHA k hb with h1 | h1
        · omega
        · exact hm h1)).trans (h.ext.block k hk hm)⟩ }

section calls
variable {E : Env} {P : Program} {Q : Exit → Act → World → Prop} {s : St} {ops : Array Oper} {rest : List Oper}
  {dst : Option Tmp} {ty : TypeId} {pos : String} {af : Array Edge} {g : Option (Nat × Bool)}

theorem exec_call {f : Nat} {fn : Func} {Xs : List Operand} {ts : Array TypeId} {ρ : Operand → Value} (hρ : ρ (.func f) = .func (.func f) #[] #[]) (hf : P.funcs[f]? = some fn) (hn : (fn.name == "runtime.NumGoroutine") = false)
    (hb : fn.body.isNone = false) (w : World) : (execOp ρ ⟨dst, .call { callee := .value (.func f), args := ⟨Xs⟩, argTypes := ts }, ty, pos, af, g⟩).run P w = .ok (.enter f (Xs.map ρ).toArray) w := by
  have hn' : ¬ fn.name = "runtime.NumGoroutine" := by simpa using hn
  have hb' : ¬ fn.body = none := fun e => by rw [e] at hb; cases hb
  simp [execOp, resolve, hρ, Deferred.ofValue, invoke, callFunc, hf, hn', hb']

theorem sx_call {f d : Nat} {fn : Func} {Xs : List Operand} {ts : Array TypeId} {A : List SV} {HA H' : List Res} {X : Type} {r : X → SV} {HR : X → List Res} (hc : Fn P f A HA r HR) (hf : P.funcs[f]? = some fn)
    (hn : (fn.name == "runtime.NumGoroutine") = false) (hb : fn.body.isNone = false) (ha : evs s.L Xs = some A) (hH : s.H.Perm (HA ++ H')) (hd : dst = some d) (hdn : Nat.ble (d + 1) s.n = true)
    (hw : Wt ops s ⟨dst, .call { callee := .value (.func f), args := ⟨Xs⟩, argTypes := ts }, ty, pos, af, g⟩ true)
    (k : ∀ x, SX E P ops Q rest { s with L := (d, r x) :: s.L, H := HR x ++ H' }) :
    SX E P ops Q (⟨dst, .call { callee := .value (.func f), args := ⟨Xs⟩, argTypes := ts }, ty, pos, af, g⟩ :: rest) s := fun a w ⟨U, hs⟩ => by
  refine wpList_step fun K hK => ?_
  rw [if_pos (hw E a w U hs)]
  unfold Oper.wp
  rw [exec_call rfl hf hn hb]
  have hmem : ∀ q ∈ HA, q ∈ s.H := fun q hq => (hH.mem_iff).2 (List.mem_append.2 (.inl hq))
  have hnd0 : ((HA ++ H').flatMap Res.blk).Nodup := (hH.flatMap_right Res.blk).nodup_iff.1 hs.nodup
  rw [List.flatMap_append, List.nodup_append] at hnd0
  refine (hc w U _ (evs_all2 hs ha) (fun q hq => hs.own q (hmem q hq)) hnd0.1 (fun q hq => hs.apart q (hmem q hq)) hs.lt hs.glob).mono ?_
  rintro e w' ⟨x, v, U', rfl, hr, ho, hnd, hap, hto, hlt, hfrom, hext⟩
  show K (a.put dst v) w'
  rw [hd]
  refine hK _ _ (k x _ _ ⟨U', ?_⟩)
  exact (hs.called hH ho hnd hap hto hlt hfrom hext).put (s := { s with H := HR x ++ H' }) hdn hr

def Det (r : SV) (u : Value) : Prop := ∀ w U v, r.R w U v ↔ v = u
theorem all2_vl_eq {w : World} {U : Nat → Prop} : ∀ (us vs : List Value), All2 (fun s v => s.R w U v) (us.map Vl) vs → vs = us
  | [], [], _ => rfl
  | [], _ :: _, h => h.elim
  | _ :: _, [], h => h.elim
  | u :: us, v :: vs, h => congr (congrArg _ h.1) (all2_vl_eq us vs h.2)
end calls

/-! ### a function's end -/
section rets
variable {E : Env} {P : Program} {s : St} {fn : Func} {X : Type} {r : X → SV} {HR : X → List Res}

def resOf (a : Act) : ResultVar → Sem Value
  | .tmp t => pure (a.tmps.getD t undef)
  | .cell ad t => do loadVar t (← asAddr (a.tmps.getD ad undef))
def Rv (P : Program) (s : St) (rv : ResultVar) (x : SV) : Prop := ∀ E a w U, SymAt E s a w U → ∃ v, x.R w U v ∧ (resOf a rv).run P w = .ok v w

theorem rv_tmp {t : Nat} {x : SV} (h : look s.L t = some x) : Rv P s (.tmp t) x := fun E a w U hs => by
  obtain ⟨v, hv, hr⟩ := hs.slot t x h
  exact ⟨v, hr, by simp [resOf, hv]⟩
theorem rv_cell {t : Nat} {ty : TypeId} {i o : Nat} {q : Res} {ad p : Addr} {x : SV} (hx : look s.L t = some (Vl (.pointer (some p)))) (hr : AtRes s i q ad p o) (hc : q.cs[o]? = some x) (ht : Flat P ty) :
    Rv P s (.cell t ty) x := fun E a w U hs => by
  obtain ⟨v, hv, e⟩ := hs.slot t _ hx
  have e' : v = .pointer (some p) := e
  subst e'
  obtain ⟨b, vs, rfl, rfl, hb, hall, hlt⟩ := atRes_spec hs hr
  obtain ⟨u, hu, hR⟩ := hall.get hc
  refine ⟨u, hR.1, ?_⟩
  have hcell : w.cell? ⟨b, o, none⟩ = some u := by simp [World.cell?, hb, hu]
  simp [resOf, hv, asAddr, loadVar, run_isAgg_flat ht, hcell]
def Keep (l H : List Res) : Prop := l.Sublist H
theorem sublist_flatMap {l m : List Res} (h : l.Sublist m) : (l.flatMap Res.blk).Sublist (m.flatMap Res.blk) := by
  induction h with
  | slnil => exact List.Sublist.refl _
  | cons a _ ih => simp only [List.flatMap_cons]; exact ih.trans (List.sublist_append_right _ _)
  | cons_cons a _ ih => simp only [List.flatMap_cons]; exact (List.Sublist.refl _).append ih
theorem andThen_assoc {α β γ : Type} (r : Result α) (f : α → World → Result β) (g : β → World → Result γ) : (r.andThen f).andThen g = r.andThen fun a w => (f a w).andThen g := by
  cases r <;> rfl

theorem post_of_sym {a : Act} {w : World} {U : Nat → Prop} (hs : SymAt E s a w U) (x : X) {v : Value} (hv : (r x).R w U v) (hH : Keep (HR x) s.H) : PostE E r HR (.returned v) w :=
  ⟨x, v, U, rfl, hv, fun q hq => hs.own q (hH.subset hq), (by
      have : ((HR x).flatMap Res.blk).Sublist (s.H.flatMap Res.blk) := by
        exact sublist_flatMap hH
      exact this.nodup hs.nodup),
    fun q hq b hb => ⟨hs.apart q (hH.subset hq) b hb, hs.base q (hH.subset hq) b hb⟩, hs.to0, hs.lt, hs.from0, hs.ext⟩

theorem tx_ret1 {rv : ResultVar} (hres : fn.results = #[rv]) (hD : s.D = []) (x : X) (h : Rv P s rv (r x)) (hH : Keep (HR x) s.H) : TX E (bodyPost P fn (PostE E r HR) .ret) s := fun a w ⟨U, hs⟩ => by
  obtain ⟨v, hv, hrun⟩ := h E a w U hs
  refine bodyPost_ret (v := v) ?_ (by rw [hs.defers, hD]) (post_of_sym hs x hv hH)
  have : (results fn a.tmps).run P w = (resOf a rv).run P w := by
    cases rv <;> simp [results, hres, resOf] <;> (cases (Sem.run P _ _) <;> rfl)
  rw [this]; exact hrun
theorem tx_ret2 {rv rv' : ResultVar} {y z : SV} (hres : fn.results = #[rv, rv']) (hD : s.D = []) (x : X) (h : Rv P s rv y) (h' : Rv P s rv' z) (hx : r x = Tu [y, z]) (hH : Keep (HR x) s.H) :
    TX E (bodyPost P fn (PostE E r HR) .ret) s := fun a w ⟨U, hs⟩ => by
  obtain ⟨v, hv, hrun⟩ := h E a w U hs
  obtain ⟨u, hu, hrun'⟩ := h' E a w U hs
  refine bodyPost_ret (v := .tuple #[v, u]) ?_ (by rw [hs.defers, hD]) (post_of_sym hs x (by rw [hx]; exact ⟨[v, u], rfl, hv, hu, trivial⟩) hH)
  have : (results fn a.tmps).run P w = ((resOf a rv).run P w).andThen fun v w => ((resOf a rv').run P w).andThen fun u w => .ok (.tuple #[v, u]) w := by
    cases rv <;> cases rv' <;> simp [results, hres, resOf, andThen_assoc]
  rw [this, hrun]; simp [hrun']
theorem tx_ret3 {rv rv' rv'' : ResultVar} {y z z' : SV} (hres : fn.results = #[rv, rv', rv'']) (hD : s.D = []) (x : X) (h : Rv P s rv y) (h' : Rv P s rv' z) (h'' : Rv P s rv'' z') (hx : r x = Tu [y, z, z']) (hH : Keep (HR x) s.H) :
    TX E (bodyPost P fn (PostE E r HR) .ret) s := fun a w ⟨U, hs⟩ => by
  obtain ⟨v, hv, hrun⟩ := h E a w U hs
  obtain ⟨u, hu, hrun'⟩ := h' E a w U hs
  obtain ⟨u', hu', hrun''⟩ := h'' E a w U hs
  refine bodyPost_ret (v := .tuple #[v, u, u']) ?_ (by rw [hs.defers, hD]) (post_of_sym hs x (by rw [hx]; exact ⟨[v, u, u'], rfl, hv, hu, hu', trivial⟩) hH)
  have : (results fn a.tmps).run P w = ((resOf a rv).run P w).andThen fun v w => ((resOf a rv').run P w).andThen fun u w => ((resOf a rv'').run P w).andThen fun u' w => .ok (.tuple #[v, u, u']) w := by
    cases rv <;> cases rv' <;> cases rv'' <;> simp [results, hres, resOf, andThen_assoc]
  rw [this, hrun]; simp [hrun', hrun'']
theorem tx_ret0 (hres : fn.results = #[]) (hD : s.D = []) (x : X) (hx : r x = Vl (.tuple #[])) (hH : Keep (HR x) s.H) : TX E (bodyPost P fn (PostE E r HR) .ret) s := fun a w ⟨U, hs⟩ =>
  bodyPost_ret (results_none hres _ _ _) (by rw [hs.defers, hD]) (post_of_sym hs x (by rw [hx]; rfl) hH)
theorem tx_end0 (hres : fn.results = #[]) (hD : s.D = []) (x : X) (hx : r x = Vl (.tuple #[])) (hH : Keep (HR x) s.H) : TX E (bodyPost P fn (PostE E r HR) .normal) s := fun a w ⟨U, hs⟩ =>
  bodyPost_end (results_none hres _ _ _) (by rw [hs.defers, hD]) (post_of_sym hs x (by rw [hx]; rfl) hH)
end rets
end Go.Sx
