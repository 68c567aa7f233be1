/-
  Steps of a walk over the symbolic state: operations that turn memory, in order and in regions that draw their order (by a plan). Ours; it knows no program.
-/
import Derived.Test.YtjgpiealnfbkcaaSxH
import Derived.OrdersHeld
import Derived.Recover
import Derived.Deep.AppendSrc
import Derived.Laws.MakeOwn
namespace Go.Sx
set_option linter.unusedVariables false
set_option linter.unusedSectionVars false
set_option linter.unusedSimpArgs false
variable [Gv]

/-! ### regions that draw: a plan -/
def noPanic (Q : Exit → Act → World → Prop) : Exit → Act → World → Prop
  | .panic _, _, _ => False
  | e, a, w => Q e a w

def SameB (Bs : List Nat) (w w' : World) : Prop := ∀ b ∈ Bs, w'.heap[b]? = w.heap[b]?
theorem SameB.refl (Bs : List Nat) (w : World) : SameB Bs w w := fun _ _ => rfl
theorem SameB.trans {Bs : List Nat} {a b c : World} (h : SameB Bs a b) (k : SameB Bs b c) : SameB Bs a c := fun x hx => (k x hx).trans (h x hx)

def Lev (Bs : List Nat) (l : Nat) (w w' : World) : Prop := (l = 0 → Ext [] w w') ∧ (l ≤ 1 → SameB Bs w w')
theorem Lev.refl (Bs : List Nat) (l : Nat) (w : World) : Lev Bs l w w := ⟨fun _ => Ext.refl _ _, fun _ => SameB.refl _ _⟩

def levOf : List (Nat × Nat) → Nat → Nat
  | [], _ => 0
  | (i, l) :: r, k => bif Nat.beq i k then l else levOf r k

def wpAnyX (P : Program) (ops : Array Oper) (Q : Exit → Act → World → Prop) (Bs : List Nat) (lev : Nat → Nat) : Nat → Array Bool → Act → World → Prop
  | 0, listed, a, w => Region.ready .any ops listed = [] ∧ Q .normal a w
  | f + 1, listed, a, w => (Region.ready .any ops listed = [] → Q .normal a w) ∧
      ∀ i ∈ Region.ready .any ops listed, wpOp P ops (noPanic Q) i (fun a' w' => Lev Bs (lev i) w w' ∧ wpAnyX P ops Q Bs lev f (listed.setIfInBounds i true) a' w') a w

section plans
variable {P : Program} {ops : Array Oper} {Q : Exit → Act → World → Prop} {Bs : List Nat} {lev : Nat → Nat}

theorem letsOut_q (h : LetsOut (noPanic Q)) : LetsOut Q := by
  obtain ⟨a, w, h⟩ := h
  exact ⟨a, w, h⟩

theorem oper_q {o : Oper} {K : Act → World → Prop} {a : Act} {w : World} (h : o.wp P a w K (noPanic Q)) : o.wp P a w K Q := by
  unfold Oper.wp at *
  generalize (execOp a.eval o).run P w = r at *
  cases r with
  | ok n w' =>
    cases n <;> simp only [Oper.upon] at h ⊢ <;>
      first
        | exact h
        | exact Calls.mono h (fun e w'' he => by
            cases e with
            | returned v => exact he
            | panicked c => exact he.elim
            | outgrown => exact letsOut_q he)
  | halt x w' =>
    cases x <;> simp only [Oper.upon] at h ⊢ <;> exact h.elim

theorem wpOp_q {i : Nat} {K : Act → World → Prop} {a : Act} {w : World} (h : wpOp P ops (noPanic Q) i K a w) : wpOp P ops Q i K a w := by
  unfold wpOp at *
  split
  · rename_i ho; simp only [ho] at h; exact h
  · rename_i o ho
    simp only [ho] at h
    split
    · rename_i hw
      simp only [hw, if_true] at h
      exact h.imp oper_q (fun ⟨x, y⟩ => ⟨x, letsOut_q y⟩)
    · rename_i hw; simp only [hw] at h; exact h

theorem wpAny_of_x : ∀ (fuel : Nat) (listed : Array Bool) (a : Act) (w : World), wpAnyX P ops Q Bs lev fuel listed a w → wpAny P .any ops Q fuel listed a w
  | 0, _, _, _, h => h
  | fuel + 1, _, _, _, h => ⟨h.1, fun i hi => wpOp_mono (fun a' w' h' => wpAny_of_x fuel _ a' w' h'.2) (wpOp_q (h.2 i hi))⟩

theorem yields_of {R : World → World → Prop} (htr : ∀ {a b c}, R a b → R b c → R a c) {o : Oper} {v : Value} {a : Act} {w w' : World} (h : YieldsIf P ops (fun x => R w x) o v a) (he : R w w') : YieldsIf P ops (fun x => R w' x) o v a :=
  h.imp (fun ⟨hw, hv⟩ => ⟨hw, fun x hx => hv x (htr he hx)⟩) id

def Closed (ops : Array Oper) (listed : Array Bool) : Prop := ∀ (j : Nat) oj, ops[j]? = some oj → listed.getD j false = true → ∀ e ∈ oj.after, Region.binds .any e = true → listed.getD e.on false = true

theorem Closed.set {listed : Array Bool} (h : Closed ops listed) {i : Nat} (hi : i ∈ Region.ready .any ops listed) : Closed ops (listed.setIfInBounds i true) := fun j oj hj hl e he hb => by
  obtain ⟨_, oi, hoi, hall⟩ := mem_ready.1 hi
  by_cases hij : i = j
  · subst hij
    have : oj = oi := Option.some.inj (hj.symm.trans hoi)
    subst this
    exact getD_set_true (hall e he hb)
  · rw [getD_set_ne false hij] at hl
    exact getD_set_true (h j oj hj hl e he hb)

def waitsB (ops : Array Oper) (i : Nat) : Nat → Nat → Bool
  | 0, _ => false
  | n + 1, j => match ops[j]? with
    | some oj => oj.after.any fun e => Region.binds .any e && (e.on == i || waitsB ops i n e.on)
    | none => false

theorem waits_out {listed : Array Bool} (hc : Closed ops listed) {i : Nat} (hi : listed.getD i false = false) : ∀ (n j : Nat) (oj : Oper), ops[j]? = some oj → waitsB ops i n j = true → (∀ e ∈ oj.after, Region.binds .any e = true → listed.getD e.on false = true) → False
  | 0, _, _, _, h, _ => by simp [waitsB] at h
  | n + 1, j, oj, hj, h, hall => by
    simp only [waitsB, hj] at h
    obtain ⟨e, he, hb⟩ := Array.any_eq_true'.1 h
    simp only [Bool.and_eq_true, Bool.or_eq_true, beq_iff_eq] at hb
    obtain ⟨hb1, hb2⟩ := hb
    have hl := hall e he hb1
    rcases hb2 with h2 | h2
    · rw [h2, hi] at hl; cases hl
    · cases hoe : ops[e.on]? with
      | none =>
        cases n with
        | zero => simp [waitsB] at h2
        | succ n => simp [waitsB, hoe] at h2
      | some oe => exact waits_out hc hi n e.on oe hoe h2 (fun e' he' hb' => hc e.on oe hoe hl e' he' hb')

theorem getD_false_of {listed : Array Bool} {i : Nat} (h : listed.getD i true = false) : listed.getD i false = false := by
  rcases Nat.lt_or_ge i listed.size with h' | h'
  · simp [h'] at h ⊢; exact h
  · simp [Array.getElem?_eq_none h'] at h

theorem wpAnyX_first {R : World → World → Prop} (hrf : ∀ w, R w w) (htr : ∀ {a b c}, R a b → R b c → R a c) {i : Nat} {oi : Oper} {v : Value} (hi : ops[i]? = some oi) (hsel : ∀ (j : Nat) (o : Oper) cs b, ops[j]? = some o → o.op ≠ .select cs b) :
    ∀ (fuel : Nat) (listed : Array Bool) (a : Act) (w : World), Closed ops listed →
      (∀ j, listed.getD j true = false → j ≠ i → (∀ w w', Lev Bs (lev j) w w' → R w w') ∨ waitsB ops i ops.size j = true) →
      (∀ j oj, ops[j]? = some oj → j ≠ i → listed.getD j true = false → (∀ e ∈ oj.after, Region.binds .any e = true → e.on ≠ i) → oi.apart ops oj = true) →
      i ∈ Region.ready .any ops listed → YieldsIf P ops (fun w' => R w w') oi v a →
      wpAnyX P ops Q Bs lev fuel (listed.setIfInBounds i true) (a.put oi.dst v) w → wpAnyX P ops Q Bs lev (fuel + 1) listed a w := by
  intro fuel
  induction fuel with
  | zero =>
    intro listed a w _ _ _ hr hy H
    refine ⟨fun h => (by rw [h] at hr; cases hr), fun j hj => ?_⟩
    by_cases hji : j = i
    · subst hji; exact hy.wpOp hi (hrf _) ⟨Lev.refl _ _ _, H⟩
    · have := ready_mono hj hji
      rw [H.1] at this
      cases this
  | succ fuel ih =>
    intro listed a w hcl hlate hfree hr hy H
    refine ⟨fun h => (by rw [h] at hr; cases hr), fun j hj => ?_⟩
    by_cases hji : j = i
    · subst hji; exact hy.wpOp hi (hrf _) ⟨Lev.refl _ _ _, H⟩
    · have h1 := H.2 j (ready_mono hj hji)
      obtain ⟨hjun, oj, hoj, hall⟩ := mem_ready.1 hj
      have hiun := getD_false_of (mem_ready.1 hr).1
      have hnot : ∀ e ∈ oj.after, Region.binds .any e = true → e.on ≠ i := fun e he hb heq => by
        have h1 := hall e he hb
        rw [heq, hiun] at h1
        cases h1
      have hlj : ∀ w w', Lev Bs (lev j) w w' → R w w' := by
        rcases hlate j hjun hji with h | h
        · exact h
        · exact (waits_out hcl hiun _ j oj hoj h hall).elim
      have h2 := wpOp_putIf hoj (hfree j oj hoj hji hjun hnot) (fun cs b => hsel i oi cs b hi) (fun cs b => hsel j oj cs b hoj) (fun _ _ _ h => h) hy h1
      have hun : ∀ k, (listed.setIfInBounds j true).getD k true = false → listed.getD k true = false := fun k hun => by
        by_cases hjk : j = k
        · subst hjk; exact hjun
        · rw [getD_set_ne true hjk] at hun; exact hun
      refine wpOp_mono (fun a' w' h3 => ⟨h3.2.1, ih (listed.setIfInBounds j true) a' w' (hcl.set hj) (fun k h hki => hlate k (hun k h) hki) (fun k ok hk hki h => hfree k ok hk hki (hun k h)) (ready_mono hr (Ne.symm hji))
        (yields_of (R := R) htr h3.1 (hlj _ _ h3.2.1)) ?_⟩) h2
      rw [Array.setIfInBounds_comm _ _ hji]
      exact h3.2.2

def wpPlan (P : Program) (ops : Array Oper) (Q : Exit → Act → World → Prop) (Bs : List Nat) (late : List (Nat × Nat)) : List (Nat × Nat) → Act → World → Prop
  | [], a, w => Q .normal a w
  | (i, 0) :: r, a, w => wpOp P ops (noPanic Q) i (fun a' w' => Lev Bs (levOf late i) w w' ∧ wpPlan P ops Q Bs late r a' w') a w
  | (i, 1) :: r, a, w => ∃ v, (∀ o, ops[i]? = some o → YieldsIf P ops (fun w' => Ext [] w w') o v a) ∧ wpPlan P ops Q Bs late r (a.put ((ops[i]?).bind (·.dst)) v) w
  | (i, _ + 2) :: r, a, w => ∃ v, (∀ o, ops[i]? = some o → YieldsIf P ops (fun w' => SameB Bs w w') o v a) ∧ wpPlan P ops Q Bs late r (a.put ((ops[i]?).bind (·.dst)) v) w

def planB (ops : Array Oper) (late : List (Nat × Nat)) : List (Nat × Nat) → Array Bool → Bool
  | [], listed => (Region.ready .any ops listed).isEmpty
  | (i, 0) :: r, listed => decide (Region.ready .any ops listed = [i]) && planB ops late r (listed.setIfInBounds i true)
  | (i, 1) :: r, listed => (Region.ready .any ops listed).contains i && Region.free .any ops listed i && ((List.range ops.size).all fun j => listed.getD j true || j == i || levOf late j == 0 || waitsB ops i ops.size j) && planB ops late r (listed.setIfInBounds i true)
  | (i, _ + 2) :: r, listed => (Region.ready .any ops listed).contains i && Region.free .any ops listed i && ((List.range ops.size).all fun j => listed.getD j true || j == i || Nat.ble (levOf late j) 1 || waitsB ops i ops.size j) && planB ops late r (listed.setIfInBounds i true)

theorem plan_sound {late : List (Nat × Nat)} (hsel : Region.noSelect ops = true) : ∀ (plan : List (Nat × Nat)) (listed : Array Bool) (a : Act) (w : World), listed.size = ops.size → Closed ops listed → planB ops late plan listed = true → wpPlan P ops Q Bs late plan a w →
    wpAnyX P ops Q Bs (levOf late) plan.length listed a w
  | [], listed, a, w, _, _, hB, h => ⟨by simpa [planB] using hB, h⟩
  | (i, 0) :: r, listed, a, w, hsz, hcl, hB, h => by
    simp only [planB, Bool.and_eq_true, decide_eq_true_eq] at hB
    refine ⟨fun h0 => (by rw [hB.1] at h0; cases h0), fun j hj => ?_⟩
    have hj0 := hj
    rw [hB.1] at hj
    have hji : j = i := by simpa using hj
    subst hji
    exact wpOp_mono (fun a' w' h' => ⟨h'.1, plan_sound hsel r _ _ _ (by simpa using hsz) (hcl.set hj0) hB.2 h'.2⟩) h
  | (i, 1) :: r, listed, a, w, hsz, hcl, hB, h => by
    simp only [planB, Bool.and_eq_true] at hB
    obtain ⟨⟨⟨h1, h2⟩, h4⟩, h5⟩ := hB
    have hr : i ∈ Region.ready .any ops listed := by simpa using h1
    obtain ⟨_, oi, hi, _⟩ := mem_ready.1 hr
    obtain ⟨v, hy, hk⟩ := h
    have hk' : wpPlan P ops Q Bs late r (a.put oi.dst v) w := by simpa [hi] using hk
    refine wpAnyX_first (R := fun w w' => Ext [] w w') (fun _ => Ext.refl _ _) (fun h k => h.trans k) (v := v) hi (Region.noSelect_spec hsel) _ _ _ _ hcl (fun j hun hji => ?_) (Region.free_spec hi h2) hr (hy oi hi) (plan_sound hsel r _ _ _ (by simpa using hsz) (hcl.set hr) h5 hk')
    have hjs : j < ops.size := by
      rcases Nat.lt_or_ge j ops.size with h' | h'
      · exact h'
      · rw [← hsz] at h'; simp [Array.getElem?_eq_none h'] at hun
    have h6 := List.all_eq_true.1 h4 j (List.mem_range.2 hjs)
    simp only [hun, Bool.false_or, Bool.or_eq_true, beq_iff_eq, hji, false_or] at h6
    rcases h6 with h6 | h6
    · exact .inl fun w w' hl => hl.1 h6
    · exact .inr h6
  | (i, n + 2) :: r, listed, a, w, hsz, hcl, hB, h => by
    simp only [planB, Bool.and_eq_true] at hB
    obtain ⟨⟨⟨h1, h2⟩, h4⟩, h5⟩ := hB
    have hr : i ∈ Region.ready .any ops listed := by simpa using h1
    obtain ⟨_, oi, hi, _⟩ := mem_ready.1 hr
    obtain ⟨v, hy, hk⟩ := h
    have hk' : wpPlan P ops Q Bs late r (a.put oi.dst v) w := by simpa [hi] using hk
    refine wpAnyX_first (R := fun w w' => SameB Bs w w') (fun _ => SameB.refl _ _) (fun h k => h.trans k) (v := v) hi (Region.noSelect_spec hsel) _ _ _ _ hcl (fun j hun hji => ?_) (Region.free_spec hi h2) hr (hy oi hi) (plan_sound hsel r _ _ _ (by simpa using hsz) (hcl.set hr) h5 hk')
    have hjs : j < ops.size := by
      rcases Nat.lt_or_ge j ops.size with h' | h'
      · exact h'
      · rw [← hsz] at h'; simp [Array.getElem?_eq_none h'] at hun
    have h6 := List.all_eq_true.1 h4 j (List.mem_range.2 hjs)
    simp only [hun, Bool.false_or, Bool.or_eq_true, beq_iff_eq, hji, false_or] at h6
    rcases h6 with h6 | h6
    · exact .inl fun w w' hl => hl.2 (Nat.le_of_ble_eq_true h6)
    · exact .inr h6

def planOk (ops : Array Oper) (late plan : List (Nat × Nat)) : Bool :=
  Region.noSelect ops && decide (plan.length = ops.size) && planB ops late plan (Array.replicate ops.size false)
theorem closed_none (n : Nat) : Closed ops (Array.replicate n false) := fun j oj hj hl => by
  exfalso
  rcases Nat.lt_or_ge j n with h | h
  · simp [h] at hl
  · simp [h] at hl
end plans

section
variable {E : Env} {P : Program} {Q : Exit → Act → World → Prop} {s : St} {ops : Array Oper} {rest : List Oper} {o : Oper} {Bs : List Nat} {late pl : List (Nat × Nat)} {ix : Nat}

abbrev PX (E : Env) (P : Program) (ops : Array Oper) (Q : Exit → Act → World → Prop) (Bs : List Nat) (late plan : List (Nat × Nat)) (s : St) : Prop := TX E (wpPlan P ops Q Bs late plan) s

theorem cx_plan {id : Nat} {l : List Oper} (Bs : List Nat) (late plan : List (Nat × Nat)) (hm : P.follows .mixedOrders = true) (hB : planOk l.toArray late plan = true) (h : PX E P l.toArray Q Bs late plan s) :
    CX E P (.region id l.toArray true) Q s := fun a w ⟨U, hs⟩ => by
  simp only [planOk, Bool.and_eq_true, decide_eq_true_eq] at hB
  refine wp_region_any hm ?_
  rw [← hB.1.2]
  refine wpAny_of_x (Bs := Bs) (lev := levOf late) _ _ _ _ (plan_sound hB.1.1 plan _ _ _ (by simp [hB.1.2]) (closed_none _) ?_ (h a _ ⟨U, hs.world (w' := { w with drawn := w.drawn + 1 }) (fun _ _ => rfl) (Nat.le_refl _) rfl rfl rfl⟩))
  rw [hB.1.2]; exact hB.2

theorem px_nil (h : TX E (Q .normal) s) : PX E P ops Q Bs late [] s := fun a w hs => h a w hs

theorem px_rd {d : Nat} {x : SV} (hi : ops[ix]? = some o) (hr : Rd P s o x) (hd : o.dst = some d) (hn : Nat.ble (d + 1) s.n = true) (hw : Wt ops s o true) (k : PX E P ops Q Bs late pl (s.put d x)) :
    PX E P ops Q Bs late ((ix, 1) :: pl) s := fun a w ⟨U, hs⟩ => by
  obtain ⟨v, hx, hrun⟩ := hr E a w U hs
  refine ⟨v, fun o' ho' => ?_, ?_⟩
  · rw [hi] at ho'; cases ho'
    exact .inl ⟨hw E a w U hs, fun w' hw' => hrun w' (fun k hk => hw'.block k hk (by simp))⟩
  · rw [hi]
    show wpPlan P ops Q Bs late pl (a.put o.dst v) w
    rw [hd]
    exact k _ _ ⟨U, hs.put hn hx⟩
def Rb (P : Program) (Bs : List Nat) (s : St) (o : Oper) (x : SV) : Prop :=
  ∀ E a w U, SymAt E s a w U → ∃ v, x.R w U v ∧ ∀ w', SameB Bs w w' → (execOp a.eval o).run P w' = .ok (.value v) w'
theorem px_rb {d : Nat} {x : SV} (hi : ops[ix]? = some o) (hr : Rb P Bs s o x) (hd : o.dst = some d) (hn : Nat.ble (d + 1) s.n = true) (hw : Wt ops s o true) (k : PX E P ops Q Bs late pl (s.put d x)) :
    PX E P ops Q Bs late ((ix, 2) :: pl) s := fun a w ⟨U, hs⟩ => by
  obtain ⟨v, hx, hrun⟩ := hr E a w U hs
  refine ⟨v, fun o' ho' => ?_, ?_⟩
  · rw [hi] at ho'; cases ho'
    exact .inl ⟨hw E a w U hs, fun w' hw' => hrun w' hw'⟩
  · rw [hi]
    show wpPlan P ops Q Bs late pl (a.put o.dst v) w
    rw [hd]
    exact k _ _ ⟨U, hs.put hn hx⟩
def VarSame (s : St) (w w' : World) : Prop := ∀ r ∈ s.H, r.row = none → ∀ b ∈ r.blk, w'.heap[b]? = w.heap[b]?
def OX (E : Env) (P : Program) (o : Oper) (lv : Nat) {X : Type} (S : X → St) (s : St) : Prop :=
  ∀ (Q : Exit → Act → World → Prop) a w U, SymAt E s a w U → ∀ K : Act → World → Prop, (∀ x a' w', Sym E (S x) a' w' → (lv = 0 → Ext [] w w') → (lv = 1 → VarSame s w w') → K a' w') → o.wp P a w K Q
def BsIn (H : List Res) (Bs : List Nat) : Prop := ∀ b ∈ Bs, ∃ r ∈ H, r.row = none ∧ b ∈ r.blk
theorem bs_nil {H : List Res} : BsIn H [] := fun _ h => by cases h
theorem bs_cons {H : List Res} {m : Nat} {r : Res} {q : Addr} {Bs : List Nat} (hm : H[m]? = some r) (hr : r.row = none) (hv : r.v = .pointer (some q)) (h : BsIn H Bs) : BsIn H (q.block :: Bs) := fun b hb => by
  rcases List.mem_cons.1 hb with e | e
  · subst e; exact ⟨r, List.mem_of_getElem? hm, hr, by simp [Res.blk, hv, blkOf]⟩
  · exact h b e

theorem sx_ox {l : Nat} {X : Type} {S : X → St} (h : OX E P o l S s) (hw : Wt ops s o true) (k : ∀ x, SX E P ops Q rest (S x)) : SX E P ops Q (o :: rest) s := fun a w ⟨U, hs⟩ => by
  refine wpList_step fun K hK => ?_
  rw [if_pos (hw E a w U hs)]
  exact h Q a w U hs K fun x a' w' hs' _ _ => hK _ _ (k x a' w' hs')
theorem px_ox {l : Nat} {X : Type} {S : X → St} (hi : ops[ix]? = some o) (h : OX E P o l S s) (hl : Nat.ble l (levOf late ix) = true) (hB : BsIn s.H Bs) (hw : Wt ops s o true) (k : ∀ x, PX E P ops Q Bs late pl (S x)) :
    PX E P ops Q Bs late ((ix, 0) :: pl) s := fun a w ⟨U, hs⟩ => by
  show wpOp _ _ _ _ _ _ _
  unfold wpOp
  rw [hi]
  show if _ then _ else _
  rw [if_pos (hw E a w U hs)]
  have hl' : l ≤ levOf late ix := Nat.le_of_ble_eq_true hl
  refine .inl (h _ a w U hs _ fun x a' w' hs' he hv => ⟨⟨fun h0 => he (by omega), fun h1 b hb => ?_⟩, k x a' w' hs'⟩)
  obtain ⟨r, hr, hrow, hbr⟩ := hB b hb
  by_cases h0 : l = 0
  · exact (he h0).block b (Res.lt (hs.own r hr) b hbr) (by simp)
  · exact hv (by omega) r hr hrow b hbr

/-! #### readers of variables -/
variable {dst : Option Tmp} {ty : TypeId} {pos : String} {af : Array Edge} {g : Option (Nat × Bool)}
theorem rb_move {X : Operand} {x : SV} (hx : ev s.L X = some x) : Rb P Bs s ⟨dst, .move X, ty, pos, af, g⟩ x := fun E a w U hs => ⟨_, look_ev hs hx, fun w' _ => rfl⟩
theorem rb_load {t : TypeId} {X : Operand} {i o : Nat} {r : Res} {q p : Addr} {x : SV} (hx : ev s.L X = some (Vl (.pointer (some p)))) (hr : AtRes s i r q p o) (hc : r.cs[o]? = some x) (ht : Flat P t) (hb : Bs.contains q.block = true) :
    Rb P Bs s ⟨dst, .load t X, ty, pos, af, g⟩ x := fun E a w U hs => by
  have e1 : a.eval X = .pointer (some p) := look_ev hs hx
  obtain ⟨b, vs, rfl, rfl, hb', hall, hlt⟩ := atRes_spec hs hr
  obtain ⟨v, hv, hR⟩ := hall.get hc
  refine ⟨v, hR.1, fun w' hw' => ?_⟩
  have hcell : w'.cell? ⟨b, o, none⟩ = some v := by simp [World.cell?, hw' b (by simpa using hb), hb', hv]
  simp [execOp, Instr.loadAt, Instr.sureAddr, loadVar, e1, run_isAgg_flat ht, hcell]
end
end Go.Sx
