/-
  Steps of a walk over the symbolic state: regions whose operations that turn memory may come in several orders. Ours; it knows no program.
-/
import Derived.Test.YtjgpiealnfbkcaaSxQ
namespace Go.Sx
set_option linter.unusedVariables false
set_option linter.unusedSectionVars false
set_option linter.unusedSimpArgs false
variable [Gv]

section
variable {E : Env} {P : Program} {Q : Exit → Act → World → Prop} {s : St} {ops : Array Oper} {rest : List Oper} {o : Oper} {Bs : List Nat} {late pl : List (Nat × Nat)} {ix : Nat}

def planTo (ops : Array Oper) (late : List (Nat × Nat)) : List (Nat × Nat) → Array Bool → Option (Array Bool)
  | [], listed => some listed
  | (i, 0) :: r, listed => if (decide (Region.ready .any ops listed = [i])) = true then planTo ops late r (listed.setIfInBounds i true) else none
  | (i, 1) :: r, listed => if ((Region.ready .any ops listed).contains i && Region.free .any ops listed i && ((List.range ops.size).all fun j => listed.getD j true || j == i || levOf late j == 0 || waitsB ops i ops.size j)) = true then planTo ops late r (listed.setIfInBounds i true) else none
  | (i, _ + 2) :: r, listed => if ((Region.ready .any ops listed).contains i && Region.free .any ops listed i && ((List.range ops.size).all fun j => listed.getD j true || j == i || Nat.ble (levOf late j) 1 || waitsB ops i ops.size j)) = true then planTo ops late r (listed.setIfInBounds i true) else none

def wpPlanA (P : Program) (ops : Array Oper) (Q : Exit → Act → World → Prop) (Bs : List Nat) (late : List (Nat × Nat)) (K : Act → World → Prop) : List (Nat × Nat) → Act → World → Prop := wpPlan P ops (Exit.then K Q) Bs late

theorem wpOp_then {K K' : Act → World → Prop} {i : Nat} {a : Act} {w : World} (h : wpOp P ops (noPanic (Exit.then K Q)) i K' a w) : wpOp P ops (noPanic Q) i K' a w := by
  unfold wpOp at *
  split
  · rename_i ho; simp only [ho] at h; exact h
  · rename_i o ho
    simp only [ho] at h
    split
    · rename_i hw
      simp only [hw, if_true] at h
      refine h.imp ?_ (fun ⟨x, a0, w0, y⟩ => ⟨x, a0, w0, y⟩)
      intro h0
      unfold Oper.wp at h0 ⊢
      generalize (execOp a.eval o).run P w = r at *
      cases r with
      | ok n w' =>
        cases n <;> simp only [Oper.upon] at h0 ⊢ <;>
          first
            | exact h0
            | exact Calls.mono h0 (fun e w'' he => by
                cases e with
                | returned v => exact he
                | panicked c => exact he
                | outgrown => exact he)
      | halt x w' => cases x <;> simp only [Oper.upon] at h0 ⊢ <;> first | exact h0 | exact h0.elim
    · rename_i hw; simp only [hw] at h; exact h

theorem planTo_sound (hsel : Region.noSelect ops = true) {f : Nat} {last : Array Bool} : ∀ (plan : List (Nat × Nat)) (listed : Array Bool) (a : Act) (w : World), listed.size = ops.size → Closed ops listed → planTo ops late plan listed = some last →
    wpPlan P ops (Exit.then (wpAnyX P ops Q Bs (levOf late) f last) Q) Bs late plan a w → wpAnyX P ops Q Bs (levOf late) (f + plan.length) listed a w
  | [], listed, a, w, _, _, hB, h => by simp only [planTo, Option.some.injEq] at hB; subst hB; exact h
  | (i, 0) :: r, listed, a, w, hsz, hcl, hB, h => by
    simp only [planTo] at hB
    split at hB
    · rename_i hr0
      simp only [decide_eq_true_eq] at hr0
      refine ⟨fun h0 => (by rw [hr0] at h0; cases h0), fun j hj => ?_⟩
      have hj0 := hj
      rw [hr0] at hj
      have hji : j = i := by simpa using hj
      subst hji
      exact wpOp_mono (fun a' w' h' => ⟨h'.1, planTo_sound hsel r _ _ _ (by simpa using hsz) (hcl.set hj0) hB h'.2⟩) (wpOp_then h)
    · cases hB
  | (i, 1) :: r, listed, a, w, hsz, hcl, hB, h => by
    simp only [planTo] at hB
    split at hB
    · rename_i hc
      simp only [Bool.and_eq_true] at hc
      obtain ⟨⟨h1, h2⟩, h4⟩ := hc
      have hr : i ∈ Region.ready .any ops listed := by simpa using h1
      obtain ⟨_, oi, hi, _⟩ := mem_ready.1 hr
      obtain ⟨v, hy, hk⟩ := h
      have hk' : wpPlan P ops (Exit.then (wpAnyX P ops Q Bs (levOf late) f last) Q) Bs late r (a.put oi.dst v) w := by simpa [hi] using hk
      refine wpAnyX_first (R := fun w w' => Ext [] w w') (fun _ => Ext.refl _ _) (fun h k => h.trans k) (v := v) hi (Region.noSelect_spec hsel) _ _ _ _ hcl (fun j hun hji => ?_) (Region.free_spec hi h2) hr (hy oi hi) (planTo_sound hsel r _ _ _ (by simpa using hsz) (hcl.set hr) hB hk')
      have hjs : j < ops.size := by
        rcases Nat.lt_or_ge j ops.size with h' | h'
        · exact h'
        · rw [← hsz] at h'; simp [Array.getElem?_eq_none h'] at hun
      have h6 := List.all_eq_true.1 h4 j (List.mem_range.2 hjs)
      simp only [hun, Bool.false_or, Bool.or_eq_true, beq_iff_eq, hji, false_or] at h6
      rcases h6 with h6 | h6
      · exact .inl fun w w' hl => hl.1 h6
      · exact .inr h6
    · cases hB
  | (i, n + 2) :: r, listed, a, w, hsz, hcl, hB, h => by
    simp only [planTo] at hB
    split at hB
    · rename_i hc
      simp only [Bool.and_eq_true] at hc
      obtain ⟨⟨h1, h2⟩, h4⟩ := hc
      have hr : i ∈ Region.ready .any ops listed := by simpa using h1
      obtain ⟨_, oi, hi, _⟩ := mem_ready.1 hr
      obtain ⟨v, hy, hk⟩ := h
      have hk' : wpPlan P ops (Exit.then (wpAnyX P ops Q Bs (levOf late) f last) Q) Bs late r (a.put oi.dst v) w := by simpa [hi] using hk
      refine wpAnyX_first (R := fun w w' => SameB Bs w w') (fun _ => SameB.refl _ _) (fun h k => h.trans k) (v := v) hi (Region.noSelect_spec hsel) _ _ _ _ hcl (fun j hun hji => ?_) (Region.free_spec hi h2) hr (hy oi hi) (planTo_sound hsel r _ _ _ (by simpa using hsz) (hcl.set hr) hB hk')
      have hjs : j < ops.size := by
        rcases Nat.lt_or_ge j ops.size with h' | h'
        · exact h'
        · rw [← hsz] at h'; simp [Array.getElem?_eq_none h'] at hun
      have h6 := List.all_eq_true.1 h4 j (List.mem_range.2 hjs)
      simp only [hun, Bool.false_or, Bool.or_eq_true, beq_iff_eq, hji, false_or] at h6
      rcases h6 with h6 | h6
      · exact .inl fun w w' hl => hl.2 (Nat.le_of_ble_eq_true h6)
      · exact .inr h6
    · cases hB

def planToOk (ops : Array Oper) (late plan : List (Nat × Nat)) (f : Nat) (last : Array Bool) : Bool :=
  Region.noSelect ops && decide (f + plan.length = ops.size) && decide (planTo ops late plan (Array.replicate ops.size false) = some last)
abbrev AX (E : Env) (P : Program) (ops : Array Oper) (Q : Exit → Act → World → Prop) (Bs : List Nat) (late : List (Nat × Nat)) (f : Nat) (listed : Array Bool) (s : St) : Prop := TX E (wpAnyX P ops Q Bs (levOf late) f listed) s

theorem cx_plana {id : Nat} {l : List Oper} (Bs : List Nat) (late plan : List (Nat × Nat)) (f : Nat) (last : Array Bool) (hm : P.follows .mixedOrders = true) (hB : planToOk l.toArray late plan f last = true)
    (h : PX E P l.toArray (Exit.then (wpAnyX P l.toArray Q Bs (levOf late) f last) Q) Bs late plan s) : CX E P (.region id l.toArray true) Q s := fun a w ⟨U, hs⟩ => by
  simp only [planToOk, Bool.and_eq_true, decide_eq_true_eq] at hB
  refine wp_region_any hm ?_
  rw [← hB.1.2]
  refine wpAny_of_x (Bs := Bs) (lev := levOf late) _ _ _ _ (planTo_sound hB.1.1 plan _ _ _ (by simp [hB.1.2]) (closed_none _) ?_ (h a _ ⟨U, hs.world (w' := { w with drawn := w.drawn + 1 }) (fun _ _ => rfl) (Nat.le_refl _) rfl rfl rfl⟩))
  rw [hB.1.2]; exact hB.2

theorem ax_node {f f' : Nat} {listed : Array Bool} (listed' : Array Bool) {X : Type} (J : X → St) (h2 : ∀ v, AX E P ops Q Bs late f' listed' (J v)) (h1 : (∀ v, AX E P ops Q Bs late f' listed' (J v)) → AX E P ops Q Bs late f listed s) :
    AX E P ops Q Bs late f listed s := h1 h2
theorem ax_nil {listed : Array Bool} (hr : Region.ready .any ops listed = []) (h : TX E (Q .normal) s) : AX E P ops Q Bs late 0 listed s := fun a w hs => ⟨hr, h a w hs⟩
def AllOf (E : Env) (P : Program) (ops : Array Oper) (Q : Exit → Act → World → Prop) (Bs : List Nat) (late : List (Nat × Nat)) (f : Nat) (listed : Array Bool) (s : St) : List Nat → Prop
  | [] => True
  | i :: r => TX E (fun a w => wpOp P ops (noPanic Q) i (fun a' w' => Lev Bs (levOf late i) w w' ∧ wpAnyX P ops Q Bs (levOf late) f (listed.setIfInBounds i true) a' w') a w) s ∧ AllOf E P ops Q Bs late f listed s r
theorem ax_all {f : Nat} {listed : Array Bool} {i : Nat} {is : List Nat} (hr : Region.ready .any ops listed = i :: is) (h : AllOf E P ops Q Bs late f listed s (i :: is)) : AX E P ops Q Bs late (f + 1) listed s := fun a w hs => by
  refine ⟨fun h0 => (by rw [hr] at h0; cases h0), fun j hj => ?_⟩
  rw [hr] at hj
  have key : ∀ {l : List Nat}, AllOf E P ops Q Bs late f listed s l → j ∈ l → wpOp P ops (noPanic Q) j (fun a' w' => Lev Bs (levOf late j) w w' ∧ wpAnyX P ops Q Bs (levOf late) f (listed.setIfInBounds j true) a' w') a w := by
    intro l
    induction l with
    | nil => intro _ h; cases h
    | cons i l ih =>
      intro h hm
      rcases List.mem_cons.1 hm with e | e
      · subst e; exact h.1 a w hs
      · exact ih h.2 e
  exact key h hj
abbrev NX (E : Env) (P : Program) (ops : Array Oper) (Q : Exit → Act → World → Prop) (Bs : List Nat) (late : List (Nat × Nat)) (f : Nat) (listed : Array Bool) (i : Nat) (s : St) : Prop :=
  TX E (fun a w => wpOp P ops (noPanic Q) i (fun a' w' => Lev Bs (levOf late i) w w' ∧ wpAnyX P ops Q Bs (levOf late) f (listed.setIfInBounds i true) a' w') a w) s
theorem all_nil {f : Nat} {listed : Array Bool} : AllOf E P ops Q Bs late f listed s [] := trivial
theorem all_cons {f : Nat} {listed : Array Bool} {i : Nat} {is : List Nat} (h : NX E P ops Q Bs late f listed i s) (h' : AllOf E P ops Q Bs late f listed s is) : AllOf E P ops Q Bs late f listed s (i :: is) := ⟨h, h'⟩

theorem nx_ox {f : Nat} {listed last : Array Bool} {l : Nat} {X : Type} {S : X → St} (hi : ops[ix]? = some o) (h : OX E P o l S s) (hl : Nat.ble l (levOf late ix) = true) (hB : BsIn s.H Bs) (hw : Wt ops s o true) (hlast : listed.setIfInBounds ix true = last)
    (k : ∀ x, AX E P ops Q Bs late f last (S x)) : NX E P ops Q Bs late f listed ix s := fun a w ⟨U, hs⟩ => by
  subst hlast
  show wpOp _ _ _ _ _ _ _
  unfold wpOp
  rw [hi]
  show if _ then _ else _
  rw [if_pos (hw E a w U hs)]
  have hl' : l ≤ levOf late ix := Nat.le_of_ble_eq_true hl
  refine .inl (h _ a w U hs _ fun x a' w' hs' he hv => ⟨⟨fun h0 => he (by omega), fun h1 b hb => ?_⟩, k x a' w' hs'⟩)
  obtain ⟨r, hr, hrow, hbr⟩ := hB b hb
  by_cases h0 : l = 0
  · exact (he h0).block b (Res.lt (hs.own r hr) b hbr) (by simp)
  · exact hv (by omega) r hr hrow b hbr
theorem nx_rd {f : Nat} {listed last : Array Bool} {d : Nat} {x : SV} (hi : ops[ix]? = some o) (hr : Rd P s o x) (hd : o.dst = some d) (hn : Nat.ble (d + 1) s.n = true) (hw : Wt ops s o true) (hlast : listed.setIfInBounds ix true = last)
    (k : AX E P ops Q Bs late f last (s.put d x)) : NX E P ops Q Bs late f listed ix s := fun a w ⟨U, hs⟩ => by
  subst hlast
  show wpOp _ _ _ _ _ _ _
  unfold wpOp
  rw [hi]
  show if _ then _ else _
  rw [if_pos (hw E a w U hs)]
  obtain ⟨v, hx, hrun⟩ := hr E a w U hs
  refine .inl ?_
  unfold Oper.wp
  rw [hrun w (fun _ _ => rfl)]
  show Lev _ _ _ _ ∧ _
  rw [hd]
  exact ⟨Lev.refl _ _ _, k _ _ ⟨U, hs.put hn hx⟩⟩
def firstOk (ops : Array Oper) (late : List (Nat × Nat)) (fl i : Nat) (listed : Array Bool) : Bool :=
  Region.noSelect ops && decide (listed.size = ops.size) && ((List.range ops.size).all fun j => !(listed.getD j false) || ((ops[j]?).map fun o => o.after.all fun e => !(Region.binds .any e) || listed.getD e.on false).getD true) &&
  (Region.ready .any ops listed).contains i && Region.free .any ops listed i && ((List.range ops.size).all fun j => listed.getD j true || j == i || Nat.ble (levOf late j + 1) fl || waitsB ops i ops.size j)
theorem closed_of {listed : Array Bool} (h : ((List.range ops.size).all fun j => !(listed.getD j false) || ((ops[j]?).map fun o => o.after.all fun e => !(Region.binds .any e) || listed.getD e.on false).getD true) = true) : Closed ops listed := fun j oj hj hl e he hb => by
  have hjs : j < ops.size := (Array.getElem?_eq_some_iff.1 hj).1
  have h1 := List.all_eq_true.1 h j (List.mem_range.2 hjs)
  rw [hl, hj] at h1
  simp only [Bool.not_true, Bool.false_or, Option.map_some, Option.getD_some] at h1
  have h2 := Array.all_eq_true_iff_forall_mem.1 h1 e he
  rw [hb] at h2
  simpa using h2
theorem ax_rd {f : Nat} {listed last : Array Bool} {d : Nat} {x : SV} (hB : firstOk ops late 1 ix listed = true) (hi : ops[ix]? = some o) (hr : Rd P s o x) (hd : o.dst = some d) (hn : Nat.ble (d + 1) s.n = true) (hw : Wt ops s o true)
    (hlast : listed.setIfInBounds ix true = last) (k : AX E P ops Q Bs late f last (s.put d x)) : AX E P ops Q Bs late (f + 1) listed s := fun a w ⟨U, hs⟩ => by
  subst hlast
  simp only [firstOk, Bool.and_eq_true, decide_eq_true_eq] at hB
  obtain ⟨⟨⟨⟨⟨hsel, hsz⟩, hcl⟩, h1⟩, h2⟩, h4⟩ := hB
  have hr' : ix ∈ Region.ready .any ops listed := by simpa using h1
  obtain ⟨v, hx, hrun⟩ := hr E a w U hs
  have hy : YieldsIf P ops (fun w' => Ext [] w w') o v a := .inl ⟨hw E a w U hs, fun w' hw' => hrun w' (fun k hk => hw'.block k hk (by simp))⟩
  refine wpAnyX_first (R := fun w w' => Ext [] w w') (fun _ => Ext.refl _ _) (fun h k => h.trans k) (v := v) hi (Region.noSelect_spec hsel) _ _ _ _ (closed_of hcl) (fun j hun hji => ?_) (Region.free_spec hi h2) hr' hy ?_
  · have hjs : j < ops.size := by
      rcases Nat.lt_or_ge j ops.size with h' | h'
      · exact h'
      · rw [← hsz] at h'; simp [Array.getElem?_eq_none h'] at hun
    have h6 := List.all_eq_true.1 h4 j (List.mem_range.2 hjs)
    simp only [hun, Bool.false_or, Bool.or_eq_true, beq_iff_eq, hji, false_or] at h6
    rcases h6 with h6 | h6
    · exact .inl fun w w' hl => hl.1 (by have := Nat.le_of_ble_eq_true h6; omega)
    · exact .inr h6
  · rw [hd]; exact k _ _ ⟨U, hs.put hn hx⟩
def OXV (E : Env) (P : Program) (o : Oper) (i : Nat) {X : Type} (S : X → St) (s : St) : Prop :=
  ∀ (Q : Exit → Act → World → Prop) a w U, SymAt E s a w U → ∀ K : Act → World → Prop, (∀ x a' w', Sym E (S x) a' w' → (∀ r, s.H[i]? = some r → ∀ k, k < w.heap.size → k ∉ r.blk → w'.heap[k]? = w.heap[k]?) → K a' w') → o.wp P a w K Q
section
variable {dst : Option Tmp} {ty : TypeId} {pos : String} {af : Array Edge} {g : Option (Nat × Bool)}
theorem oxv_store {t : TypeId} {X V : Operand} {x : SV} {l : List SV} {i o : Nat} {r : Res} {q p : Addr} {z : Option Value} {bytes : Nat} (hx : ev s.L X = some (Vl (.pointer (some p)))) (hv : ev s.L V = some x) (hl : Lv x l)
    (hr : AtRes s i r q p o) (hle : Nat.ble (o + l.length) r.cs.length = true) (hz : (P.info? t).map (fun i => (i.zero, i.size, i.bytes)) = some (z, l.length, bytes)) (hd : dst = none)
    {H' : List Res} (hH' : s.H.set i { r with cs := putS r.cs o l } = H') :
    OXV E P ⟨dst, .store t X V, ty, pos, af, g⟩ i (fun _ : Unit => { s with H := H' }) s := fun Q a w U hs K k => by
  subst hH'
  have e1 : a.eval X = .pointer (some p) := look_ev hs hx
  obtain ⟨us, hus, hall⟩ := hl w U _ (look_ev hs hv)
  obtain ⟨b, vs, hq, rfl, hb, hvs, hlt⟩ := atRes_spec hs hr
  have hr0 := hr
  obtain ⟨hi, hrv, hrow, _⟩ := hr0
  have hlen := hvs.length
  have hlen' := hall.length
  have hle' : o + l.length ≤ r.cs.length := Nat.le_of_ble_eq_true hle
  obtain ⟨w', h1, h2, h3, h4, h5, h6, h7⟩ := storeCells_run (P := P) (off := o) (us := us) hb (by omega) (all2c_one hall)
  unfold Oper.wp
  have hrun : (execOp a.eval ⟨dst, .store t X V, ty, pos, af, g⟩).run P w = .ok .skip w' := by
    cases hinfo : P.info? t with
    | none => rw [hinfo] at hz; simp at hz
    | some inf =>
      rw [hinfo] at hz; simp at hz
      simp [execOp, Instr.storeAt, Instr.sureAddr, storeVar, e1, hus, sizeOf, typeInfo, hinfo, hz.2.1, hlen', h1]
  rw [hrun]
  show K (a.put dst undef) w'
  rw [hd]
  have hblk : r.blk = [b] := by simp [Res.blk, hrv, hq, blkOf]
  have hk' : ∀ k, k < w.heap.size → k ∉ r.blk → w'.heap[k]? = w.heap[k]? := fun k _ hk => h7 k (fun e => hk (by rw [hblk]; simp [e]))
  have hUk : ∀ k, U k → w'.heap[k]? = w.heap[k]? := fun k hU => hk' k (hs.lt k hU) (fun hm => hs.apart r (List.mem_of_getElem? hi) k hm hU)
  refine k () _ _ ⟨U, ?_⟩ (fun r' hr' => by rw [hi] at hr'; cases hr'; exact hk')
  refine hs.reown hi { r with cs := putS r.cs o l } rfl ?_ h3 h4 h5 (Nat.le_of_eq h6.symm) hk'
  simp only [Res.own, hrow]
  refine ⟨b, _, by rw [hrv, hq], h2, ?_⟩
  exact all2c_mono (fun _ h => h) hUk (all2_putS hvs hall o)


end
def BsOut (H : List Res) (i : Nat) (Bs : List Nat) : Prop := ∀ b ∈ Bs, ∃ (m : Nat) (r : Res), m ≠ i ∧ H[m]? = some r ∧ b ∈ r.blk
theorem bo_nil {H : List Res} {i : Nat} : BsOut H i [] := fun _ h => by cases h
theorem bo_cons {H : List Res} {i m : Nat} {r : Res} {q : Addr} {Bs : List Nat} (hmi : m ≠ i) (hm : H[m]? = some r) (hv : r.v = .pointer (some q)) (h : BsOut H i Bs) : BsOut H i (q.block :: Bs) := fun b hb => by
  rcases List.mem_cons.1 hb with e | e
  · subst e; exact ⟨m, r, hmi, hm, by simp [Res.blk, hv, blkOf]⟩
  · exact h b e
theorem oxv_same {i : Nat} {w w' : World} {a : Act} {U : Nat → Prop} (hs : SymAt E s a w U) (hi : ∃ r, s.H[i]? = some r) (hB : BsOut s.H i Bs) (h : ∀ r, s.H[i]? = some r → ∀ k, k < w.heap.size → k ∉ r.blk → w'.heap[k]? = w.heap[k]?) : SameB Bs w w' := fun b hb => by
  obtain ⟨r, hr⟩ := hi
  obtain ⟨m, q, hm, hq, hbq⟩ := hB b hb
  exact h r hr b (Res.lt (hs.own q (List.mem_of_getElem? hq)) b hbq) (fun hbr => hm (nodup_unique hs.nodup hq hr hbq hbr))
theorem px_oxv {i : Nat} {X : Type} {S : X → St} {r : Res} (hi : ops[ix]? = some o) (h : OXV E P o i S s) (hr : s.H[i]? = some r) (hl : Nat.ble 1 (levOf late ix) = true) (hB : BsOut s.H i Bs) (hw : Wt ops s o true) (k : ∀ x, PX E P ops Q Bs late pl (S x)) :
    PX E P ops Q Bs late ((ix, 0) :: pl) s := fun a w ⟨U, hs⟩ => by
  show wpOp _ _ _ _ _ _ _
  unfold wpOp
  rw [hi]
  show if _ then _ else _
  rw [if_pos (hw E a w U hs)]
  have hl' : 1 ≤ levOf late ix := Nat.le_of_ble_eq_true hl
  exact .inl (h _ a w U hs _ fun x a' w' hs' he => ⟨⟨fun h0 => by omega, fun _ => oxv_same hs ⟨r, hr⟩ hB he⟩, k x a' w' hs'⟩)
theorem nx_oxv {f : Nat} {listed last : Array Bool} {i : Nat} {X : Type} {S : X → St} {r : Res} (hi : ops[ix]? = some o) (h : OXV E P o i S s) (hr : s.H[i]? = some r) (hl : Nat.ble 1 (levOf late ix) = true) (hB : BsOut s.H i Bs) (hw : Wt ops s o true) (hlast : listed.setIfInBounds ix true = last)
    (k : ∀ x, AX E P ops Q Bs late f last (S x)) : NX E P ops Q Bs late f listed ix s := fun a w ⟨U, hs⟩ => by
  subst hlast
  show wpOp _ _ _ _ _ _ _
  unfold wpOp
  rw [hi]
  show if _ then _ else _
  rw [if_pos (hw E a w U hs)]
  have hl' : 1 ≤ levOf late ix := Nat.le_of_ble_eq_true hl
  exact .inl (h _ a w U hs _ fun x a' w' hs' he => ⟨⟨fun h0 => by omega, fun _ => oxv_same hs ⟨r, hr⟩ hB he⟩, k x a' w' hs'⟩)

/-! #### calls that are given some of the memory: the variables that they are not given stay as they were -/
def BsOutL (H : List Res) (is : List Nat) (Bs : List Nat) : Prop := ∀ b ∈ Bs, ∃ (m : Nat) (r : Res), m ∉ is ∧ H[m]? = some r ∧ b ∈ r.blk
theorem bl_nil {H : List Res} {is : List Nat} : BsOutL H is [] := fun _ h => by cases h
def OXB (E : Env) (P : Program) (o : Oper) (HA : List Res) {X : Type} (S : X → St) (s : St) : Prop :=
  ∀ (Q : Exit → Act → World → Prop) a w U, SymAt E s a w U → ∀ K : Act → World → Prop, (∀ x a' w', Sym E (S x) a' w' → Ext (HA.flatMap Res.blk) w w' → K a' w') → o.wp P a w K Q
theorem same_given {is : List Nat} {HA : List Res} {w w' : World} {a : Act} {U : Nat → Prop} (hs : SymAt E s a w U) (hA : PickAt s.H is HA) (hB : BsOutL s.H is Bs) (he : Ext (HA.flatMap Res.blk) w w') : SameB Bs w w' := fun b hb => by
  obtain ⟨m, q, hm, hq, hbq⟩ := hB b hb
  refine he.block b (Res.lt (hs.own q (List.mem_of_getElem? hq)) b hbq) fun hmem => ?_
  obtain ⟨r, hr, hbr⟩ := List.mem_flatMap.1 hmem
  obtain ⟨i, hi, hri⟩ := pick_mem hA r hr
  have e := nodup_unique hs.nodup hq hri hbq hbr
  subst e
  exact hm hi
theorem px_oxb {is : List Nat} {HA : List Res} {X : Type} {S : X → St} (hi : ops[ix]? = some o) (h : OXB E P o HA S s) (hA : PickAt s.H is HA) (hl : Nat.ble 1 (levOf late ix) = true) (hB : BsOutL s.H is Bs) (hw : Wt ops s o true) (k : ∀ x, PX E P ops Q Bs late pl (S x)) :
    PX E P ops Q Bs late ((ix, 0) :: pl) s := fun a w ⟨U, hs⟩ => by
  show wpOp _ _ _ _ _ _ _
  unfold wpOp
  rw [hi]
  show if _ then _ else _
  rw [if_pos (hw E a w U hs)]
  have hl' : 1 ≤ levOf late ix := Nat.le_of_ble_eq_true hl
  exact .inl (h _ a w U hs _ fun x a' w' hs' he => ⟨⟨fun h0 => by omega, fun _ => same_given hs hA hB he⟩, k x a' w' hs'⟩)
section
variable {dst : Option Tmp} {ty : TypeId} {pos : String} {af : Array Edge} {g : Option (Nat × Bool)}
end

/-! #### readers of nothing but slots -/
variable {dst : Option Tmp} {ty : TypeId} {pos : String} {af : Array Edge} {g : Option (Nat × Bool)}
def fmax3 (x y z : Nat) : Option Nat := (fmax x y).bind fun t => fmax t z
theorem rb_fmax {X Y : Operand} {x y r : Nat} {ts : Array TypeId} (hx : ev s.L X = some (Vl (.float .f64 x))) (hy : ev s.L Y = some (Vl (.float .f64 y))) (h : fmax x y = some r) :
    Rb P Bs s ⟨dst, .call { callee := .builtin .max, args := #[X, Y], argTypes := ts }, ty, pos, af, g⟩ (Vl (.float .f64 r)) := fun E a w U hs => by
  have e1 : a.eval X = .float .f64 x := look_ev hs hx
  have e2 : a.eval Y = .float .f64 y := look_ev hs hy
  refine ⟨_, rfl, fun w' _ => ?_⟩
  unfold fmax at h
  simp only [execOp, resolve, invoke, builtin, Builtin.max_, Builtin.max2, e1, e2, List.map_toArray, List.map_cons, List.map_nil, List.foldlM_cons, List.foldlM_nil]
  split at h <;> simp_all [Builtin.max2]
section
variable {dst : Option Tmp} {ty : TypeId} {pos : String} {af : Array Edge} {g : Option (Nat × Bool)}
end
/-! #### loops whose rounds are told one by one -/
end
/-! #### nothing is appended to nil -/
section
variable {P : Program} {s : St} {dst : Option Tmp} {ty : TypeId} {pos : String} {af : Array Edge} {g : Option (Nat × Bool)}
end
/-! #### a type that does not have an interface's methods -/
end Go.Sx
