/-
  Steps of a walk over the symbolic state: regions whose operations that turn memory may come in several orders. Ours; it knows no program.
-/
import Derived.Test.YtekppafmaoefaaaDoorSxQ
namespace Go.Sx
set_option linter.unusedVariables false
set_option linter.unusedSectionVars false
set_option linter.unusedSimpArgs false
variable [Gv]

section
variable {E : Env} {P : Program} {Q : Exit → Act → World → Prop} {s : St} {ops : Array Oper} {rest : List Oper} {o : Oper} {Bs : List Nat} {late pl : List (Nat × Nat)} {ix : Nat}

def planTo (ops : Array Oper) (late : List (Nat × Nat)) : List (Nat × Nat) → Array Bool → Option (Array Bool)
  | [], listed => some listed
  | (i, 0) :: r, listed => if (decide (Region.ready .any ops listed = [i])) = true then planTo ops late r (listed.setIfInBounds i true) else none
  | (i, 1) :: r, listed => if ((Region.ready .any ops listed).contains i && Region.free .any ops listed i && ((List.range ops.size).all fun j => listed.getD j true || j == i || levOf late j == 0 || waitsB ops i ops.size j)) = true then planTo ops late r (listed.setIfInBounds i true) else none
  | (i, _ + 2) :: r, listed => if ((Region.ready .any ops listed).contains i && Region.free .any ops listed i && ((List.range ops.size).all fun j => listed.getD j true || j == i || Nat.ble (levOf late j) 1 || waitsB ops i ops.size j)) = true then planTo ops late r (listed.setIfInBounds i true) else none

def wpPlanA (P : Program) (ops : Array Oper) (Q : Exit → Act → World → Prop) (Bs : List Nat) (late : List (Nat × Nat)) (K : Act → World → Prop) : List (Nat × Nat) → Act → World → Prop := wpPlan P ops (Exit.then K Q) Bs late

def planToOk (ops : Array Oper) (late plan : List (Nat × Nat)) (f : Nat) (last : Array Bool) : Bool :=
  Region.noSelect ops && decide (f + plan.length = ops.size) && decide (planTo ops late plan (Array.replicate ops.size false) = some last)
abbrev AX (E : Env) (P : Program) (ops : Array Oper) (Q : Exit → Act → World → Prop) (Bs : List Nat) (late : List (Nat × Nat)) (f : Nat) (listed : Array Bool) (s : St) : Prop := TX E (wpAnyX P ops Q Bs (levOf late) f listed) s

def AllOf (E : Env) (P : Program) (ops : Array Oper) (Q : Exit → Act → World → Prop) (Bs : List Nat) (late : List (Nat × Nat)) (f : Nat) (listed : Array Bool) (s : St) : List Nat → Prop
  | [] => True
  | i :: r => TX E (fun a w => wpOp P ops (noPanic Q) i (fun a' w' => Lev Bs (levOf late i) w w' ∧ wpAnyX P ops Q Bs (levOf late) f (listed.setIfInBounds i true) a' w') a w) s ∧ AllOf E P ops Q Bs late f listed s r
abbrev NX (E : Env) (P : Program) (ops : Array Oper) (Q : Exit → Act → World → Prop) (Bs : List Nat) (late : List (Nat × Nat)) (f : Nat) (listed : Array Bool) (i : Nat) (s : St) : Prop :=
  TX E (fun a w => wpOp P ops (noPanic Q) i (fun a' w' => Lev Bs (levOf late i) w w' ∧ wpAnyX P ops Q Bs (levOf late) f (listed.setIfInBounds i true) a' w') a w) s
theorem all_cons {f : Nat} {listed : Array Bool} {i : Nat} {is : List Nat} (h : NX E P ops Q Bs late f listed i s) (h' : AllOf E P ops Q Bs late f listed s is) : AllOf E P ops Q Bs late f listed s (i :: is) := ⟨h, h'⟩

def firstOk (ops : Array Oper) (late : List (Nat × Nat)) (fl i : Nat) (listed : Array Bool) : Bool :=
  Region.noSelect ops && decide (listed.size = ops.size) && ((List.range ops.size).all fun j => !(listed.getD j false) || ((ops[j]?).map fun o => o.after.all fun e => !(Region.binds .any e) || listed.getD e.on false).getD true) &&
  (Region.ready .any ops listed).contains i && Region.free .any ops listed i && ((List.range ops.size).all fun j => listed.getD j true || j == i || Nat.ble (levOf late j + 1) fl || waitsB ops i ops.size j)
def OXV (E : Env) (P : Program) (o : Oper) (i : Nat) {X : Type} (S : X → St) (s : St) : Prop :=
  ∀ (Q : Exit → Act → World → Prop) a w U, SymAt E s a w U → ∀ K : Act → World → Prop, (∀ x a' w', Sym E (S x) a' w' → (∀ r, s.H[i]? = some r → ∀ k, k < w.heap.size → k ∉ r.blk → w'.heap[k]? = w.heap[k]?) → K a' w') → o.wp P a w K Q
section
variable {dst : Option Tmp} {ty : TypeId} {pos : String} {af : Array Edge} {g : Option (Nat × Bool)}
theorem oxv_store {t : TypeId} {X V : Operand} {x : SV} {l : List SV} {i o : Nat} {r : Res} {q p : Addr} {z : Option Value} {bytes : Nat} (hx : ev s.L X = some (Vl (.pointer (some p)))) (hv : ev s.L V = some x) (hl : Lv x l)
    (hr : AtRes s i r q p o) (hle : Nat.ble (o + l.length) r.cs.length = true) (hz : (P.info? t).map (fun i => (i.zero, i.size, i.bytes)) = some (z, l.length, bytes)) (hd : dst = none)
    {H' : List Res} (hH' : s.H.set i { r with cs := putS r.cs o l } = H') :
    OXV E P ⟨dst, .store t X V, ty, pos, af, g⟩ i (fun _ : Unit => { s with H := H' }) s := fun Q a w U hs K k => by
  subst hH'
  have e1 : a.eval X = .pointer (some p) := look_ev hs hx
  obtain ⟨us, hus, hall⟩ := hl w U _ (look_ev hs hv)
  obtain ⟨b, vs, hq, rfl, hb, hvs, hlt⟩ := atRes_spec hs hr
  have hr0 := hr
  obtain ⟨hi, hrv, hrow, _⟩ := hr0
  have hlen := hvs.length
  have hlen' := hall.length
  have hle' : o + l.length ≤ r.cs.length := Nat.le_of_ble_eq_true hle
  obtain ⟨w', h1, h2, h3, h4, h5, h6, h7⟩ := storeCells_run (P := P) (off := o) (us := us) hb (by omega) (all2c_one hall)
  unfold Oper.wp
  have hrun : (execOp a.eval ⟨dst, .store t X V, ty, pos, af, g⟩).run P w = .ok .skip w' := by
    cases hinfo : P.info? t with
    | none => rw [hinfo] at hz; simp at hz
    | some inf =>
      rw [hinfo] at hz; simp at hz
      simp [execOp, Instr.storeAt, Instr.sureAddr, storeVar, e1, hus, sizeOf, typeInfo, hinfo, hz.2.1, hlen', h1]
  rw [hrun]
  show K (a.put dst undef) w'
  rw [hd]
  have hblk : r.blk = [b] := by simp [Res.blk, hrv, hq, blkOf]
  have hk' : ∀ k, k < w.heap.size → k ∉ r.blk → w'.heap[k]? = w.heap[k]? := fun k _ hk => h7 k (fun e => hk (by rw [hblk]; simp [e]))
  have hUk : ∀ k, U k → w'.heap[k]? = w.heap[k]? := fun k hU => hk' k (hs.lt k hU) (fun hm => hs.apart r (List.mem_of_getElem? hi) k hm hU)
  refine k () _ _ ⟨U, ?_⟩ (fun r' hr' => by rw [hi] at hr'; cases hr'; exact hk')
  refine hs.reown hi { r with cs := putS r.cs o l } rfl ?_ h3 h4 h5 (Nat.le_of_eq h6.symm) hk'
  simp only [Res.own, hrow]
  refine ⟨b, _, by rw [hrv, hq], h2, ?_⟩
  exact all2c_mono (fun _ h => h) hUk (all2_putS hvs hall o)


end
def BsOut (H : List Res) (i : Nat) (Bs : List Nat) : Prop := ∀ b ∈ Bs, ∃ (m : Nat) (r : Res), m ≠ i ∧ H[m]? = some r ∧ b ∈ r.blk
theorem bo_nil {H : List Res} {i : Nat} : BsOut H i [] := fun _ h => by cases h
theorem oxv_same {i : Nat} {w w' : World} {a : Act} {U : Nat → Prop} (hs : SymAt E s a w U) (hi : ∃ r, s.H[i]? = some r) (hB : BsOut s.H i Bs) (h : ∀ r, s.H[i]? = some r → ∀ k, k < w.heap.size → k ∉ r.blk → w'.heap[k]? = w.heap[k]?) : SameB Bs w w' := fun b hb => by
  obtain ⟨r, hr⟩ := hi
  obtain ⟨m, q, hm, hq, hbq⟩ := hB b hb
  exact h r hr b (Res.lt (hs.own q (List.mem_of_getElem? hq)) b hbq) (fun hbr => hm (nodup_unique hs.nodup hq hr hbq hbr))
theorem px_oxv {i : Nat} {X : Type} {S : X → St} {r : Res} (hi : ops[ix]? = some o) (h : OXV E P o i S s) (hr : s.H[i]? = some r) (hl : Nat.ble 1 (levOf late ix) = true) (hB : BsOut s.H i Bs) (hw : Wt ops s o true) (k : ∀ x, PX E P ops Q Bs late pl (S x)) :
    PX E P ops Q Bs late ((ix, 0) :: pl) s := fun a w ⟨U, hs⟩ => by
  show wpOp _ _ _ _ _ _ _
  unfold wpOp
  rw [hi]
  show if _ then _ else _
  rw [if_pos (hw E a w U hs)]
  have hl' : 1 ≤ levOf late ix := Nat.le_of_ble_eq_true hl
  exact .inl (h _ a w U hs _ fun x a' w' hs' he => ⟨⟨fun h0 => by omega, fun _ => oxv_same hs ⟨r, hr⟩ hB he⟩, k x a' w' hs'⟩)
def BsOutL (H : List Res) (is : List Nat) (Bs : List Nat) : Prop := ∀ b ∈ Bs, ∃ (m : Nat) (r : Res), m ∉ is ∧ H[m]? = some r ∧ b ∈ r.blk
def OXB (E : Env) (P : Program) (o : Oper) (HA : List Res) {X : Type} (S : X → St) (s : St) : Prop :=
  ∀ (Q : Exit → Act → World → Prop) a w U, SymAt E s a w U → ∀ K : Act → World → Prop, (∀ x a' w', Sym E (S x) a' w' → Ext (HA.flatMap Res.blk) w w' → K a' w') → o.wp P a w K Q
section
variable {dst : Option Tmp} {ty : TypeId} {pos : String} {af : Array Edge} {g : Option (Nat × Bool)}
end

/-! #### readers of nothing but slots -/
variable {dst : Option Tmp} {ty : TypeId} {pos : String} {af : Array Edge} {g : Option (Nat × Bool)}
def fmax3 (x y z : Nat) : Option Nat := (fmax x y).bind fun t => fmax t z
section
variable {dst : Option Tmp} {ty : TypeId} {pos : String} {af : Array Edge} {g : Option (Nat × Bool)}
end
/-! #### loops whose rounds are told one by one -/
end
/-! #### nothing is appended to nil -/
section
variable {P : Program} {s : St} {dst : Option Tmp} {ty : TypeId} {pos : String} {af : Array Edge} {g : Option (Nat × Bool)}
end
/-! #### a type that does not have an interface's methods -/
end Go.Sx
