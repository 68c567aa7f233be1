/-
  Steps of a walk over the symbolic state: regions whose operations that turn memory may come in several orders. Ours; it knows no program.
-/
import Derived.Test.YtmagcmeknclljaaGreatSxQ
namespace Go.Sx
set_option linter.unusedVariables false
set_option linter.unusedSectionVars false
set_option linter.unusedSimpArgs false
variable [Gv]

section
variable {E : Env} {P : Program} {Q : Exit → Act → World → Prop} {s : St} {ops : Array Oper} {rest : List Oper} {o : Oper} {Bs : List Nat} {late pl : List (Nat × Nat)} {ix : Nat}

def planTo (ops : Array Oper) (late : List (Nat × Nat)) : List (Nat × Nat) → Array Bool → Option (Array Bool)
  | [], listed => some listed
  | (i, 0) :: r, listed => if (decide (Region.ready .any ops listed = [i])) = true then planTo ops late r (listed.setIfInBounds i true) else none
  | (i, 1) :: r, listed => if ((Region.ready .any ops listed).contains i && Region.free .any ops listed i && ((List.range ops.size).all fun j => listed.getD j true || j == i || levOf late j == 0 || waitsB ops i ops.size j)) = true then planTo ops late r (listed.setIfInBounds i true) else none
  | (i, _ + 2) :: r, listed => if ((Region.ready .any ops listed).contains i && Region.free .any ops listed i && ((List.range ops.size).all fun j => listed.getD j true || j == i || Nat.ble (levOf late j) 1 || waitsB ops i ops.size j)) = true then planTo ops late r (listed.setIfInBounds i true) else none

def wpPlanA (P : Program) (ops : Array Oper) (Q : Exit → Act → World → Prop) (Bs : List Nat) (late : List (Nat × Nat)) (K : Act → World → Prop) : List (Nat × Nat) → Act → World → Prop := wpPlan P ops (Exit.then K Q) Bs late

def planToOk (ops : Array Oper) (late plan : List (Nat × Nat)) (f : Nat) (last : Array Bool) : Bool :=
  Region.noSelect ops && decide (f + plan.length = ops.size) && decide (planTo ops late plan (Array.replicate ops.size false) = some last)
abbrev AX (E : Env) (P : Program) (ops : Array Oper) (Q : Exit → Act → World → Prop) (Bs : List Nat) (late : List (Nat × Nat)) (f : Nat) (listed : Array Bool) (s : St) : Prop := TX E (wpAnyX P ops Q Bs (levOf late) f listed) s

def AllOf (E : Env) (P : Program) (ops : Array Oper) (Q : Exit → Act → World → Prop) (Bs : List Nat) (late : List (Nat × Nat)) (f : Nat) (listed : Array Bool) (s : St) : List Nat → Prop
  | [] => True
  | i :: r => TX E (fun a w => wpOp P ops (noPanic Q) i (fun a' w' => Lev Bs (levOf late i) w w' ∧ wpAnyX P ops Q Bs (levOf late) f (listed.setIfInBounds i true) a' w') a w) s ∧ AllOf E P ops Q Bs late f listed s r
abbrev NX (E : Env) (P : Program) (ops : Array Oper) (Q : Exit → Act → World → Prop) (Bs : List Nat) (late : List (Nat × Nat)) (f : Nat) (listed : Array Bool) (i : Nat) (s : St) : Prop :=
  TX E (fun a w => wpOp P ops (noPanic Q) i (fun a' w' => Lev Bs (levOf late i) w w' ∧ wpAnyX P ops Q Bs (levOf late) f (listed.setIfInBounds i true) a' w') a w) s
theorem all_cons {f : Nat} {listed : Array Bool} {i : Nat} {is : List Nat} (h : NX E P ops Q Bs late f listed i s) (h' : AllOf E P ops Q Bs late f listed s is) : AllOf E P ops Q Bs late f listed s (i :: is) := ⟨h, h'⟩

def firstOk (ops : Array Oper) (late : List (Nat × Nat)) (fl i : Nat) (listed : Array Bool) : Bool :=
  Region.noSelect ops && decide (listed.size = ops.size) && ((List.range ops.size).all fun j => !(listed.getD j false) || ((ops[j]?).map fun o => o.after.all fun e => !(Region.binds .any e) || listed.getD e.on false).getD true) &&
  (Region.ready .any ops listed).contains i && Region.free .any ops listed i && ((List.range ops.size).all fun j => listed.getD j true || j == i || Nat.ble (levOf late j + 1) fl || waitsB ops i ops.size j)
def OXV (E : Env) (P : Program) (o : Oper) (i : Nat) {X : Type} (S : X → St) (s : St) : Prop :=
  ∀ (Q : Exit → Act → World → Prop) a w U, SymAt E s a w U → ∀ K : Act → World → Prop, (∀ x a' w', Sym E (S x) a' w' → (∀ r, s.H[i]? = some r → ∀ k, k < w.heap.size → k ∉ r.blk → w'.heap[k]? = w.heap[k]?) → K a' w') → o.wp P a w K Q
section
variable {dst : Option Tmp} {ty : TypeId} {pos : String} {af : Array Edge} {g : Option (Nat × Bool)}
end
def BsOut (H : List Res) (i : Nat) (Bs : List Nat) : Prop := ∀ b ∈ Bs, ∃ (m : Nat) (r : Res), m ≠ i ∧ H[m]? = some r ∧ b ∈ r.blk
def BsOutL (H : List Res) (is : List Nat) (Bs : List Nat) : Prop := ∀ b ∈ Bs, ∃ (m : Nat) (r : Res), m ∉ is ∧ H[m]? = some r ∧ b ∈ r.blk
theorem bl_nil {H : List Res} {is : List Nat} : BsOutL H is [] := fun _ h => by cases h
theorem bl_cons {H : List Res} {is : List Nat} {m : Nat} {r : Res} {q : Addr} {Bs : List Nat} (hmi : m ∉ is) (hm : H[m]? = some r) (hv : r.v = .pointer (some q)) (h : BsOutL H is Bs) : BsOutL H is (q.block :: Bs) := fun b hb => by
  rcases List.mem_cons.1 hb with e | e
  · subst e; exact ⟨m, r, hmi, hm, by simp [Res.blk, hv, blkOf]⟩
  · exact h b e
def OXB (E : Env) (P : Program) (o : Oper) (HA : List Res) {X : Type} (S : X → St) (s : St) : Prop :=
  ∀ (Q : Exit → Act → World → Prop) a w U, SymAt E s a w U → ∀ K : Act → World → Prop, (∀ x a' w', Sym E (S x) a' w' → Ext (HA.flatMap Res.blk) w w' → K a' w') → o.wp P a w K Q
theorem same_given {is : List Nat} {HA : List Res} {w w' : World} {a : Act} {U : Nat → Prop} (hs : SymAt E s a w U) (hA : PickAt s.H is HA) (hB : BsOutL s.H is Bs) (he : Ext (HA.flatMap Res.blk) w w') : SameB Bs w w' := fun b hb => by
  obtain ⟨m, q, hm, hq, hbq⟩ := hB b hb
  refine he.block b (Res.lt (hs.own q (List.mem_of_getElem? hq)) b hbq) fun hmem => ?_
  obtain ⟨r, hr, hbr⟩ := List.mem_flatMap.1 hmem
  obtain ⟨i, hi, hri⟩ := pick_mem hA r hr
  have e := nodup_unique hs.nodup hq hri hbq hbr
  subst e
  exact hm hi
theorem px_oxb {is : List Nat} {HA : List Res} {X : Type} {S : X → St} (hi : ops[ix]? = some o) (h : OXB E P o HA S s) (hA : PickAt s.H is HA) (hl : Nat.ble 1 (levOf late ix) = true) (hB : BsOutL s.H is Bs) (hw : Wt ops s o true) (k : ∀ x, PX E P ops Q Bs late pl (S x)) :
    PX E P ops Q Bs late ((ix, 0) :: pl) s := fun a w ⟨U, hs⟩ => by
  show wpOp _ _ _ _ _ _ _
  unfold wpOp
  rw [hi]
  show if _ then _ else _
  rw [if_pos (hw E a w U hs)]
  have hl' : 1 ≤ levOf late ix := Nat.le_of_ble_eq_true hl
  exact .inl (h _ a w U hs _ fun x a' w' hs' he => ⟨⟨fun h0 => by omega, fun _ => same_given hs hA hB he⟩, k x a' w' hs'⟩)
section
variable {dst : Option Tmp} {ty : TypeId} {pos : String} {af : Array Edge} {g : Option (Nat × Bool)}
theorem oxb_callg {c : Call} {f d : Nat} {A : List SV} {HA H' : List Res} {X : Type} {r : X → SV} {HR : X → List Res} (he : Ent P s c f A) (hc : Fn P f A HA r HR) (is js : List Nat)
    (hn : (is ++ js).Nodup) (hA : PickAt s.H is HA) (hJ : PickAt s.H js H') {Hn : X → List Res} (hHn : ∀ x, HR x ++ H' = Hn x) (hd : dst = some d) (hdn : Nat.ble (d + 1) s.n = true) :
    OXB E P ⟨dst, .call c, ty, pos, af, g⟩ HA (fun x : X => { s with L := (d, r x) :: s.L, H := Hn x }) s := fun Q a w U hs K k => by
  obtain rfl : (fun x => HR x ++ H') = Hn := funext hHn
  obtain ⟨vs, hvs, hrun⟩ := he E a w U hs
  unfold Oper.wp
  rw [hrun]
  have hs' := hs.pickH (is ++ js) hn (pick_app hA hJ)
  have hnd0 : ((HA ++ H').flatMap Res.blk).Nodup := hs'.nodup
  rw [List.flatMap_append, List.nodup_append] at hnd0
  refine (hc w U _ hvs (fun q hq => hs'.own q (List.mem_append.2 (.inl hq))) hnd0.1 (fun q hq => hs'.apart q (List.mem_append.2 (.inl hq))) hs.lt hs.glob).mono ?_
  rintro e w' ⟨x, v, U', rfl, hr, ho, hnd, hap, hto, hlt, hfrom, hext⟩
  show K (a.put dst v) w'
  rw [hd]
  exact k x _ _ ⟨U', (hs'.called (HA := HA) (H' := H') (List.Perm.refl _) ho hnd hap hto hlt hfrom hext).put (s := { s with H := HR x ++ H' }) hdn hr⟩ hext
end

/-! #### readers of nothing but slots -/
variable {dst : Option Tmp} {ty : TypeId} {pos : String} {af : Array Edge} {g : Option (Nat × Bool)}
def fmax3 (x y z : Nat) : Option Nat := (fmax x y).bind fun t => fmax t z
section
variable {dst : Option Tmp} {ty : TypeId} {pos : String} {af : Array Edge} {g : Option (Nat × Bool)}
theorem ox_srow {d : Nat} {t e : TypeId} {len : Nat} {ps : List (Nat × Operand)} {zs : List Value} {z : Value} {bytes : Nat} {qs : List (Nat × List SV)} {es : Nat} {r : List SV} (hp : PartsEv s.L ps qs)
    (ht : P.underlying t = some (.slice e)) (hz : (P.info? e).map (fun i => (i.zero, i.size, i.bytes)) = some (some z, es, bytes)) (hzc : z.cells = ⟨zs⟩) (hsz : Nat.ble 1 es = true)
    (h1 : zs.all (·.oneCell') = true) (hzl : zs.length = es) (hsmall : Nat.ble (len * es) 16777216 = true)
    (hf : fillS (fun i => some (i * es, es)) ((List.range (len * es)).map fun i => Vl (zs.getD (i % es) undef)) qs = some r) (hxl : r.length = len * es) (hd : dst = some d) (hn : Nat.ble (d + 1) s.n = true) :
    OX E P ⟨dst, .buildSlice t len ⟨ps⟩, ty, pos, af, g⟩ 0 (fun q : Addr => { s with L := (d, Vl (.slice (some q) len len)) :: s.L, H := ⟨.slice (some q) len len, r, e, some es⟩ :: s.H }) s := fun Q a w U hs K' k => by
  have key := sx_buildSlice (E := E) (P := P) (s := s) (ops := #[]) (Q := Q) (rest := []) (dst := dst) (ty := ty) (pos := pos) (af := af) (g := none) (d := d) (t := t) (e := e) (len := len) hp ht hz hzc (Nat.le_of_ble_eq_true hsz) h1 hzl hsmall hf hxl hd hn (wt_none rfl)
  have hrun : ∃ out : List Value, (execOp a.eval ⟨dst, .buildSlice t len ⟨ps⟩, ty, pos, af, g⟩).run P w = .ok (.value (.slice (some ⟨w.heap.size, 0, none⟩) len len)) { w with heap := w.heap.push (.cells ⟨out⟩ e) } ∧ out.length = len * es ∧
      All2 (fun s v => s.C w U v) r out := by
    have hzall : All2 (fun s v => s.C w U v) ((List.range (len * es)).map fun i => Vl (zs.getD (i % es) undef)) ((List.range (len * es)).map fun i => zs.getD (i % es) undef) := by
      have key : ∀ (l : List Nat), All2 (fun s v => s.C w U v) (l.map fun i => Vl (zs.getD (i % es) undef)) (l.map fun i => zs.getD (i % es) undef) := by
        intro l
        induction l with
        | nil => trivial
        | cons i l ih =>
          refine ⟨⟨rfl, ?_⟩, ih⟩
          have hlt : i % es < zs.length := by rw [hzl]; exact Nat.mod_lt _ (Nat.le_of_ble_eq_true hsz)
          have : zs.getD (i % es) undef ∈ zs := by simp [List.getD, hlt]
          exact (List.all_eq_true.1 h1) _ this
      exact key _
    obtain ⟨out, ho, hR⟩ := fill_of (partsEv_at hs hp) hzall hf
    have hlo : out.length = len * es := by rw [← hR.length, hxl]
    refine ⟨out, ?_, hlo, hR⟩
    have hsz' : 0 < es := Nat.le_of_ble_eq_true hsz
    cases hinfo : P.info? e with
    | none => rw [hinfo] at hz; simp at hz
    | some inf =>
      rw [hinfo] at hz; simp at hz
      have hle : len * es ≤ 16777216 := Nat.le_of_ble_eq_true hsmall
      have hrange : (Array.range (len * es)).map (fun i => (if len * es = 0 then (#[] : Array Value) else ⟨zs⟩)[i % (if len * es = 0 then (#[] : Array Value) else ⟨zs⟩).size]!) = ⟨(List.range (len * es)).map fun i => zs.getD (i % es) undef⟩ := by
        apply Array.ext'
        simp only [Array.toList_map, Array.toList_range]
        apply List.map_congr_left
        intro i hi
        have hi' : i < len * es := List.mem_range.1 hi
        rw [if_neg (by omega)]
        have hlt : i % es < zs.length := by rw [hzl]; exact Nat.mod_lt _ hsz'
        have hlt' : i % es < (⟨zs⟩ : Array Value).size := by simpa using hlt
        rw [show (⟨zs⟩ : Array Value).size = es from by simp [hzl], getElem!_pos (⟨zs⟩ : Array Value) (i % es) hlt']
        simp [hlt, List.getD]
      have ho' : Instr.fill (fun i => some (i * es, es)) ⟨(List.range (len * es)).map fun i => zs.getD (i % es) undef⟩ (ps.map fun x => match x with | (i, x) => (i, a.eval x)) = some ⟨out⟩ := ho
      have e1 : (Instr.buildSlice t len ((⟨ps⟩ : Array (Nat × Operand)).map fun (i, x) => (i, a.eval x))).run P w = .ok (.slice (some ⟨w.heap.size, 0, none⟩) len len) { w with heap := w.heap.push (.cells ⟨out⟩ e) } := by
        by_cases h0 : len * es = 0
        · simp only [h0, if_true] at hrange
          simp only [Instr.buildSlice, zeroValue, sizeOf, typeInfo, Sem.run_bind, run_program, Result.andThen_ok, hinfo, Sem.run_pure, hz.1, hz.2.1, run_underlying ht, h0, if_true]
          rw [if_neg (by omega)]
          simp only [Sem.run_bind, Sem.run_pure, Result.andThen_ok, List.map_toArray]
          rw [show ((Array.range 0).map fun x => (#[] : Array Value)[x % (#[] : Array Value).size]!) = ⟨(List.range 0).map fun i => zs.getD (i % es) undef⟩ from by simp]
          rw [h0] at ho'
          rw [ho']
          simp [newRow]
        · simp only [h0, if_false] at hrange
          simp only [Instr.buildSlice, zeroValue, sizeOf, typeInfo, Sem.run_bind, run_program, Result.andThen_ok, hinfo, Sem.run_pure, hz.1, hz.2.1, run_underlying ht, h0, if_false]
          rw [if_neg (by omega)]
          simp only [Sem.run_bind, Sem.run_pure, Result.andThen_ok, List.map_toArray, hzc, hinfo, hz.1, run_program]
          rw [hrange, ho']
          simp [newRow]
      simp only [execOp, Sem.run_bind]
      rw [e1]; rfl
  obtain ⟨out, hrun, hlo, hR⟩ := hrun
  unfold Oper.wp
  rw [hrun]
  show K' (a.put dst _) _
  rw [hd]
  have hnew := hs.own_new ⟨.slice (some ⟨w.heap.size, 0, none⟩) len len, r, e, some es⟩ ⟨out⟩ e (by simp [Res.blk, blkOf])
    (.inr ⟨w.heap.size, len, len, out, [], rfl, by simp, all2_new _ hs.lt hR, hxl, by simpa using hlo, Nat.le_refl _⟩)
  exact k ⟨w.heap.size, 0, none⟩ _ _ ⟨U, hnew.put hn rfl⟩ (fun _ => ext_push _ _) (fun h => by cases h)
end
/-! #### loops whose rounds are told one by one -/
theorem tx_loop {c : Code} (h : TX E (LoopIn P c Q) s) : CX E P (.loop c) Q s := fun a w hs => loopIn_loop (h a w hs)
theorem tx_round {c : Code} (h : CX E P c (Exit.then (LoopIn P c Q) Q) s) : TX E (LoopIn P c Q) s := fun a w hs => loopIn_round (h a w hs)
theorem ru_addc {t : TypeId} {k : IntKind} {a b c : Int} (h : iadd k a b = c) : Runs P (binOp .add t (.int k a) (.int k b)) (.int k c) := h ▸ ru_add
end
/-! #### nothing is appended to nil -/
section
variable {P : Program} {s : St} {dst : Option Tmp} {ty : TypeId} {pos : String} {af : Array Edge} {g : Option (Nat × Bool)}
theorem rd_append0 {t tx e e' : TypeId} {X Y : Operand} {α : Type} {K : Kd α} {xs : List α} {zv : Value} {bytes : Nat} (hx : ev s.L X = some (Vl (.slice none 0 0))) (hy : ev s.L Y = some (Sl K xs)) (h0 : xs.isEmpty = true) (hk : P.underlying tx = some (.slice e')) (ht : P.underlying t = some (.slice e))
    (hz : (P.info? e).map (fun i => (i.zero, i.size, i.bytes)) = some (some zv, K.size, bytes)) :
    Rd P s ⟨dst, .call { callee := .builtin .append, args := #[X, Y], argTypes := #[t, tx] }, ty, pos, af, g⟩ (Vl (.slice none 0 0)) := fun E a w U hs => by
  have e1 : a.eval X = .slice none 0 0 := look_ev hs hx
  obtain ⟨b, c, e2, hc, h⟩ := look_ev hs hy
  have hn : xs = [] := List.isEmpty_iff.1 h0
  subst hn
  refine ⟨.slice none 0 0, rfl, fun w' _ => ?_⟩
  cases hinfo : P.info? e with
  | none => rw [hinfo] at hz; simp at hz
  | some inf =>
    rw [hinfo] at hz; simp at hz
    obtain ⟨hz1, hz2, hz3⟩ := hz
    have hsrc : Src P K.size tx (a.eval Y) 0 [] w' := by
      rw [e2]
      cases b with
      | none => exact Src.ofNil w' hk c
      | some b => exact Src.ofSlice w' hk b 0 c [] (by simp) (by simp) (by simp)
    have hl := hsrc.len w'
    have hc := hsrc.cells
    rw [← hz2] at hc
    have hrun : (Builtin.append_ #[t, tx] ty #[.slice none 0 0, a.eval Y]).run P w' = .ok (.slice none 0 0) w' := by
      rcases hsrc.kind with ⟨e', hk⟩ | hk <;> simp [Builtin.append_, run_underlying ht, run_underlying hk, sizeOf, typeInfo, hinfo, hl, hc]
    simp [execOp, resolve, invoke, builtin, e1, hrun]
end
/-! #### a type that does not have an interface's methods -/
end Go.Sx
