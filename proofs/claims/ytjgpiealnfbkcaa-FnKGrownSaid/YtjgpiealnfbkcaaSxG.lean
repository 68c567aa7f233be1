/-
  Steps of a walk over the symbolic state: slices that the call makes, appends, cuts. Ours; it knows no program.
-/
import Derived.Test.YtjgpiealnfbkcaaSxF
namespace Go.Sx
set_option linter.unusedVariables false
set_option linter.unusedSectionVars false
set_option linter.unusedSimpArgs false
variable [Gv]

/-! ### parts put into zeroed cells -/
def fillS (place : Nat → Option (Nat × Nat)) : List SV → List (Nat × List SV) → Option (List SV)
  | cs, [] => some cs
  | cs, (i, l) :: r => match place i with
    | none => none
    | some (off, size) => if l.length ≠ size ∨ off + l.length > cs.length then none else fillS place (putS cs off l) r

theorem foldl_set (us : List Value) : ∀ (off j : Nat) (cells : List Value), off + j + us.length ≤ cells.length →
    (us.zipIdx j).foldl (fun (cs : Array Value) (p : Value × Nat) => cs.setIfInBounds (off + p.2) p.1) ⟨cells⟩ = ⟨cells.take (off + j) ++ us ++ cells.drop (off + j + us.length)⟩ := by
  induction us with
  | nil => intro off j cells h; simp
  | cons u us ih =>
    intro off j cells h
    simp only [List.zipIdx_cons, List.foldl_cons]
    have hset : (⟨cells⟩ : Array Value).setIfInBounds (off + j) u = ⟨cells.set (off + j) u⟩ := by simp
    rw [hset, ih off (j + 1) _ (by simp at h ⊢; omega)]
    congr 1
    rw [show off + (j + 1) = off + j + 1 from by omega]
    rw [List.take_succ_eq_append_getElem (by simp at h ⊢; omega)]
    simp only [List.getElem_set_self, List.take_set_of_le (Nat.le_refl _), List.append_assoc, List.singleton_append, List.length_cons, List.cons_append, List.nil_append]
    rw [List.drop_set_of_lt (by omega), show off + j + 1 + us.length = off + j + (us.length + 1) from by omega]

/-- the parts' values, each by its cells -/
def PartsAt (w : World) (U : Nat → Prop) (ps : List (Nat × List SV)) (vs : List (Nat × Value)) : Prop :=
  All2 (fun p v => p.1 = v.1 ∧ ∃ us : List Value, v.2.cells = ⟨us⟩ ∧ All2 (fun s v => s.C w U v) p.2 us) ps vs

theorem fill_of {w : World} {U : Nat → Prop} {place : Nat → Option (Nat × Nat)} : ∀ {ps : List (Nat × List SV)} {vs : List (Nat × Value)} {cs : List SV} {cells : List Value} {r : List SV}, PartsAt w U ps vs →
    All2 (fun s v => s.C w U v) cs cells → fillS place cs ps = some r → ∃ out : List Value, Instr.fill place ⟨cells⟩ vs = some ⟨out⟩ ∧ All2 (fun s v => s.C w U v) r out
  | [], [], cs, cells, r, _, hc, h => by simp [fillS] at h; subst h; exact ⟨cells, rfl, hc⟩
  | [], _ :: _, _, _, _, h, _, _ => h.elim
  | _ :: _, [], _, _, _, h, _, _ => h.elim
  | (i, l) :: ps, (i', v) :: vs, cs, cells, r, ⟨⟨e, us, hus, hall⟩, hps⟩, hc, h => by
    have e' : i = i' := e
    subst e'
    simp only [fillS] at h
    cases hp : place i with
    | none => rw [hp] at h; cases h
    | some os =>
      obtain ⟨off, size⟩ := os
      rw [hp] at h
      simp only at h
      split at h
      · cases h
      · rename_i hcond
        have h1 : l.length = size := by
          by_cases e : l.length = size
          · exact e
          · exact absurd (Or.inl e) hcond
        have h2 : off + l.length ≤ cs.length := by
          by_cases e : off + l.length ≤ cs.length
          · exact e
          · exact absurd (Or.inr (by omega)) hcond
        have hl : l.length = us.length := hall.length
        have hl2 := hc.length
        have hus' : us.length = size := by omega
        obtain ⟨out, ho, hR⟩ := fill_of hps (all2_putS hc hall off) h
        refine ⟨out, ?_, hR⟩
        have hus2 : v.cells = ⟨us⟩ := hus
        simp only [Instr.fill, hp, hus2, List.size_toArray]
        rw [if_neg (by rw [← hl, h1]; simp; omega)]
        have hz : (us.toArray.zipIdx.foldl (fun (cs : Array Value) (x : Value × Nat) => cs.setIfInBounds (off + x.2) x.1) ⟨cells⟩) = ⟨cells.take off ++ us ++ cells.drop (off + us.length)⟩ := by
          have := foldl_set us off 0 cells (by omega)
          rw [← Array.foldl_toList]
          simpa using this
        rw [show (us.toArray.zipIdx.foldl (fun cs (c, j) => cs.setIfInBounds (off + j) c) (⟨cells⟩ : Array Value)) = _ from hz]
        exact ho

theorem all2_vl {w : World} {U : Nat → Prop} : ∀ {zs : List Value}, zs.all (·.oneCell') = true → All2 (fun s v => s.C w U v) (zs.map Vl) zs
  | [], _ => trivial
  | z :: zs, h => by simp only [List.all_cons, Bool.and_eq_true] at h; exact ⟨⟨rfl, h.1⟩, all2_vl h.2⟩

/-- a literal's parts, by their operands -/
def PartsEv (L : List (Nat × SV)) : List (Nat × Operand) → List (Nat × List SV) → Prop
  | [], [] => True
  | (i, X) :: r, (j, l) :: m => i = j ∧ (∃ x, ev L X = some x ∧ Lv x l) ∧ PartsEv L r m
  | _, _ => False
theorem partsEv_at {E : Env} {s : St} {a : Act} {w : World} {U : Nat → Prop} (hs : SymAt E s a w U) : ∀ {ops : List (Nat × Operand)} {ps : List (Nat × List SV)}, PartsEv s.L ops ps → PartsAt w U ps (ops.map fun p => (p.1, a.eval p.2))
  | [], [], _ => trivial
  | (i, X) :: r, (j, l) :: m, ⟨e, ⟨x, hx, hl⟩, h⟩ => ⟨⟨e.symm, hl w U _ (look_ev hs hx)⟩, partsEv_at hs h⟩
  | [], _ :: _, h => h.elim
  | _ :: _, [], h => h.elim

section builds
variable {E : Env} {P : Program} {Q : Exit → Act → World → Prop} {s : St} {ops : Array Oper} {rest : List Oper}
  {dst : Option Tmp} {ty : TypeId} {pos : String} {af : Array Edge} {g : Option (Nat × Bool)}

/-- the places of a struct's fields -/
def placesOf (P : Program) (fs : List Field) : List (Nat × Nat) := fs.map fun f => (f.offset, P.cellsOf f.type)

theorem run_places {fs : List Field} (h : ∀ f ∈ fs, (P.info? f.type).isSome = true) (w : World) : ((⟨fs⟩ : Array Field).mapM (m := Sem) fun f => do pure (f.offset, ← sizeOf f.type)).run P w = .ok ⟨placesOf P fs⟩ w := by
  have key : ∀ (fs : List Field), (∀ f ∈ fs, (P.info? f.type).isSome = true) → (fs.mapM (m := Sem) fun f => do pure (f.offset, ← sizeOf f.type)).run P w = .ok (placesOf P fs) w := by
    intro fs
    induction fs with
    | nil => intro _; simp [placesOf]
    | cons f fs ih =>
      intro h
      have hf := h f (by simp)
      cases hinfo : P.info? f.type with
      | none => rw [hinfo] at hf; simp at hf
      | some inf =>
        have := ih (fun f hf => h f (List.mem_cons_of_mem _ hf))
        have hsz : (sizeOf f.type).run P w = .ok inf.size w := by simp [sizeOf, typeInfo, hinfo]
        rw [List.mapM_cons, Sem.run_bind, Sem.run_bind, hsz]
        simp only [Result.andThen_ok, Sem.run_pure, Sem.run_bind, this]
        simp [placesOf, Program.cellsOf, hinfo]
  have hk := key fs h
  rw [show (⟨fs⟩ : Array Field) = fs.toArray from rfl, List.mapM_toArray]
  simp only [Sem.run_map, hk, Result.andThen_ok]

theorem rd_build {t : TypeId} {ps : List (Nat × Operand)} {fs : List Field} {zs : List Value} {z : Value} {size bytes : Nat} {pls : List (Nat × Nat)} {qs : List (Nat × List SV)} {r : List SV} (hp : PartsEv s.L ps qs)
    (ht : P.underlying t = some (.struct ⟨fs⟩)) (hfs : ∀ f ∈ fs, (P.info? f.type).isSome = true) (hpl : placesOf P fs = pls) (hz : (P.info? t).map (fun i => (i.zero, i.size, i.bytes)) = some (some z, size, bytes)) (hzc : z.cells = ⟨zs⟩)
    (h1 : zs.all (·.oneCell') = true) (hf : fillS (fun i : Nat => pls[i]?) (zs.map Vl) qs = some r) : Rd P s ⟨dst, .build t ⟨ps⟩, ty, pos, af, g⟩ (Ag r) := fun E a w U hs => by
  obtain ⟨out, ho, hR⟩ := fill_of (partsEv_at hs hp) (all2_vl h1) hf
  refine ⟨.agg ⟨out⟩, ⟨out, rfl, hR⟩, fun w' hw' => ?_⟩
  cases hinfo : P.info? t with
  | none => rw [hinfo] at hz; simp at hz
  | some inf =>
    rw [hinfo] at hz; simp at hz
    subst hpl
    have hpl' := run_places hfs w'
    have e : (Instr.build t ((⟨ps⟩ : Array (Nat × Operand)).map fun (i, x) => (i, a.eval x))).run P w' = .ok (.agg ⟨out⟩) w' := by
      simp only [Instr.build, zeroValue, typeInfo, Sem.run_bind, run_program, Result.andThen_ok, hinfo, Sem.run_pure, hz.1, run_underlying ht, hpl', hzc]
      have : (fun i : Nat => (placesOf P fs).toArray[i]?) = (fun i : Nat => (placesOf P fs)[i]?) := by funext i; simp
      simp only [List.map_toArray, this]
      have ho' : Instr.fill (fun i : Nat => (placesOf P fs)[i]?) ⟨zs⟩ (ps.map fun x => match x with | (i, x) => (i, a.eval x)) = some ⟨out⟩ := ho
      rw [ho']
      rfl
    simp only [execOp, Sem.run_bind]
    rw [e]; rfl

theorem sx_buildSlice {d : Nat} {t e : TypeId} {len : Nat} {ps : List (Nat × Operand)} {zs : List Value} {z : Value} {size bytes : Nat} {qs : List (Nat × List SV)} {r : List SV} (hp : PartsEv s.L ps qs)
    (ht : P.underlying t = some (.slice e)) (hz : (P.info? e).map (fun i => (i.zero, i.size, i.bytes)) = some (some z, size, bytes)) (hzc : z.cells = ⟨zs⟩) (hsz : 0 < size)
    (h1 : zs.all (·.oneCell') = true) (hzl : zs.length = size) (hsmall : Nat.ble (len * size) 16777216 = true)
    (hf : fillS (fun i => some (i * size, size)) ((List.range (len * size)).map fun i => Vl (zs.getD (i % size) undef)) qs = some r) (hrl : r.length = len * size) (hd : dst = some d) (hn : Nat.ble (d + 1) s.n = true)
    (hw : Wt ops s ⟨dst, .buildSlice t len ⟨ps⟩, ty, pos, af, g⟩ true)
    (k : ∀ q : Addr, SX E P ops Q rest { s with L := (d, Vl (.slice (some q) len len)) :: s.L, H := ⟨.slice (some q) len len, r, e, some size⟩ :: s.H }) :
    SX E P ops Q (⟨dst, .buildSlice t len ⟨ps⟩, ty, pos, af, g⟩ :: rest) s := fun a w ⟨U, hs⟩ => by
  refine wpList_step fun K hK => ?_
  rw [if_pos (hw E a w U hs)]
  have hzall : All2 (fun s v => s.C w U v) ((List.range (len * size)).map fun i => Vl (zs.getD (i % size) undef)) ((List.range (len * size)).map fun i => zs.getD (i % size) undef) := by
    have key : ∀ (l : List Nat), All2 (fun s v => s.C w U v) (l.map fun i => Vl (zs.getD (i % size) undef)) (l.map fun i => zs.getD (i % size) undef) := by
      intro l
      induction l with
      | nil => trivial
      | cons i l ih =>
        refine ⟨⟨rfl, ?_⟩, ih⟩
        have hlt : i % size < zs.length := by rw [hzl]; exact Nat.mod_lt _ hsz
        have : zs.getD (i % size) undef ∈ zs := by simp [List.getD, hlt]
        exact (List.all_eq_true.1 h1) _ this
    exact key _
  obtain ⟨out, ho, hR⟩ := fill_of (partsEv_at hs hp) hzall hf
  have hlo : out.length = len * size := by rw [← hR.length, hrl]
  unfold Oper.wp
  have hrun : (execOp a.eval ⟨dst, .buildSlice t len ⟨ps⟩, ty, pos, af, g⟩).run P w = .ok (.value (.slice (some ⟨w.heap.size, 0, none⟩) len len)) { w with heap := w.heap.push (.cells ⟨out⟩ e) } := by
    cases hinfo : P.info? e with
    | none => rw [hinfo] at hz; simp at hz
    | some inf =>
      rw [hinfo] at hz; simp at hz
      have hle : len * size ≤ 16777216 := Nat.le_of_ble_eq_true hsmall
      have hrange : (Array.range (len * size)).map (fun i => (if len * size = 0 then (#[] : Array Value) else ⟨zs⟩)[i % (if len * size = 0 then (#[] : Array Value) else ⟨zs⟩).size]!) = ⟨(List.range (len * size)).map fun i => zs.getD (i % size) undef⟩ := by
        apply Array.ext'
        simp only [Array.toList_map, Array.toList_range]
        apply List.map_congr_left
        intro i hi
        have hi' : i < len * size := List.mem_range.1 hi
        rw [if_neg (by omega)]
        have hlt : i % size < zs.length := by rw [hzl]; exact Nat.mod_lt _ hsz
        have hlt' : i % size < (⟨zs⟩ : Array Value).size := by simpa using hlt
        rw [show (⟨zs⟩ : Array Value).size = size from by simp [hzl], getElem!_pos (⟨zs⟩ : Array Value) (i % size) hlt']
        simp [hlt, List.getD]
      have ho' : Instr.fill (fun i => some (i * size, size)) ⟨(List.range (len * size)).map fun i => zs.getD (i % size) undef⟩ (ps.map fun x => match x with | (i, x) => (i, a.eval x)) = some ⟨out⟩ := ho
      have e1 : (Instr.buildSlice t len ((⟨ps⟩ : Array (Nat × Operand)).map fun (i, x) => (i, a.eval x))).run P w = .ok (.slice (some ⟨w.heap.size, 0, none⟩) len len) { w with heap := w.heap.push (.cells ⟨out⟩ e) } := by
        by_cases h0 : len * size = 0
        · simp only [h0, if_true] at hrange
          simp only [Instr.buildSlice, zeroValue, sizeOf, typeInfo, Sem.run_bind, run_program, Result.andThen_ok, hinfo, Sem.run_pure, hz.1, hz.2.1, run_underlying ht, h0, if_true]
          rw [if_neg (by omega)]
          simp only [Sem.run_bind, Sem.run_pure, Result.andThen_ok, List.map_toArray]
          rw [show ((Array.range 0).map fun x => (#[] : Array Value)[x % (#[] : Array Value).size]!) = ⟨(List.range 0).map fun i => zs.getD (i % size) undef⟩ from by simp]
          rw [h0] at ho'
          rw [ho']
          simp [newRow]
        · simp only [h0, if_false] at hrange
          simp only [Instr.buildSlice, zeroValue, sizeOf, typeInfo, Sem.run_bind, run_program, Result.andThen_ok, hinfo, Sem.run_pure, hz.1, hz.2.1, run_underlying ht, h0, if_false]
          rw [if_neg (by omega)]
          simp only [Sem.run_bind, Sem.run_pure, Result.andThen_ok, List.map_toArray, hzc, hinfo, hz.1, run_program]
          rw [hrange, ho']
          simp [newRow]
      simp only [execOp, Sem.run_bind]
      rw [e1]; rfl
  rw [hrun]
  show K (a.put dst _) _
  rw [hd]
  have hnew := hs.own_new ⟨.slice (some ⟨w.heap.size, 0, none⟩) len len, r, e, some size⟩ ⟨out⟩ e (by simp [Res.blk, blkOf])
    (by
      simp only [Res.own]
      exact .inr ⟨w.heap.size, len, len, out, [], rfl, by simp, all2_new _ hs.lt hR, hrl, by simpa using hlo, Nat.le_refl _⟩)
  exact hK _ _ (k _ _ _ ⟨U, hnew.put hn rfl⟩)
end builds
end Go.Sx
