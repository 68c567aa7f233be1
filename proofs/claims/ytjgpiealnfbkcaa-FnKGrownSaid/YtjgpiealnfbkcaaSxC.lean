/-
  Steps of a walk over the symbolic state: memory, calls, a function's entry and end. Ours; it knows no program.
-/
import Derived.Test.YtjgpiealnfbkcaaSxB
namespace Go.Sx
set_option linter.unusedVariables false
set_option linter.unusedSectionVars false
set_option linter.unusedSimpArgs false
variable [Gv]

def Lv (x : SV) (l : List SV) : Prop := ∀ w U v, x.R w U v → ∃ vs : List Value, v.cells = ⟨vs⟩ ∧ All2 (fun s v => s.C w U v) l vs
theorem lv_ag (l : List SV) : Lv (Ag l) l := fun w U v ⟨vs, e, h⟩ => ⟨vs, by rw [e]; rfl, h⟩
theorem lv_vl {u : Value} (h : u.cells = #[u]) (ho : u.oneCell' = true) : Lv (Vl u) [Vl u] := fun w U v hv => ⟨[v], by rw [show v = u from hv]; exact h, ⟨hv, by rw [show v = u from hv]; exact ho⟩, trivial⟩
theorem lv_sl {α : Type} (K : Kd α) (xs : List α) : Lv (Sl K xs) [Sl K xs] := fun w U v hv => ⟨[v], by obtain ⟨a, c, e, _⟩ := hv; rw [e]; rfl, ⟨hv, by obtain ⟨a, c, e, _⟩ := hv; rw [e]; rfl⟩, trivial⟩
theorem lv_if (t : TypeId) (x : SV) : Lv (If t x) [If t x] := fun w U v hv => ⟨[v], by obtain ⟨a, e, _⟩ := hv; rw [e]; rfl, ⟨hv, by obtain ⟨a, e, _⟩ := hv; rw [e]; rfl⟩, trivial⟩

section news
variable {E : Env} {P : Program} {Q : Exit → Act → World → Prop} {s : St} {ops : Array Oper} {rest : List Oper}
  {dst : Option Tmp} {ty : TypeId} {pos : String} {af : Array Edge} {g : Option (Nat × Bool)}

theorem SymAt.new {a : Act} {w : World} {U : Nat → Prop} (h : SymAt E s a w U) (o : Obj) : SymAt E s a { w with heap := w.heap.push o } U :=
  h.world (fun k hk => by simp only [Array.getElem?_push]; rw [if_neg (by omega)]) (by simp) rfl rfl rfl

theorem SymAt.own_new {a : Act} {w : World} {U : Nat → Prop} (h : SymAt E s a w U) (r : Res) (c : Array Value) (t : TypeId) (hb : r.blk = [w.heap.size])
    (ho : r.own { w with heap := w.heap.push (.cells c t) } U) : SymAt E { s with H := r :: s.H } a { w with heap := w.heap.push (.cells c t) } U := by
  have h' := h.new (.cells c t)
  exact {
    size := h'.size, defers := h'.defers, slot := h'.slot
    own := fun q hq => by
      rcases List.mem_cons.1 hq with e | e
      · subst e; exact ho
      · exact h'.own q e
    nodup := by
      simp only [List.flatMap_cons, hb, List.singleton_append, List.nodup_cons]
      refine ⟨fun hm => ?_, h.nodup⟩
      obtain ⟨q, hq, hm⟩ := List.mem_flatMap.1 hm
      exact absurd (Res.lt (h.own q hq) _ hm) (Nat.lt_irrefl _)
    apart := fun q hq b hb' => by
      rcases List.mem_cons.1 hq with e | e
      · subst e; rw [hb] at hb'; simp at hb'; subst hb'
        exact fun hu => absurd (h.lt _ hu) (Nat.lt_irrefl _)
      · exact h.apart q e b hb'
    base := fun q hq b hb' => by
      rcases List.mem_cons.1 hq with e | e
      · subst e; rw [hb] at hb'; simp at hb'; subst hb'; exact .inl h.ext.size
      · exact h.base q e b hb'
    lt := h'.lt, from0 := h'.from0, to0 := h'.to0, ext := h'.ext, glob := h'.glob }

theorem all2_new {w : World} {U : Nat → Prop} {l : List SV} {vs : List Value} (o : Obj) (hlt : ∀ k, U k → k < w.heap.size) (h : All2 (fun s v => s.C w U v) l vs) :
    All2 (fun s v => s.C { w with heap := w.heap.push o } U v) l vs :=
  all2c_mono (fun _ h => h) (fun k hk => by simp only [Array.getElem?_push]; rw [if_neg (by have := hlt k hk; omega)]) h

end news

section fields
variable {P : Program} {s : St} {dst : Option Tmp} {ty : TypeId} {pos : String} {af : Array Edge} {g : Option (Nat × Bool)}

theorem rd_field {t : TypeId} {X : Operand} {q : Addr} {f : Nat} {fs : Array Field} {fd : Field} (hx : ev s.L X = some (Vl (.pointer (some q)))) (ht : P.underlying t = some (.struct fs)) (hf : fs[f]? = some fd)
    {z : Option Value} {n bytes : Nat} (hz : (P.info? fd.type).map (fun i => (i.zero, i.size, i.bytes)) = some (z, n + 1, bytes)) {off : Nat} (hoff : fd.offset = off) :
    Rd P s ⟨dst, .fieldAddr t X f, ty, pos, af, g⟩ (Vl (.pointer (some (q.add off)))) := fun E a w U hs => by
  subst hoff
  have e1 : a.eval X = .pointer (some q) := look_ev hs hx
  refine ⟨_, rfl, fun w' hw' => ?_⟩
  cases hinfo : P.info? fd.type with
  | none => rw [hinfo] at hz; simp at hz
  | some inf =>
    rw [hinfo] at hz; simp at hz
    simp [execOp, Instr.fieldAt, e1, run_underlying ht, hf, Instr.sureAddr, fieldPlace, sizeOf, typeInfo, hinfo, hz.2.1]

theorem rd_field_pt {t : TypeId} {X : Operand} {l : List SV} {f : Nat} {fs : Array Field} {fd : Field} (hx : ev s.L X = some (Pt l)) (ht : P.underlying t = some (.struct fs)) (hf : fs[f]? = some fd)
    {z : Option Value} {n bytes : Nat} (hz : (P.info? fd.type).map (fun i => (i.zero, i.size, i.bytes)) = some (z, n + 1, bytes)) {off : Nat} (hoff : fd.offset = off) {l' : List SV} (hl' : l.drop off = l') :
    Rd P s ⟨dst, .fieldAddr t X f, ty, pos, af, g⟩ (Pt l') := fun E a w U hs => by
  subst hl'; subst hoff
  obtain ⟨b, off, e1, hU, hc⟩ := look_ev hs hx
  refine ⟨.pointer (some (Addr.add ⟨b, off, none⟩ fd.offset)), ?_, fun w' hw' => ?_⟩
  · refine ⟨b, off + fd.offset, ?_, hU, fun j x hj => ?_⟩
    · unfold Addr.add; split
      · rename_i h; simp [h]
      · rfl
    · have := hc (fd.offset + j) x (by simpa using hj)
      simpa [Nat.add_assoc] using this
  · cases hinfo : P.info? fd.type with
    | none => rw [hinfo] at hz; simp at hz
    | some inf =>
      rw [hinfo] at hz; simp at hz
      simp [execOp, Instr.fieldAt, e1, run_underlying ht, hf, Instr.sureAddr, fieldPlace, sizeOf, typeInfo, hinfo, hz.2.1]

def Flat (P : Program) (t : TypeId) : Prop := ∃ u, P.underlying t = some u ∧ (∀ fs, u ≠ .struct fs) ∧ (∀ n e, u ≠ .array n e)
theorem run_isAgg_flat {t : TypeId} (h : Flat P t) (w : World) : (isAgg t).run P w = .ok false w := by
  obtain ⟨u, hu, h1, h2⟩ := h
  have : isAgg t = (underlying t >>= fun d => match d with | .struct _ | .array _ _ => pure true | _ => pure false) := rfl
  rw [this]
  cases u <;> first | exact absurd rfl (h1 _) | exact absurd rfl (h2 _ _) | simp [run_underlying hu]
def Agg (P : Program) (t : TypeId) (n : Nat) : Prop := (∃ u, P.underlying t = some u ∧ ((∃ fs, u = .struct fs) ∨ ∃ k e, u = .array k e)) ∧ ∃ i, P.info? t = some i ∧ i.size = n
theorem run_isAgg_agg {t : TypeId} {n : Nat} (h : Agg P t n) (w : World) : (isAgg t).run P w = .ok true w := by
  obtain ⟨⟨u, hu, h1⟩, _⟩ := h
  have : isAgg t = (underlying t >>= fun d => match d with | .struct _ | .array _ _ => pure true | _ => pure false) := rfl
  rw [this]
  rcases h1 with ⟨fs, rfl⟩ | ⟨k, e, rfl⟩ <;> simp [run_underlying hu]
theorem run_size_agg {t : TypeId} {n : Nat} (h : Agg P t n) (w : World) : (sizeOf t).run P w = .ok n w := by
  obtain ⟨_, i, hi, hn⟩ := h
  simp [sizeOf, typeInfo, hi, hn]

theorem addr_add (b o n : Nat) : Addr.add ⟨b, o, none⟩ n = ⟨b, o + n, none⟩ := by
  unfold Addr.add; split
  · rename_i h; simp [h]
  · rfl

theorem loadCells_run {w : World} {b off : Nat} {vs : List Value} (h : ∀ j v, vs[j]? = some v → w.cell? ⟨b, off + j, none⟩ = some v) : (loadCells ⟨b, off, none⟩ vs.length).run P w = .ok ⟨vs⟩ w := by
  have key : ∀ (n i : Nat) (acc : Array Value), i + n = vs.length → acc.toList = vs.take i → (loadCellsFrom ⟨b, off, none⟩ i n acc).run P w = .ok ⟨vs⟩ w := by
    intro n
    induction n with
    | zero =>
      intro i acc hi ha
      have : acc = ⟨vs⟩ := by
        cases acc; simp at ha ⊢; rw [ha, List.take_of_length_le (by omega)]
      simp [loadCellsFrom, this]
    | succ n ih =>
      intro i acc hi ha
      have hlt : i < vs.length := by omega
      have hc := h i vs[i] (by simp [hlt])
      simp only [loadCellsFrom, addr_add, Sem.run_bind, run_load, hc, Result.andThen_ok]
      refine ih (i + 1) _ (by omega) ?_
      rw [Array.toList_push, ha, List.take_succ_eq_append_getElem hlt]
  exact key vs.length 0 #[] (by simp) (by simp)

def AtRes (s : St) (i : Nat) (r : Res) (q : Addr) (p : Addr) (o : Nat) : Prop := s.H[i]? = some r ∧ r.v = .pointer (some q) ∧ r.row = none ∧ p = q.add o

theorem atRes_spec {E : Env} {a : Act} {w : World} {U : Nat → Prop} (hs : SymAt E s a w U) {i : Nat} {r : Res} {q p : Addr} {o : Nat} (h : AtRes s i r q p o) :
    ∃ b vs, q = ⟨b, 0, none⟩ ∧ p = ⟨b, o, none⟩ ∧ w.heap[b]? = some (.cells ⟨vs⟩ r.E (0, 0)) ∧ All2 (fun s v => s.C w U v) r.cs vs ∧ b < w.heap.size := by
  obtain ⟨h1, h2, h3, h4⟩ := h
  have hm : r ∈ s.H := List.mem_of_getElem? h1
  have ho := hs.own r hm
  have hl := Res.lt ho
  simp only [Res.own, h3] at ho
  obtain ⟨b, vs, e, hb, hc⟩ := ho
  rw [h2] at e
  simp at e
  subst e
  exact ⟨b, vs, rfl, by rw [h4, addr_add]; simp, hb, hc, hl b (by simp [Res.blk, blkOf, h2])⟩

theorem rd_load {t : TypeId} {X : Operand} {i o : Nat} {r : Res} {q p : Addr} {x : SV} (hx : ev s.L X = some (Vl (.pointer (some p)))) (hr : AtRes s i r q p o) (hc : r.cs[o]? = some x) (ht : Flat P t) :
    Rd P s ⟨dst, .load t X, ty, pos, af, g⟩ x := fun E a w U hs => by
  have e1 : a.eval X = .pointer (some p) := look_ev hs hx
  obtain ⟨b, vs, rfl, rfl, hb, hall, hlt⟩ := atRes_spec hs hr
  obtain ⟨v, hv, hR⟩ := hall.get hc
  refine ⟨v, hR.1, fun w' hw' => ?_⟩
  have hcell : w'.cell? ⟨b, o, none⟩ = some v := by simp [World.cell?, hw' b hlt, hb, hv]
  simp [execOp, Instr.loadAt, Instr.sureAddr, loadVar, e1, run_isAgg_flat ht, hcell]

theorem rd_load_agg {t : TypeId} {X : Operand} {i o n : Nat} {r : Res} {q p : Addr} (hx : ev s.L X = some (Vl (.pointer (some p)))) (hr : AtRes s i r q p o) (hc : Nat.ble (o + n) r.cs.length = true) (ht : Agg P t n) {l' : List SV} (hl' : (r.cs.drop o).take n = l') :
    Rd P s ⟨dst, .load t X, ty, pos, af, g⟩ (Ag l') := fun E a w U hs => by
  subst hl'
  have e1 : a.eval X = .pointer (some p) := look_ev hs hx
  obtain ⟨b, vs, rfl, rfl, hb, hall, hlt⟩ := atRes_spec hs hr
  have hlen := hall.length
  have hle : o + n ≤ r.cs.length := Nat.le_of_ble_eq_true hc
  refine ⟨.agg ⟨(vs.drop o).take n⟩, ⟨_, rfl, ?_⟩, fun w' hw' => ?_⟩
  · exact (hall.drop o).take n
  · have hl := loadCells_run (P := P) (w := w') (b := b) (off := o) (vs := (vs.drop o).take n) (fun j v hj => by
      simp only [World.cell?, hw' b hlt, hb]
      simp only [List.getElem?_take, List.getElem?_drop] at hj
      split at hj
      · simpa using hj
      · cases hj)
    have hl' : ((vs.drop o).take n).length = n := by simp; omega
    rw [hl'] at hl
    simp [execOp, Instr.loadAt, Instr.sureAddr, loadVar, e1, run_isAgg_agg ht, run_size_agg ht, hl]

theorem rd_load_pt {t : TypeId} {X : Operand} {l : List SV} {x : SV} (hx : ev s.L X = some (Pt l)) (hc : l[0]? = some x) (ht : Flat P t) : Rd P s ⟨dst, .load t X, ty, pos, af, g⟩ x := fun E a w U hs => by
  obtain ⟨b, off, e1, hU, h⟩ := look_ev hs hx
  obtain ⟨v, hv, hR⟩ := h 0 x hc
  refine ⟨v, hR.1, fun w' hw' => ?_⟩
  have hcell : w'.cell? ⟨b, off, none⟩ = some v := by rw [← hv]; exact cell?_same (hw' b (hs.lt b hU))
  simp [execOp, Instr.loadAt, Instr.sureAddr, loadVar, e1, run_isAgg_flat ht, hcell]

theorem cells_list {w : World} {U : Nat → Prop} {b off : Nat} : ∀ {l : List SV}, Cells w U b off l → ∃ vs : List Value, All2 (fun s v => s.C w U v) l vs ∧ ∀ j v, vs[j]? = some v → w.cell? ⟨b, off + j, none⟩ = some v := by
  intro l
  induction l generalizing off with
  | nil => intro _; exact ⟨[], trivial, by simp⟩
  | cons x l ih =>
    intro h
    obtain ⟨v, hv, hR⟩ := h 0 x rfl
    obtain ⟨vs, h1, h2⟩ := ih (off := off + 1) (fun j s hj => by
      have := h (j + 1) s (by simpa using hj)
      rwa [Nat.add_assoc, Nat.add_comm 1 j])
    refine ⟨v :: vs, ⟨hR, h1⟩, fun j u hj => ?_⟩
    cases j with
    | zero => simp at hj; subst hj; exact hv
    | succ j =>
      have := h2 j u (by simpa using hj)
      rwa [Nat.add_assoc, Nat.add_comm 1 j] at this

theorem rd_load_pt_agg {t : TypeId} {X : Operand} {l : List SV} {n : Nat} (hx : ev s.L X = some (Pt l)) (hc : Nat.ble n l.length = true) (ht : Agg P t n) {l' : List SV} (hl' : l.take n = l') :
    Rd P s ⟨dst, .load t X, ty, pos, af, g⟩ (Ag l') := fun E a w U hs => by
  subst hl'
  obtain ⟨b, off, e1, hU, h⟩ := look_ev hs hx
  have hle : n ≤ l.length := Nat.le_of_ble_eq_true hc
  obtain ⟨vs, h1, h2⟩ := cells_list (l := l.take n) (fun j s hj => h j s (by
    simp only [List.getElem?_take] at hj; split at hj
    · exact hj
    · cases hj))
  refine ⟨.agg ⟨vs⟩, ⟨vs, rfl, h1⟩, fun w' hw' => ?_⟩
  have hl := loadCells_run (P := P) (w := w') (b := b) (off := off) (vs := vs) (fun j v hj => by rw [← h2 j v hj]; exact cell?_same (hw' b (hs.lt b hU)))
  have hl' : vs.length = n := by rw [← h1.length]; simp; omega
  rw [hl'] at hl
  simp [execOp, Instr.loadAt, Instr.sureAddr, loadVar, e1, run_isAgg_agg ht, run_size_agg ht, hl]

end fields

section stores
variable {E : Env} {P : Program} {Q : Exit → Act → World → Prop} {s : St} {ops : Array Oper} {rest : List Oper}
  {dst : Option Tmp} {ty : TypeId} {pos : String} {af : Array Edge} {g : Option (Nat × Bool)}

def putS (cs : List SV) (o : Nat) (l : List SV) : List SV := cs.take o ++ l ++ cs.drop (o + l.length)

theorem storeCells_run {w : World} {b off : Nat} {vs us : List Value} {t : TypeId} (hb : w.heap[b]? = some (.cells ⟨vs⟩ t (0, 0))) (hle : off + us.length ≤ vs.length) (ho : ∀ v ∈ us, v.oneCell' = true) :
    ∃ w', (storeCells ⟨b, off, none⟩ us).run P w = .ok () w' ∧ w'.heap[b]? = some (.cells ⟨vs.take off ++ us ++ vs.drop (off + us.length)⟩ t (0, 0)) ∧ w'.os = w.os ∧ w'.tape = w.tape ∧ w'.output = w.output ∧
      w'.heap.size = w.heap.size ∧ ∀ k, k ≠ b → w'.heap[k]? = w.heap[k]? := by
  have key : ∀ (us : List Value) (i : Nat) (vs : List Value) (w : World), w.heap[b]? = some (.cells ⟨vs⟩ t (0, 0)) → off + i + us.length ≤ vs.length → (∀ v ∈ us, v.oneCell' = true) →
      ∃ w', (storeCells ⟨b, off, none⟩ us i).run P w = .ok () w' ∧ w'.heap[b]? = some (.cells ⟨vs.take (off + i) ++ us ++ vs.drop (off + i + us.length)⟩ t (0, 0)) ∧ w'.os = w.os ∧ w'.tape = w.tape ∧ w'.output = w.output ∧
      w'.heap.size = w.heap.size ∧ ∀ k, k ≠ b → w'.heap[k]? = w.heap[k]? := by
    intro us
    induction us with
    | nil => intro i vs w hb _ _; exact ⟨w, by simp [storeCells], by simpa using hb, rfl, rfl, rfl, rfl, fun _ _ => rfl⟩
    | cons u us ih =>
      intro i vs w hb hle ho
      have hlt : off + i < vs.length := by simp at hle; omega
      have hcell : w.cell? ⟨b, off + i, none⟩ = some vs[off + i] := by simp [World.cell?, hb, hlt]
      have hfr : w.frozen? ⟨b, off + i, none⟩ = false := by simp [World.frozen?, hb]
      have hset : (w.setCell ⟨b, off + i, none⟩ u).heap[b]? = some (.cells ⟨vs.set (off + i) u⟩ t (0, 0)) := by
        simp [World.setCell, Array.getElem?_modify, hb]
      obtain ⟨w', h1, h2, h3, h4, h5, h6, h7⟩ := ih (i + 1) (vs.set (off + i) u) (w.setCell ⟨b, off + i, none⟩ u) hset (by simp at hle ⊢; omega) (fun v hv => ho v (by simp [hv]))
      refine ⟨w', ?_, ?_, h3, h4, h5, by rw [h6]; simp [World.setCell], fun k hk => ?_⟩
      · simp only [storeCells, addr_add, Sem.run_bind, run_store P w _ _ _ (ho u (by simp)), hcell, hfr]
        simpa using h1
      · rw [h2]
        congr 3
        rw [show off + (i + 1) = off + i + 1 from by omega]
        rw [List.take_succ_eq_append_getElem (by simp; omega)]
        simp only [List.getElem_set_self, List.take_set_of_le (Nat.le_refl _), List.append_assoc, List.singleton_append, List.length_cons, List.cons_append, List.nil_append]
        rw [List.drop_set_of_lt (by omega), show off + i + 1 + us.length = off + i + (us.length + 1) from by omega]
      · rw [h7 k hk]
        simp only [World.setCell, Array.getElem?_modify]
        rw [if_neg (by omega)]
  have := key us 0 vs w hb (by omega) ho
  simpa using this

theorem all2_putS {R : SV → Value → Prop} {cs l : List SV} {vs us : List Value} (h : All2 R cs vs) (h' : All2 R l us) (o : Nat) : All2 R (putS cs o l) (vs.take o ++ us ++ vs.drop (o + us.length)) := by
  unfold putS
  rw [← h'.length]
  exact ((h.take o).append h').append (h.drop _)

theorem nodup_unique {H : List Res} (h : (H.flatMap Res.blk).Nodup) {i j : Nat} {r q : Res} {b : Nat} (hi : H[i]? = some r) (hj : H[j]? = some q) (hr : b ∈ r.blk) (hq : b ∈ q.blk) : i = j := by
  induction H generalizing i j with
  | nil => simp at hi
  | cons x H ih =>
    simp only [List.flatMap_cons, List.nodup_append] at h
    obtain ⟨_, h2, h3⟩ := h
    cases i with
    | zero =>
      cases j with
      | zero => rfl
      | succ j =>
        simp at hi hj; subst hi
        exact absurd rfl (h3 b hr b (List.mem_flatMap.2 ⟨q, List.mem_of_getElem? hj, hq⟩))
    | succ i =>
      cases j with
      | zero =>
        simp at hi hj; subst hj
        exact absurd rfl (h3 b hq b (List.mem_flatMap.2 ⟨r, List.mem_of_getElem? hi, hr⟩))
      | succ j => exact congrArg _ (ih h2 (by simpa using hi) (by simpa using hj))

theorem SymAt.reown {a : Act} {w w' : World} {U : Nat → Prop} (hs : SymAt E s a w U) {i : Nat} {r : Res} (hi : s.H[i]? = some r) (r' : Res) (hv : r'.blk = r.blk)
    (ho : r'.own w' U) (hos : w'.os = w.os) (ht : w'.tape = w.tape) (hout : w'.output = w.output) (hsz : w.heap.size ≤ w'.heap.size) (hk : ∀ k, k < w.heap.size → k ∉ r.blk → w'.heap[k]? = w.heap[k]?) :
    SymAt E { s with H := s.H.set i r' } a w' U := by
  have hUk : ∀ k, U k → w'.heap[k]? = w.heap[k]? := fun k hU => hk k (hs.lt k hU) (fun hm => hs.apart r (List.mem_of_getElem? hi) k hm hU)
  have hmap : (s.H.set i r').map Res.blk = s.H.map Res.blk := by
    rw [List.map_set, hv]
    have : (s.H.map Res.blk)[i]? = some r.blk := by simp [hi]
    apply List.ext_getElem?
    intro n
    by_cases e : i = n
    · subst e
      rw [this, List.getElem?_set_self (by have := (List.getElem?_eq_some_iff.1 this).1; simpa using this)]
    · rw [List.getElem?_set_ne e]
  have hflat : (s.H.set i r').flatMap Res.blk = s.H.flatMap Res.blk := by
    rw [List.flatMap_def, List.flatMap_def, hmap]
  have hmem : ∀ q ∈ s.H.set i r', q = r' ∨ ∃ j, j ≠ i ∧ s.H[j]? = some q := by
    intro q hq
    obtain ⟨j, hj⟩ := List.mem_iff_getElem?.1 hq
    by_cases e : i = j
    · subst e
      rw [List.getElem?_set_self (by have := (List.getElem?_eq_some_iff.1 hi).1; exact this)] at hj
      simp at hj; exact .inl hj.symm
    · rw [List.getElem?_set_ne e] at hj
      exact .inr ⟨j, Ne.symm e, hj⟩
  exact {
    size := hs.size, defers := hs.defers
    slot := fun k x hk' => by
      obtain ⟨v, hv, hr⟩ := hs.slot k x hk'
      exact ⟨v, hv, x.mono (fun _ h => h) hUk hr⟩
    own := fun q hq => by
      rcases hmem q hq with e | ⟨j, hne, hj⟩
      · subst e; exact ho
      · have hq' := hs.own q (List.mem_of_getElem? hj)
        exact Res.own_mono (fun _ h => h) hUk (fun b hb => hk b (Res.lt hq' b hb) (fun hm => hne (nodup_unique hs.nodup hj hi hb hm))) hq'
    nodup := by rw [hflat]; exact hs.nodup
    apart := fun q hq b hb => by
      rcases hmem q hq with e | ⟨j, hne, hj⟩
      · subst e; exact hs.apart r (List.mem_of_getElem? hi) b (by rwa [hv] at hb)
      · exact hs.apart q (List.mem_of_getElem? hj) b hb
    base := fun q hq b hb => by
      rcases hmem q hq with e | ⟨j, hne, hj⟩
      · subst e; exact hs.base r (List.mem_of_getElem? hi) b (by rwa [hv] at hb)
      · exact hs.base q (List.mem_of_getElem? hj) b hb
    lt := fun k hk => Nat.lt_of_lt_of_le (hs.lt k hk) hsz
    from0 := hs.from0, to0 := hs.to0, glob := hs.glob.mono (fun _ h => h) hUk
    ext := ⟨hos.trans hs.ext.os, ht.trans hs.ext.tape, hout.trans hs.ext.output, Nat.le_trans hs.ext.size hsz, fun k hk' hm =>
      (hk k (Nat.lt_of_lt_of_le hk' hs.ext.size) (fun hb => by
        rcases hs.base r (List.mem_of_getElem? hi) k hb with h | h
        · omega
        · exact hm h)).trans (hs.ext.block k hk' hm)⟩ }
end stores
end Go.Sx
