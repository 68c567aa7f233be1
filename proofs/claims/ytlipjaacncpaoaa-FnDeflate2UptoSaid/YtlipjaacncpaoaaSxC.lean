/-
  Steps of a walk over the symbolic state: memory, calls, a function's entry and end. Ours; it knows no program.
-/
import Derived.Test.YtlipjaacncpaoaaSxB
namespace Go.Sx
set_option linter.unusedVariables false
set_option linter.unusedSectionVars false
set_option linter.unusedSimpArgs false
variable [Gv]

def Lv (x : SV) (l : List SV) : Prop := ∀ w U v, x.R w U v → ∃ vs : List Value, v.cells = ⟨vs⟩ ∧ All2 (fun s v => s.C w U v) l vs
theorem lv_vl {u : Value} (h : u.cells = #[u]) (ho : u.oneCell' = true) : Lv (Vl u) [Vl u] := fun w U v hv => ⟨[v], by rw [show v = u from hv]; exact h, ⟨hv, by rw [show v = u from hv]; exact ho⟩, trivial⟩
theorem lv_sl {α : Type} (K : Kd α) (xs : List α) : Lv (Sl K xs) [Sl K xs] := fun w U v hv => ⟨[v], by obtain ⟨a, c, e, _⟩ := hv; rw [e]; rfl, ⟨hv, by obtain ⟨a, c, e, _⟩ := hv; rw [e]; rfl⟩, trivial⟩
section news
variable {E : Env} {P : Program} {Q : Exit → Act → World → Prop} {s : St} {ops : Array Oper} {rest : List Oper}
  {dst : Option Tmp} {ty : TypeId} {pos : String} {af : Array Edge} {g : Option (Nat × Bool)}

theorem SymAt.new {a : Act} {w : World} {U : Nat → Prop} (h : SymAt E s a w U) (o : Obj) : SymAt E s a { w with heap := w.heap.push o } U :=
  h.world (fun k hk => by simp only [Array.getElem?_push]; rw [if_neg (by omega)]) (by simp) rfl rfl rfl

theorem SymAt.own_new {a : Act} {w : World} {U : Nat → Prop} (h : SymAt E s a w U) (r : Res) (c : Array Value) (t : TypeId) (hb : r.blk = [w.heap.size])
    (ho : r.own { w with heap := w.heap.push (.cells c t) } U) : SymAt E { s with H := r :: s.H } a { w with heap := w.heap.push (.cells c t) } U := by
  have h' := h.new (.cells c t)
  exact {
    size := h'.size, defers := h'.defers, slot := h'.slot
    own := fun q hq => by
      rcases List.mem_cons.1 hq with e | e
      · subst e; exact ho
      · exact h'.own q e
    nodup := by
      simp only [List.flatMap_cons, hb, List.singleton_append, List.nodup_cons]
      refine ⟨fun hm => ?_, h.nodup⟩
      obtain ⟨q, hq, hm⟩ := List.mem_flatMap.1 hm
      exact absurd (Res.lt (h.own q hq) _ hm) (Nat.lt_irrefl _)
    apart := fun q hq b hb' => by
      rcases List.mem_cons.1 hq with e | e
      · subst e; rw [hb] at hb'; simp at hb'; subst hb'
        exact fun hu => absurd (h.lt _ hu) (Nat.lt_irrefl _)
      · exact h.apart q e b hb'
    base := fun q hq b hb' => by
      rcases List.mem_cons.1 hq with e | e
      · subst e; rw [hb] at hb'; simp at hb'; subst hb'; exact .inl h.ext.size
      · exact h.base q e b hb'
    lt := h'.lt, from0 := h'.from0, to0 := h'.to0, ext := h'.ext, glob := h'.glob }

theorem all2_new {w : World} {U : Nat → Prop} {l : List SV} {vs : List Value} (o : Obj) (hlt : ∀ k, U k → k < w.heap.size) (h : All2 (fun s v => s.C w U v) l vs) :
    All2 (fun s v => s.C { w with heap := w.heap.push o } U v) l vs :=
  all2c_mono (fun _ h => h) (fun k hk => by simp only [Array.getElem?_push]; rw [if_neg (by have := hlt k hk; omega)]) h

end news

section fields
variable {P : Program} {s : St} {dst : Option Tmp} {ty : TypeId} {pos : String} {af : Array Edge} {g : Option (Nat × Bool)}

def Flat (P : Program) (t : TypeId) : Prop := ∃ u, P.underlying t = some u ∧ (∀ fs, u ≠ .struct fs) ∧ (∀ n e, u ≠ .array n e)
theorem run_isAgg_flat {t : TypeId} (h : Flat P t) (w : World) : (isAgg t).run P w = .ok false w := by
  obtain ⟨u, hu, h1, h2⟩ := h
  have : isAgg t = (underlying t >>= fun d => match d with | .struct _ | .array _ _ => pure true | _ => pure false) := rfl
  rw [this]
  cases u <;> first | exact absurd rfl (h1 _) | exact absurd rfl (h2 _ _) | simp [run_underlying hu]
def Agg (P : Program) (t : TypeId) (n : Nat) : Prop := (∃ u, P.underlying t = some u ∧ ((∃ fs, u = .struct fs) ∨ ∃ k e, u = .array k e)) ∧ ∃ i, P.info? t = some i ∧ i.size = n
theorem addr_add (b o n : Nat) : Addr.add ⟨b, o, none⟩ n = ⟨b, o + n, none⟩ := by
  unfold Addr.add; split
  · rename_i h; simp [h]
  · rfl

def AtRes (s : St) (i : Nat) (r : Res) (q : Addr) (p : Addr) (o : Nat) : Prop := s.H[i]? = some r ∧ r.v = .pointer (some q) ∧ r.row = none ∧ p = q.add o

theorem atRes_spec {E : Env} {a : Act} {w : World} {U : Nat → Prop} (hs : SymAt E s a w U) {i : Nat} {r : Res} {q p : Addr} {o : Nat} (h : AtRes s i r q p o) :
    ∃ b vs, q = ⟨b, 0, none⟩ ∧ p = ⟨b, o, none⟩ ∧ w.heap[b]? = some (.cells ⟨vs⟩ r.E (0, 0)) ∧ All2 (fun s v => s.C w U v) r.cs vs ∧ b < w.heap.size := by
  obtain ⟨h1, h2, h3, h4⟩ := h
  have hm : r ∈ s.H := List.mem_of_getElem? h1
  have ho := hs.own r hm
  have hl := Res.lt ho
  simp only [Res.own, h3] at ho
  obtain ⟨b, vs, e, hb, hc⟩ := ho
  rw [h2] at e
  simp at e
  subst e
  exact ⟨b, vs, rfl, by rw [h4, addr_add]; simp, hb, hc, hl b (by simp [Res.blk, blkOf, h2])⟩

theorem rd_load_pt {t : TypeId} {X : Operand} {l : List SV} {x : SV} (hx : ev s.L X = some (Pt l)) (hc : l[0]? = some x) (ht : Flat P t) : Rd P s ⟨dst, .load t X, ty, pos, af, g⟩ x := fun E a w U hs => by
  obtain ⟨b, off, e1, hU, h⟩ := look_ev hs hx
  obtain ⟨v, hv, hR⟩ := h 0 x hc
  refine ⟨v, hR.1, fun w' hw' => ?_⟩
  have hcell : w'.cell? ⟨b, off, none⟩ = some v := by rw [← hv]; exact cell?_same (hw' b (hs.lt b hU))
  simp [execOp, Instr.loadAt, Instr.sureAddr, loadVar, e1, run_isAgg_flat ht, hcell]

theorem cells_list {w : World} {U : Nat → Prop} {b off : Nat} : ∀ {l : List SV}, Cells w U b off l → ∃ vs : List Value, All2 (fun s v => s.C w U v) l vs ∧ ∀ j v, vs[j]? = some v → w.cell? ⟨b, off + j, none⟩ = some v := by
  intro l
  induction l generalizing off with
  | nil => intro _; exact ⟨[], trivial, by simp⟩
  | cons x l ih =>
    intro h
    obtain ⟨v, hv, hR⟩ := h 0 x rfl
    obtain ⟨vs, h1, h2⟩ := ih (off := off + 1) (fun j s hj => by
      have := h (j + 1) s (by simpa using hj)
      rwa [Nat.add_assoc, Nat.add_comm 1 j])
    refine ⟨v :: vs, ⟨hR, h1⟩, fun j u hj => ?_⟩
    cases j with
    | zero => simp at hj; subst hj; exact hv
    | succ j =>
      have := h2 j u (by simpa using hj)
      rwa [Nat.add_assoc, Nat.add_comm 1 j] at this

end fields

section stores
variable {E : Env} {P : Program} {Q : Exit → Act → World → Prop} {s : St} {ops : Array Oper} {rest : List Oper}
  {dst : Option Tmp} {ty : TypeId} {pos : String} {af : Array Edge} {g : Option (Nat × Bool)}

def putS (cs : List SV) (o : Nat) (l : List SV) : List SV := cs.take o ++ l ++ cs.drop (o + l.length)

theorem storeCells_run {w : World} {b off : Nat} {vs us : List Value} {t : TypeId} (hb : w.heap[b]? = some (.cells ⟨vs⟩ t (0, 0))) (hle : off + us.length ≤ vs.length) (ho : ∀ v ∈ us, v.oneCell' = true) :
    ∃ w', (storeCells ⟨b, off, none⟩ us).run P w = .ok () w' ∧ w'.heap[b]? = some (.cells ⟨vs.take off ++ us ++ vs.drop (off + us.length)⟩ t (0, 0)) ∧ w'.os = w.os ∧ w'.tape = w.tape ∧ w'.output = w.output ∧
      w'.heap.size = w.heap.size ∧ ∀ k, k ≠ b → w'.heap[k]? = w.heap[k]? := by
  have key : ∀ (us : List Value) (i : Nat) (vs : List Value) (w : World), w.heap[b]? = some (.cells ⟨vs⟩ t (0, 0)) → off + i + us.length ≤ vs.length → (∀ v ∈ us, v.oneCell' = true) →
      ∃ w', (storeCells ⟨b, off, none⟩ us i).run P w = .ok () w' ∧ w'.heap[b]? = some (.cells ⟨vs.take (off + i) ++ us ++ vs.drop (off + i + us.length)⟩ t (0, 0)) ∧ w'.os = w.os ∧ w'.tape = w.tape ∧ w'.output = w.output ∧
      w'.heap.size = w.heap.size ∧ ∀ k, k ≠ b → w'.heap[k]? = w.heap[k]? := by
    intro us
    induction us with
    | nil => intro i vs w hb _ _; exact ⟨w, by simp [storeCells], by simpa using hb, rfl, rfl, rfl, rfl, fun _ _ => rfl⟩
    | cons u us ih =>
      intro i vs w hb hle ho
      have hlt : off + i < vs.length := by simp at hle; omega
      have hcell : w.cell? ⟨b, off + i, none⟩ = some vs[off + i] := by simp [World.cell?, hb, hlt]
      have hfr : w.frozen? ⟨b, off + i, none⟩ = false := by simp [World.frozen?, hb]
      have hset : (w.setCell ⟨b, off + i, none⟩ u).heap[b]? = some (.cells ⟨vs.set (off + i) u⟩ t (0, 0)) := by
        simp [World.setCell, Array.getElem?_modify, hb]
      obtain ⟨w', h1, h2, h3, h4, h5, h6, h7⟩ := ih (i + 1) (vs.set (off + i) u) (w.setCell ⟨b, off + i, none⟩ u) hset (by simp at hle ⊢; omega) (fun v hv => ho v (by simp [hv]))
      refine ⟨w', ?_, ?_, h3, h4, h5, by rw [h6]; simp [World.setCell], fun k hk => ?_⟩
      · simp only [storeCells, addr_add, Sem.run_bind, run_store P w _ _ _ (ho u (by simp)), hcell, hfr]
        simpa using h1
      · rw [h2]
        congr 3
        rw [show off + (i + 1) = off + i + 1 from by omega]
        rw [List.take_succ_eq_append_getElem (by simp; omega)]
        simp only [List.getElem_set_self, List.take_set_of_le (Nat.le_refl _), List.append_assoc, List.singleton_append, List.length_cons, List.cons_append, List.nil_append]
        rw [List.drop_set_of_lt (by omega), show off + i + 1 + us.length = off + i + (us.length + 1) from by omega]
      · rw [h7 k hk]
        simp only [World.setCell, Array.getElem?_modify]
        rw [if_neg (by omega)]
  have := key us 0 vs w hb (by omega) ho
  simpa using this

theorem all2_putS {R : SV → Value → Prop} {cs l : List SV} {vs us : List Value} (h : All2 R cs vs) (h' : All2 R l us) (o : Nat) : All2 R (putS cs o l) (vs.take o ++ us ++ vs.drop (o + us.length)) := by
  unfold putS
  rw [← h'.length]
  exact ((h.take o).append h').append (h.drop _)

theorem nodup_unique {H : List Res} (h : (H.flatMap Res.blk).Nodup) {i j : Nat} {r q : Res} {b : Nat} (hi : H[i]? = some r) (hj : H[j]? = some q) (hr : b ∈ r.blk) (hq : b ∈ q.blk) : i = j := by
  induction H generalizing i j with
  | nil => simp at hi
  | cons x H ih =>
    simp only [List.flatMap_cons, List.nodup_append] at h
    obtain ⟨_, h2, h3⟩ := h
    cases i with
    | zero =>
      cases j with
      | zero => rfl
      | succ j =>
        simp at hi hj; subst hi
        exact absurd rfl (h3 b hr b (List.mem_flatMap.2 ⟨q, List.mem_of_getElem? hj, hq⟩))
    | succ i =>
      cases j with
      | zero =>
        simp at hi hj; subst hj
        exact absurd rfl (h3 b hq b (List.mem_flatMap.2 ⟨r, List.mem_of_getElem? hi, hr⟩))
      | succ j => exact congrArg _ (ih h2 (by simpa using hi) (by simpa using hj))

theorem SymAt.reown {a : Act} {w w' : World} {U : Nat → Prop} (hs : SymAt E s a w U) {i : Nat} {r : Res} (hi : s.H[i]? = some r) (r' : Res) (hv : r'.blk = r.blk)
    (ho : r'.own w' U) (hos : w'.os = w.os) (ht : w'.tape = w.tape) (hout : w'.output = w.output) (hsz : w.heap.size ≤ w'.heap.size) (hk : ∀ k, k < w.heap.size → k ∉ r.blk → w'.heap[k]? = w.heap[k]?) :
    SymAt E { s with H := s.H.set i r' } a w' U := by
  have hUk : ∀ k, U k → w'.heap[k]? = w.heap[k]? := fun k hU => hk k (hs.lt k hU) (fun hm => hs.apart r (List.mem_of_getElem? hi) k hm hU)
  have hmap : (s.H.set i r').map Res.blk = s.H.map Res.blk := by
    rw [List.map_set, hv]
    have : (s.H.map Res.blk)[i]? = some r.blk := by simp [hi]
    apply List.ext_getElem?
    intro n
    by_cases e : i = n
    · subst e
      rw [this, List.getElem?_set_self (by have := (List.getElem?_eq_some_iff.1 this).1; simpa using this)]
    · rw [List.getElem?_set_ne e]
  have hflat : (s.H.set i r').flatMap Res.blk = s.H.flatMap Res.blk := by
    rw [List.flatMap_def, List.flatMap_def, hmap]
  have hmem : ∀ q ∈ s.H.set i r', q = r' ∨ ∃ j, j ≠ i ∧ s.H[j]? = some q := by
    intro q hq
    obtain ⟨j, hj⟩ := List.mem_iff_getElem?.1 hq
    by_cases e : i = j
    · subst e
      rw [List.getElem?_set_self (by have := (List.getElem?_eq_some_iff.1 hi).1; exact this)] at hj
      simp at hj; exact .inl hj.symm
    · rw [List.getElem?_set_ne e] at hj
      exact .inr ⟨j, Ne.symm e, hj⟩
  exact {
    size := hs.size, defers := hs.defers
    slot := fun k x hk' => by
      obtain ⟨v, hv, hr⟩ := hs.slot k x hk'
      exact ⟨v, hv, x.mono (fun _ h => h) hUk hr⟩
    own := fun q hq => by
      rcases hmem q hq with e | ⟨j, hne, hj⟩
      · subst e; exact ho
      · have hq' := hs.own q (List.mem_of_getElem? hj)
        exact Res.own_mono (fun _ h => h) hUk (fun b hb => hk b (Res.lt hq' b hb) (fun hm => hne (nodup_unique hs.nodup hj hi hb hm))) hq'
    nodup := by rw [hflat]; exact hs.nodup
    apart := fun q hq b hb => by
      rcases hmem q hq with e | ⟨j, hne, hj⟩
      · subst e; exact hs.apart r (List.mem_of_getElem? hi) b (by rwa [hv] at hb)
      · exact hs.apart q (List.mem_of_getElem? hj) b hb
    base := fun q hq b hb => by
      rcases hmem q hq with e | ⟨j, hne, hj⟩
      · subst e; exact hs.base r (List.mem_of_getElem? hi) b (by rwa [hv] at hb)
      · exact hs.base q (List.mem_of_getElem? hj) b hb
    lt := fun k hk => Nat.lt_of_lt_of_le (hs.lt k hk) hsz
    from0 := hs.from0, to0 := hs.to0, glob := hs.glob.mono (fun _ h => h) hUk
    ext := ⟨hos.trans hs.ext.os, ht.trans hs.ext.tape, hout.trans hs.ext.output, Nat.le_trans hs.ext.size hsz, fun k hk' hm =>
      (hk k (Nat.lt_of_lt_of_le hk' hs.ext.size) (fun hb => by
        rcases hs.base r (List.mem_of_getElem? hi) k hb with h | h
        · omega
        · exact hm h)).trans (hs.ext.block k hk' hm)⟩ }
end stores
end Go.Sx
