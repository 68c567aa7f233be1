/-
  Steps of a walk over the symbolic state: stores, freezing, slices that the call makes. Ours; it knows no program.
-/
import Derived.Test.YtmagcmeknclljaaSxE
namespace Go.Sx
set_option linter.unusedVariables false
set_option linter.unusedSectionVars false
set_option linter.unusedSimpArgs false
variable [Gv]

theorem perm_set {α : Type} : ∀ {l : List α} {i : Nat} {r : α}, l[i]? = some r → ∀ x, (l.set i x).Perm (x :: l.eraseIdx i)
  | [], _, _, h, _ => by simp at h
  | y :: l, 0, _, _, x => by simp
  | y :: l, i + 1, r, h, x => by
    simp only [List.set_cons_succ, List.eraseIdx_cons_succ]
    exact ((perm_set (by simpa using h) x).cons y).trans (List.Perm.swap x y _)
theorem perm_erase {α : Type} : ∀ {l : List α} {i : Nat} {r : α}, l[i]? = some r → l.Perm (r :: l.eraseIdx i)
  | [], _, _, h => by simp at h
  | y :: l, 0, r, h => by simp at h; subst h; simp
  | y :: l, i + 1, r, h => by
    simp only [List.eraseIdx_cons_succ]
    exact ((perm_erase (by simpa using h)).cons y).trans (List.Perm.swap r y _)

section states
variable {E : Env} {s : St} {a : Act} {w : World} {U : Nat → Prop}

theorem SymAt.perm (h : SymAt E s a w U) {H' : List Res} (hp : s.H.Perm H') : SymAt E { s with H := H' } a w U where
  size := h.size
  defers := h.defers
  slot := h.slot
  own := fun r hr => h.own r (hp.mem_iff.2 hr)
  nodup := (hp.flatMap_right Res.blk).nodup_iff.1 h.nodup
  apart := fun r hr => h.apart r (hp.mem_iff.2 hr)
  base := fun r hr => h.base r (hp.mem_iff.2 hr)
  lt := h.lt
  from0 := h.from0
  to0 := h.to0
  ext := h.ext
  glob := h.glob
theorem SymAt.keep (h : SymAt E s a w U) {H' : List Res} (hp : Keep H' s.H) : SymAt E { s with H := H' } a w U where
  size := h.size
  defers := h.defers
  slot := h.slot
  own := fun r hr => h.own r (hp.subset hr)
  nodup := (sublist_flatMap hp).nodup h.nodup
  apart := fun r hr => h.apart r (hp.subset hr)
  base := fun r hr => h.base r (hp.subset hr)
  lt := h.lt
  from0 := h.from0
  to0 := h.to0
  ext := h.ext
  glob := h.glob

theorem Sym.weak (h : Sym E s a w) {L' : List (Nat × SV)} {H' H'' : List Res} (hL : Sub L' s.L) (hp : s.H.Perm H'') (hk : Keep H' H'') : Sym E { s with L := L', H := H' } a w := by
  obtain ⟨U, h⟩ := h
  have h' := (h.perm hp).keep (H' := H') hk
  exact ⟨U, { h' with slot := fun k x hk => h.slot k x (hL.look hk) }⟩

/-- own memory that nobody writes any more -/
theorem SymAt.freeze (h : SymAt E s a w U) {i : Nat} {r : Res} (hi : s.H[i]? = some r) : ∃ U', SymAt E { s with H := s.H.eraseIdx i } a w U' ∧ (∀ k, U k → U' k) ∧ (∀ b ∈ r.blk, U' b) ∧ r.own w U' := by
  have hm : r ∈ s.H := List.mem_of_getElem? hi
  have hp := perm_erase hi
  have hn : (r.blk ++ (s.H.eraseIdx i).flatMap Res.blk).Nodup := by
    have := (hp.flatMap_right Res.blk).nodup_iff.1 h.nodup
    simpa [List.flatMap_cons] using this
  have hsub : ∀ q ∈ s.H.eraseIdx i, q ∈ s.H := fun q hq => hp.mem_iff.2 (List.mem_cons_of_mem _ hq)
  refine ⟨fun k => U k ∨ k ∈ r.blk, ?_, fun k hk => .inl hk, fun b hb => .inr hb, Res.own_mono (fun _ h => .inl h) (fun _ _ => rfl) (fun _ _ => rfl) (h.own r hm)⟩
  exact {
    size := h.size, defers := h.defers
    slot := fun k x hk => by
      obtain ⟨v, hv, hr⟩ := h.slot k x hk
      exact ⟨v, hv, x.mono (fun _ h => .inl h) (fun _ _ => rfl) hr⟩
    own := fun q hq => Res.own_mono (fun _ h => .inl h) (fun _ _ => rfl) (fun _ _ => rfl) (h.own q (hsub q hq))
    nodup := (List.nodup_append.1 hn).2.1
    apart := fun q hq b hb hu => by
      rcases hu with hu | hu
      · exact h.apart q (hsub q hq) b hb hu
      · exact absurd rfl ((List.nodup_append.1 hn).2.2 b hu b (List.mem_flatMap.2 ⟨q, hq, hb⟩))
    base := fun q hq => h.base q (hsub q hq)
    lt := fun k hk => hk.elim (h.lt k) (Res.lt (h.own r hm) k)
    from0 := fun k hk => hk.elim (h.from0 k) (fun hb => .inr (h.base r hm k hb))
    to0 := fun k hk => .inl (h.to0 k hk)
    ext := h.ext, glob := h.glob.mono (fun _ h => .inl h) (fun _ _ => rfl) }

theorem flatMap_length {α : Type} (K : Kd α) (xs : List α) : (xs.flatMap K.enc).length = xs.length * K.size := by
  induction xs with
  | nil => simp
  | cons x xs ih => simp [List.flatMap_cons, ih, K.len, Nat.succ_mul]; omega
theorem flatMap_get {α : Type} (K : Kd α) : ∀ {xs : List α} {i : Nat} {x : α}, xs[i]? = some x → ∀ {j : Nat} {y : SV}, (K.enc x)[j]? = some y → (xs.flatMap K.enc)[i * K.size + j]? = some y
  | [], _, _, h, _, _, _ => by simp at h
  | z :: xs, 0, x, h, j, y, hj => by
    simp at h; subst h
    have : j < (K.enc z).length := (List.getElem?_eq_some_iff.1 hj).1
    simp only [List.flatMap_cons, Nat.zero_mul, Nat.zero_add]
    rw [List.getElem?_append_left this]; exact hj
  | z :: xs, i + 1, x, h, j, y, hj => by
    have := flatMap_get K (xs := xs) (i := i) (by simpa using h) hj
    simp only [List.flatMap_cons]
    rw [List.getElem?_append_right (by rw [K.len, Nat.succ_mul]; omega), K.len, show (i + 1) * K.size + j - K.size = i * K.size + j from by rw [Nat.succ_mul]; omega]
    exact this

theorem SymAt.freeze_row (h : SymAt E s a w U) {i t : Nat} {α : Type} {K : Kd α} {xs : List α} {v : Value} {e : TypeId} (hK : 0 < K.size) (hi : s.H[i]? = some ⟨v, xs.flatMap K.enc, e, some K.size⟩) (ht : look s.L t = some (Vl v)) (hn : Nat.ble (t + 1) s.n = true) :
    Sym E { s with L := (t, Sl K xs) :: s.L, H := s.H.eraseIdx i } a w := by
  obtain ⟨U', h', hU, hb, ho⟩ := h.freeze hi
  refine ⟨U', { h' with slot := fun k x hk => ?_ }⟩
  simp only [look] at hk
  by_cases ek : t = k
  · subst ek
    have : Nat.beq t t = true := by simp
    rw [this] at hk; simp at hk; subst hk
    obtain ⟨u, hu, eu⟩ := h.slot t _ ht
    have eu' : u = v := eu
    subst eu'
    refine ⟨u, hu, ?_⟩
    rcases ho with ⟨h1, h2⟩ | ⟨b, n, cap, vs, sp, h1, h2, h3, h4, h5, h6⟩
    · have h1' : u = .slice none 0 0 := h1
      have h2' : xs.flatMap K.enc = [] := h2
      have : xs.length * K.size = 0 := by rw [← flatMap_length, h2']; rfl
      have hx : xs = [] := by
        cases xs with
        | nil => rfl
        | cons x xs =>
          rcases Nat.mul_eq_zero.1 this with h | h
          · simp at h
          · omega
      subst hx
      exact ⟨none, 0, h1', by simp, fun hne => absurd rfl hne⟩
    · have h1' : u = .slice (some ⟨b, 0, none⟩) n cap := h1
      have h4' : (xs.flatMap K.enc).length = n * K.size := h4
      rw [flatMap_length] at h4'
      have hnl : xs.length = n := Nat.eq_of_mul_eq_mul_right hK h4'
      refine ⟨some ⟨b, 0, none⟩, cap, by rw [hnl]; exact h1', by omega, fun _ => ⟨b, 0, rfl, hb b (by simp [Res.blk, h1', blkOf]), fun i x hi j y hj => ?_⟩⟩
      obtain ⟨z, hz, hR⟩ := h3.get (flatMap_get K hi hj)
      refine ⟨z, ?_, hR⟩
      have hlt : i * K.size + j < vs.length := (List.getElem?_eq_some_iff.1 hz).1
      simp [World.cell?, h2, List.getElem?_append_left hlt, hz]
  · have hb' : Nat.beq t k = false := by cases h' : Nat.beq t k with
      | false => rfl
      | true => exact absurd (Nat.eq_of_beq_eq_true h') ek
    rw [hb'] at hk
    exact h'.slot k x hk

theorem SymAt.freeze_var (h : SymAt E s a w U) {i t : Nat} {cs : List SV} {q : Addr} {e : TypeId} (hi : s.H[i]? = some ⟨.pointer (some q), cs, e, none⟩) (ht : look s.L t = some (Vl (.pointer (some q)))) :
    Sym E { s with L := (t, Pt cs) :: s.L, H := s.H.eraseIdx i } a w := by
  obtain ⟨U', h', hU, hb, ho⟩ := h.freeze hi
  refine ⟨U', { h' with slot := fun k x hk => ?_ }⟩
  simp only [look] at hk
  by_cases ek : t = k
  · subst ek
    have : Nat.beq t t = true := by simp
    rw [this] at hk; simp at hk; subst hk
    obtain ⟨u, hu, eu⟩ := h.slot t _ ht
    have eu' : u = .pointer (some q) := eu
    subst eu'
    refine ⟨_, hu, ?_⟩
    obtain ⟨b, vs, h1, h2, h3⟩ := ho
    have h1' : q = ⟨b, 0, none⟩ := by simpa using h1
    subst h1'
    refine ⟨b, 0, rfl, hb b (by simp [Res.blk, blkOf]), fun j y hj => ?_⟩
    obtain ⟨z, hz, hR⟩ := h3.get hj
    exact ⟨z, by simp [World.cell?, h2, hz], hR⟩
  · have hb' : Nat.beq t k = false := by cases h' : Nat.beq t k with
      | false => rfl
      | true => exact absurd (Nat.eq_of_beq_eq_true h') ek
    rw [hb'] at hk
    exact h'.slot k x hk
end states

/-- a state turned into another one, ahead of whatever is shown -/
theorem tx_imp {E : Env} {K : Act → World → Prop} {s s' : St} (h : ∀ a w U, SymAt E s a w U → Sym E s' a w) (k : TX E K s') : TX E K s := fun a w ⟨U, hs⟩ => k a w (h a w U hs)
theorem tx_freeze_row {E : Env} {K' : Act → World → Prop} {s : St} (i t : Nat) {α : Type} {K : Kd α} {xs : List α} {v : Value} {e : TypeId} (hK : 0 < K.size) (hi : s.H[i]? = some ⟨v, xs.flatMap K.enc, e, some K.size⟩) (ht : look s.L t = some (Vl v)) (hn : Nat.ble (t + 1) s.n = true)
    (k : TX E K' { s with L := (t, Sl K xs) :: s.L, H := s.H.eraseIdx i }) : TX E K' s := tx_imp (fun a w U h => h.freeze_row hK hi ht hn) k
theorem tx_freeze_var {E : Env} {K' : Act → World → Prop} {s : St} (i t : Nat) {cs : List SV} {q : Addr} {e : TypeId} (hi : s.H[i]? = some ⟨.pointer (some q), cs, e, none⟩) (ht : look s.L t = some (Vl (.pointer (some q))))
    (k : TX E K' { s with L := (t, Pt cs) :: s.L, H := s.H.eraseIdx i }) : TX E K' s := tx_imp (fun a w U h => h.freeze_var hi ht) k
theorem tx_weak {E : Env} {K' : Act → World → Prop} {s : St} {L' : List (Nat × SV)} {H' H'' : List Res} (hL : Sub L' s.L) (hp : s.H.Perm H'') (hk : Keep H' H'') (k : TX E K' { s with L := L', H := H' }) : TX E K' s :=
  tx_imp (fun a w U h => Sym.weak ⟨U, h⟩ hL hp hk) k
/-- a resource taken to the front -/
theorem tx_front {E : Env} {K' : Act → World → Prop} {s : St} (i : Nat) {r : Res} (hi : s.H[i]? = some r) (k : TX E K' { s with H := r :: s.H.eraseIdx i }) : TX E K' s :=
  tx_imp (fun a w U h => ⟨U, h.perm (perm_erase hi)⟩) k

theorem SymAt.imp {E : Env} {s : St} {a : Act} {w : World} {U : Nat → Prop} (h : SymAt E s a w U) {t : Nat} {x y : SV} (ht : look s.L t = some x) (hi : Imp x y) : SymAt E { s with L := (t, y) :: s.L } a w U :=
  { h with
    slot := fun k z hk => by
      simp only [look] at hk
      by_cases ek : t = k
      · subst ek
        have : Nat.beq t t = true := by simp
        rw [this] at hk; simp at hk; subst hk
        obtain ⟨v, hv, hr⟩ := h.slot t x ht
        exact ⟨v, hv, hi _ _ _ hr⟩
      · have hb' : Nat.beq t k = false := by
          cases h' : Nat.beq t k with
          | false => rfl
          | true => exact absurd (Nat.eq_of_beq_eq_true h') ek
        rw [hb'] at hk
        exact h.slot k z hk }
theorem tx_nilsl {E : Env} {K' : Act → World → Prop} {s : St} (t : Nat) {α : Type} (K : Kd α) (ht : look s.L t = some (Vl (.slice none 0 0))) (hn : Nat.ble (t + 1) s.n = true) (k : TX E K' { s with L := (t, Sl K []) :: s.L }) : TX E K' s :=
  fun a w ⟨U, hs⟩ => k a w ⟨U, hs.imp ht imp_nil⟩
theorem tq_nilsl {E : Env} {K' : Act → World → (Nat → Prop) → Prop} {s : St} (t : Nat) {α : Type} (K : Kd α) (ht : look s.L t = some (Vl (.slice none 0 0))) (hn : Nat.ble (t + 1) s.n = true) (k : TQ E K' { s with L := (t, Sl K []) :: s.L }) : TQ E K' s :=
  fun a w U hs => k a w U (hs.imp ht imp_nil)
theorem tq_weak {E : Env} {K' : Act → World → (Nat → Prop) → Prop} {s : St} {L' : List (Nat × SV)} {H' : List Res} (hL : Sub L' s.L) (hk : Keep H' s.H) (k : TQ E K' { s with L := L', H := H' }) : TQ E K' s :=
  fun a w U hs => k a w U { hs.keep hk with slot := fun k x hk => hs.slot k x (hL.look hk) }

section stores
variable {E : Env} {P : Program} {Q : Exit → Act → World → Prop} {s : St} {ops : Array Oper} {rest : List Oper}
  {dst : Option Tmp} {ty : TypeId} {pos : String} {af : Array Edge} {g : Option (Nat × Bool)}

theorem sx_store {t : TypeId} {X V : Operand} {x : SV} {l : List SV} {i o : Nat} {r : Res} {q p : Addr} {z : Option Value} {bytes : Nat} (hx : ev s.L X = some (Vl (.pointer (some p)))) (hv : ev s.L V = some x) (hl : Lv x l)
    (hr : AtRes s i r q p o) (hle : Nat.ble (o + l.length) r.cs.length = true) (hz : (P.info? t).map (fun i => (i.zero, i.size, i.bytes)) = some (z, l.length, bytes)) (hd : dst = none)
    (hw : Wt ops s ⟨dst, .store t X V, ty, pos, af, g⟩ true) {H' : List Res} (hH' : s.H.set i { r with cs := putS r.cs o l } = H') (k : SX E P ops Q rest { s with H := H' }) :
    SX E P ops Q (⟨dst, .store t X V, ty, pos, af, g⟩ :: rest) s := fun a w ⟨U, hs⟩ => by
  subst hH'
  refine wpList_step fun K hK => ?_
  rw [if_pos (hw E a w U hs)]
  have e1 : a.eval X = .pointer (some p) := look_ev hs hx
  obtain ⟨us, hus, hall⟩ := hl w U _ (look_ev hs hv)
  obtain ⟨b, vs, hq, rfl, hb, hvs, hlt⟩ := atRes_spec hs hr
  have hr0 := hr
  obtain ⟨hi, hrv, hrow, _⟩ := hr0
  have hlen := hvs.length
  have hlen' := hall.length
  have hle' : o + l.length ≤ r.cs.length := Nat.le_of_ble_eq_true hle
  obtain ⟨w', h1, h2, h3, h4, h5, h6, h7⟩ := storeCells_run (P := P) (off := o) (us := us) hb (by omega) (all2c_one hall)
  unfold Oper.wp
  have hrun : (execOp a.eval ⟨dst, .store t X V, ty, pos, af, g⟩).run P w = .ok .skip w' := by
    cases hinfo : P.info? t with
    | none => rw [hinfo] at hz; simp at hz
    | some inf =>
      rw [hinfo] at hz; simp at hz
      simp [execOp, Instr.storeAt, Instr.sureAddr, storeVar, e1, hus, sizeOf, typeInfo, hinfo, hz.2.1, hlen', h1]
  rw [hrun]
  show K (a.put dst undef) w'
  rw [hd]
  have hblk : r.blk = [b] := by simp [Res.blk, hrv, hq, blkOf]
  have hk' : ∀ k, k < w.heap.size → k ∉ r.blk → w'.heap[k]? = w.heap[k]? := fun k _ hk => h7 k (fun e => hk (by rw [hblk]; simp [e]))
  have hUk : ∀ k, U k → w'.heap[k]? = w.heap[k]? := fun k hU => hk' k (hs.lt k hU) (fun hm => hs.apart r (List.mem_of_getElem? hi) k hm hU)
  refine hK _ _ (k _ _ ⟨U, ?_⟩)
  refine hs.reown hi { r with cs := putS r.cs o l } rfl ?_ h3 h4 h5 (Nat.le_of_eq h6.symm) hk'
  simp only [Res.own, hrow]
  refine ⟨b, _, by rw [hrv, hq], h2, ?_⟩
  exact all2c_mono (fun _ h => h) hUk (all2_putS hvs hall o)

/-! #### rows of the call's own -/
def AtRow (s : St) (i : Nat) (r : Res) (q : Addr) (n c size : Nat) : Prop := s.H[i]? = some r ∧ r.v = .slice (some q) n c ∧ r.row = some size

theorem atRow_spec {a : Act} {w : World} {U : Nat → Prop} (hs : SymAt E s a w U) {i : Nat} {r : Res} {q : Addr} {n c size : Nat} (h : AtRow s i r q n c size) :
    ∃ b vs sp, q = ⟨b, 0, none⟩ ∧ w.heap[b]? = some (.cells ⟨vs ++ sp⟩ r.E (0, 0)) ∧ All2 (fun s v => s.C w U v) r.cs vs ∧ r.cs.length = n * size ∧ (vs ++ sp).length = c * size ∧ n ≤ c ∧ b < w.heap.size := by
  obtain ⟨h1, h2, h3⟩ := h
  have hm : r ∈ s.H := List.mem_of_getElem? h1
  have ho := hs.own r hm
  have hl := Res.lt ho
  simp only [Res.own, h3] at ho
  rcases ho with ⟨e, _⟩ | ⟨b, n', cap, vs, sp, e, hb, hc, r1, r2, r3⟩
  · rw [h2] at e; simp at e
  · rw [h2] at e
    simp at e
    obtain ⟨rfl, rfl, rfl⟩ := e
    exact ⟨b, vs, sp, rfl, hb, hc, r1, r2, r3, hl b (by simp [Res.blk, blkOf, h2])⟩

theorem rd_lenv {b : Option Addr} {n c : Nat} {X : Operand} {t e : TypeId} (hx : ev s.L X = some (Vl (.slice b n c))) (ht : P.underlying t = some (.slice e)) :
    Rd P s ⟨dst, .call { callee := .builtin .len, args := #[X], argTypes := #[t] }, ty, pos, af, g⟩ (Vl (.int .i64 n)) := fun E a w U hs => by
  have e1 : a.eval X = .slice b n c := look_ev hs hx
  exact ⟨_, rfl, fun w' _ => by simp [execOp, resolve, invoke, builtin, Builtin.len_, e1, run_underlying ht, goInt]⟩

theorem rd_atv {q : Addr} {n c : Nat} {X I : Operand} {k : IntKind} {i : Int} {t e : TypeId} {z : Option Value} {size bytes : Nat} (hx : ev s.L X = some (Vl (.slice (some q) n c))) (hi : ev s.L I = some (Vl (.int k i)))
    (h0 : 0 ≤ i) (h1 : i < n) (ht : P.underlying t = some (.slice e)) (he : (P.info? e).map (fun i => (i.zero, i.size, i.bytes)) = some (z, size, bytes)) :
    Rd P s ⟨dst, .indexAddr t X I, ty, pos, af, g⟩ (Vl (.pointer (some (q.add (i.toNat * size))))) := fun E a w U hs => by
  have e1 : a.eval X = .slice (some q) n c := look_ev hs hx
  have e2 : a.eval I = .int k i := look_ev hs hi
  refine ⟨_, rfl, fun w' _ => ?_⟩
  cases hinfo : P.info? e with
  | none => rw [hinfo] at he; simp at he
  | some inf =>
    rw [hinfo] at he; simp at he
    simp [execOp, Instr.indexAt, asIntOf, e1, e2, run_underlying ht, h0, h1, sizeOf, typeInfo, hinfo, he.2.1]

theorem rd_load_row {t : TypeId} {X : Operand} {i o : Nat} {r : Res} {q : Addr} {n c size : Nat} {x : SV} (hx : ev s.L X = some (Vl (.pointer (some (q.add o))))) (hr : AtRow s i r q n c size) (hc : r.cs[o]? = some x) (ht : Flat P t) :
    Rd P s ⟨dst, .load t X, ty, pos, af, g⟩ x := fun E a w U hs => by
  have e1 : a.eval X = .pointer (some (q.add o)) := look_ev hs hx
  obtain ⟨b, vs, sp, rfl, hb, hall, _, _, _, hlt⟩ := atRow_spec hs hr
  obtain ⟨v, hv, hR⟩ := hall.get hc
  refine ⟨v, hR.1, fun w' hw' => ?_⟩
  have hcell : w'.cell? (Addr.add ⟨b, 0, none⟩ o) = some v := by
    rw [addr_add]
    have : o < vs.length := (List.getElem?_eq_some_iff.1 hv).1
    simp [World.cell?, hw' b hlt, hb, List.getElem?_append_left this, hv]
  simp [execOp, Instr.loadAt, Instr.sureAddr, loadVar, e1, run_isAgg_flat ht, hcell]

theorem sx_store_row {t : TypeId} {X V : Operand} {x : SV} {l : List SV} {i o : Nat} {r : Res} {q : Addr} {n c es : Nat} {z : Option Value} {bytes : Nat} (hx : ev s.L X = some (Vl (.pointer (some (q.add o))))) (hv : ev s.L V = some x) (hl : Lv x l)
    (hr : AtRow s i r q n c es) (hle : o + l.length ≤ r.cs.length) (hz : (P.info? t).map (fun i => (i.zero, i.size, i.bytes)) = some (z, l.length, bytes)) (hd : dst = none)
    (hw : Wt ops s ⟨dst, .store t X V, ty, pos, af, g⟩ true) {H' : List Res} (hH' : s.H.set i { r with cs := putS r.cs o l } = H') (k : SX E P ops Q rest { s with H := H' }) :
    SX E P ops Q (⟨dst, .store t X V, ty, pos, af, g⟩ :: rest) s := fun a w ⟨U, hs⟩ => by
  subst hH'
  refine wpList_step fun K hK => ?_
  rw [if_pos (hw E a w U hs)]
  have e1 : a.eval X = .pointer (some (q.add o)) := look_ev hs hx
  obtain ⟨us, hus, hall⟩ := hl w U _ (look_ev hs hv)
  obtain ⟨b, vs, sp, hq, hb, hvs, hn1, hn2, hn3, hlt⟩ := atRow_spec hs hr
  subst hq
  have hr0 := hr
  obtain ⟨hi, hrv, hrow⟩ := hr0
  have hlen := hvs.length
  have hlen' := hall.length
  obtain ⟨w', h1, h2, h3, h4, h5, h6, h7⟩ := storeCells_run (P := P) (off := o) (us := us) hb (by simp; omega) (all2c_one hall)
  unfold Oper.wp
  have hrun : (execOp a.eval ⟨dst, .store t X V, ty, pos, af, g⟩).run P w = .ok .skip w' := by
    cases hinfo : P.info? t with
    | none => rw [hinfo] at hz; simp at hz
    | some inf =>
      rw [hinfo] at hz; simp at hz
      simp [execOp, Instr.storeAt, Instr.sureAddr, storeVar, e1, hus, sizeOf, typeInfo, hinfo, hz.2.1, hlen', addr_add, h1]
  rw [hrun]
  show K (a.put dst undef) w'
  rw [hd]
  have hblk : r.blk = [b] := by simp [Res.blk, hrv, blkOf]
  have hk' : ∀ k, k < w.heap.size → k ∉ r.blk → w'.heap[k]? = w.heap[k]? := fun k _ hk => h7 k (fun e => hk (by rw [hblk]; simp [e]))
  have hUk : ∀ k, U k → w'.heap[k]? = w.heap[k]? := fun k hU => hk' k (hs.lt k hU) (fun hm => hs.apart r (List.mem_of_getElem? hi) k hm hU)
  refine hK _ _ (k _ _ ⟨U, ?_⟩)
  refine hs.reown hi { r with cs := putS r.cs o l } rfl ?_ h3 h4 h5 (Nat.le_of_eq h6.symm) hk'
  simp only [Res.own, hrow]
  refine .inr ⟨b, n, c, vs.take o ++ us ++ vs.drop (o + us.length), sp, hrv, ?_, ?_, ?_, ?_, hn3⟩
  · rw [h2]
    congr 3
    rw [List.take_append_of_le_length (by omega), List.drop_append_of_le_length (by omega)]
    simp only [List.append_assoc]
  · exact all2c_mono (fun _ h => h) hUk (all2_putS hvs hall o)
  · simp [putS]; omega
  · simp at hn2 ⊢; omega
end stores
end Go.Sx
