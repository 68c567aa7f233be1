/-
  Steps of a walk over the symbolic state: memory of one's own in the form that serves in order and in regions that draw; rows whose address is not told. Ours; it knows no program.
-/
import Derived.Test.YtlipjaacncpaoaaSxI
namespace Go.Sx
set_option linter.unusedVariables false
set_option linter.unusedSectionVars false
set_option linter.unusedSimpArgs false
variable [Gv]

abbrev Gs := Option Addr × Nat × Nat
@[reducible] def Vs (g : Gs) : Value := .slice g.1 g.2.1 g.2.2

def Rw {α : Type} (K : Kd α) (e : TypeId) (v : Value) (xs : List α) : Res := ⟨v, xs.flatMap K.enc, e, some K.size⟩

theorem flatMap_nil {α : Type} {K : Kd α} (hK : 0 < K.size) {xs : List α} (h : xs.flatMap K.enc = []) : xs = [] := by
  have : xs.length * K.size = 0 := by rw [← flatMap_length, h]; rfl
  cases xs with
  | nil => rfl
  | cons x xs =>
    rcases Nat.mul_eq_zero.1 this with h | h
    · simp at h
    · omega

theorem own_rw {α : Type} {K : Kd α} {e : TypeId} {v : Value} {xs : List α} {w : World} {U : Nat → Prop} (hK : 0 < K.size) (h : (Rw K e v xs).own w U) :
    (v = .slice none 0 0 ∧ xs = []) ∨ ∃ b cap vs sp, v = .slice (some ⟨b, 0, none⟩) xs.length cap ∧ w.heap[b]? = some (.cells ⟨vs ++ sp⟩ e (0, 0)) ∧ All2 (fun s v => s.C w U v) (xs.flatMap K.enc) vs ∧
      (vs ++ sp).length = cap * K.size ∧ xs.length ≤ cap := by
  rcases h with ⟨h1, h2⟩ | ⟨b, n, cap, vs, sp, h1, h2, h3, h4, h5, h6⟩
  · exact .inl ⟨h1, flatMap_nil hK h2⟩
  · have h4' : (xs.flatMap K.enc).length = n * K.size := h4
    rw [flatMap_length] at h4'
    have hn : xs.length = n := Nat.eq_of_mul_eq_mul_right hK h4'
    subst hn
    exact .inr ⟨b, cap, vs, sp, h1, h2, h3, h5, h6⟩

theorem rw_blk {α : Type} {K : Kd α} {e : TypeId} {v : Value} {xs : List α} : (Rw K e v xs).blk = blkOf v := rfl

section
variable {E : Env} {P : Program} {s : St} {dst : Option Tmp} {ty : TypeId} {pos : String} {af : Array Edge} {g : Option (Nat × Bool)}

theorem SymAt.row {a : Act} {w : World} {U : Nat → Prop} (hs : SymAt E s a w U) {α : Type} {K : Kd α} {e : TypeId} {v : Value} {xs : List α} {i : Nat} (hK : 0 < K.size) (hi : s.H[i]? = some (Rw K e v xs)) :
    (v = .slice none 0 0 ∧ xs = []) ∨ ∃ b cap vs sp, v = .slice (some ⟨b, 0, none⟩) xs.length cap ∧ w.heap[b]? = some (.cells ⟨vs ++ sp⟩ e (0, 0)) ∧ All2 (fun s v => s.C w U v) (xs.flatMap K.enc) vs ∧
      (vs ++ sp).length = cap * K.size ∧ xs.length ≤ cap ∧ b < w.heap.size := by
  have hm := List.mem_of_getElem? hi
  have ho := hs.own _ hm
  have hlt := Res.lt ho
  rcases own_rw hK ho with h | ⟨b, cap, vs, sp, h1, h2, h3, h4, h5⟩
  · exact .inl h
  · exact .inr ⟨b, cap, vs, sp, h1, h2, h3, h4, h5, hlt b (by simp [rw_blk, h1, blkOf])⟩

theorem SymAt.varSame {a : Act} {w w' : World} {U : Nat → Prop} (hs : SymAt E s a w U) {i : Nat} {q : Res} (hi : s.H[i]? = some q) (hq : q.row ≠ none) (hk : ∀ k, k < w.heap.size → k ∉ q.blk → w'.heap[k]? = w.heap[k]?) : VarSame s w w' := fun r hr hrow b hb => by
  refine hk b (Res.lt (hs.own r hr) b hb) (fun hm => ?_)
  obtain ⟨j, hj⟩ := List.mem_iff_getElem?.1 hr
  have := nodup_unique hs.nodup hi hj hm hb
  subst this
  rw [hi] at hj
  cases hj
  exact hq hrow
theorem SymAt.varExt {a : Act} {w w' : World} {U : Nat → Prop} (hs : SymAt E s a w U) (h : Ext [] w w') : VarSame s w w' := fun r hr _ b hb => h.block b (Res.lt (hs.own r hr) b hb) (by simp)

/-! #### new memory -/
theorem ext_push (w : World) (o : Obj) : Ext [] w { w with heap := w.heap.push o } :=
  ⟨rfl, rfl, rfl, by simp, fun i hi _ => by simp only [Array.getElem?_push]; rw [if_neg (by omega)]⟩

theorem ox_alloc {d : Nat} {t : TypeId} {zs : List Value} {size bytes : Nat} {z : Value} (hz : (P.info? t).map (fun i => (i.zero, i.size, i.bytes)) = some (some z, size, bytes)) (hc : z.cells = ⟨zs⟩) (h1 : zs.all (·.oneCell') = true) (hd : dst = some d) (hn : Nat.ble (d + 1) s.n = true)
    {l : List SV} (hl : zs.map Vl = l) :
    OX E P ⟨dst, .alloc t, ty, pos, af, g⟩ 0 (fun q : Addr => { s with L := (d, Vl (.pointer (some q))) :: s.L, H := ⟨.pointer (some q), l, t, none⟩ :: s.H }) s := fun Q a w U hs K k => by
  subst hl
  unfold Oper.wp
  have hrun : (execOp a.eval ⟨dst, .alloc t, ty, pos, af, g⟩).run P w = .ok (.value (.pointer (some ⟨w.heap.size, 0, none⟩))) { w with heap := w.heap.push (.cells ⟨zs⟩ t) } := by
    cases hinfo : P.info? t with
    | none => rw [hinfo] at hz; simp at hz
    | some inf =>
      rw [hinfo] at hz; simp at hz
      simp [execOp, Instr.alloc, newVar, newRow, zeroValue, typeInfo, hinfo, hz.1, hc]
  rw [hrun]
  show K (a.put dst _) _
  rw [hd]
  have hnew := hs.own_new ⟨.pointer (some ⟨w.heap.size, 0, none⟩), zs.map Vl, t, none⟩ ⟨zs⟩ t (by simp [Res.blk, blkOf])
    (by simp only [Res.own]; exact ⟨w.heap.size, zs, rfl, by simp, all2_vl h1⟩)
  exact k _ _ _ ⟨U, hnew.put hn rfl⟩ (fun _ => ext_push _ _) (fun h => by cases h)

def Pr (v : Value) (o : Nat) : SV := ⟨fun _ _ u => ∃ b n c, v = .slice (some ⟨b, 0, none⟩) n c ∧ u = .pointer (some ⟨b, o, none⟩), fun _ _ h => h⟩

theorem rd_lenr {α : Type} {K : Kd α} {e' : TypeId} {v : Value} {xs : List α} {i : Nat} {X : Operand} {t e : TypeId} (hx : ev s.L X = some (Vl v)) (hi : s.H[i]? = some (Rw K e' v xs)) (hK : Nat.ble 1 K.size = true) (ht : P.underlying t = some (.slice e)) :
    Rd P s ⟨dst, .call { callee := .builtin .len, args := #[X], argTypes := #[t] }, ty, pos, af, g⟩ (Vl (.int .i64 xs.length)) := fun E a w U hs => by
  have e1 : a.eval X = v := look_ev hs hx
  have : ∃ b c, v = .slice b xs.length c := by
    rcases hs.row (Nat.le_of_ble_eq_true hK) hi with ⟨h, h'⟩ | ⟨b, cap, vs, sp, h, _⟩
    · exact ⟨_, _, by rw [h, h']; rfl⟩
    · exact ⟨_, _, h⟩
  obtain ⟨b, c, hv⟩ := this
  exact ⟨_, rfl, fun w' _ => by simp [execOp, resolve, invoke, builtin, Builtin.len_, e1, hv, run_underlying ht, goInt]⟩

theorem rd_atr {α : Type} {K : Kd α} {e' : TypeId} {v : Value} {xs : List α} {x : α} {m : Nat} {X I : Operand} {k : IntKind} {i : Int} {t e : TypeId} {z : Option Value} {bytes size : Nat} (hx : ev s.L X = some (Vl v)) (hh : s.H[m]? = some (Rw K e' v xs)) (hK : Nat.ble 1 K.size = true)
    (hi : ev s.L I = some (Vl (.int k i))) (hg : idx xs i = some x) (ht : P.underlying t = some (.slice e)) (he : (P.info? e).map (fun i => (i.zero, i.size, i.bytes)) = some (z, size, bytes)) :
    Rd P s ⟨dst, .indexAddr t X I, ty, pos, af, g⟩ (Pr v (i.toNat * size)) := fun E a w U hs => by
  have e1 : a.eval X = v := look_ev hs hx
  have e2 : a.eval I = .int k i := look_ev hs hi
  obtain ⟨h0, h1, h2⟩ := idx_some hg
  rcases hs.row (Nat.le_of_ble_eq_true hK) hh with ⟨_, h'⟩ | ⟨b, cap, vs, sp, h, _⟩
  · subst h'; simp at h1; omega
  · cases hinfo : P.info? e with
    | none => rw [hinfo] at he; simp at he
    | some inf =>
      rw [hinfo] at he
      simp at he
      refine ⟨.pointer (some ⟨b, i.toNat * size, none⟩), ⟨b, _, _, h, rfl⟩, fun w' _ => ?_⟩
      simp [execOp, Instr.indexAt, asIntOf, e1, e2, h, run_underlying ht, h0, h1, sizeOf, typeInfo, hinfo, he.2.1, addr_add]

theorem row_cell {α : Type} {K : Kd α} {e : TypeId} {v : Value} {xs : List α} {x : α} {m : Nat} {i : Int} {a : Act} {w : World} {U : Nat → Prop} (hs : SymAt E s a w U) (hh : s.H[m]? = some (Rw K e v xs)) (hK : Nat.ble 1 K.size = true) (hg : idx xs i = some x) :
    ∃ b cap vs sp, v = .slice (some ⟨b, 0, none⟩) xs.length cap ∧ w.heap[b]? = some (.cells ⟨vs ++ sp⟩ e (0, 0)) ∧ b < w.heap.size ∧ i.toNat * K.size + K.size ≤ vs.length ∧ All2 (fun s v => s.C w U v) (K.enc x) ((vs.drop (i.toNat * K.size)).take K.size) := by
  obtain ⟨h0, h1, h2⟩ := idx_some hg
  rcases hs.row (Nat.le_of_ble_eq_true hK) hh with ⟨_, h'⟩ | ⟨b, cap, vs, sp, h, hb, hall, hl, hc, hlt⟩
  · subst h'; simp at h1; omega
  · have hlen := hall.length
    rw [flatMap_length] at hlen
    have hile : i.toNat < xs.length := by omega
    have hmul : (i.toNat + 1) * K.size ≤ xs.length * K.size := Nat.mul_le_mul_right _ hile
    rw [Nat.succ_mul] at hmul
    refine ⟨b, cap, vs, sp, h, hb, hlt, by omega, ?_⟩
    have h3 := (hall.drop (i.toNat * K.size)).take K.size
    have : ((xs.flatMap K.enc).drop (i.toNat * K.size)).take K.size = K.enc x := by
      apply List.ext_getElem?
      intro j
      simp only [List.getElem?_take, List.getElem?_drop]
      by_cases hj : j < K.size
      · rw [if_pos hj]
        have hj' : j < (K.enc x).length := by rw [K.len]; exact hj
        rw [List.getElem?_eq_getElem hj', flatMap_get K h2 (j := j) (y := (K.enc x)[j]) (by simp [hj'])]
      · rw [if_neg hj, List.getElem?_eq_none (by rw [K.len]; omega)]
    rwa [this] at h3

theorem rd_loadr {t : TypeId} {X : Operand} {α : Type} {K : Kd α} {e : TypeId} {v : Value} {xs : List α} {x : α} {m o j : Nat} {i : Int} {y : SV} (hx : ev s.L X = some (Pr v o)) (hh : s.H[m]? = some (Rw K e v xs)) (hK : Nat.ble 1 K.size = true) (hg : idx xs i = some x)
    (ho : o = i.toNat * K.size + j) (hj : (K.enc x)[j]? = some y) (ht : Flat P t) : Rd P s ⟨dst, .load t X, ty, pos, af, g⟩ y := fun E a w U hs => by
  subst ho
  obtain ⟨b, c1, c2, hv, e1⟩ := look_ev hs hx
  obtain ⟨b', cap, vs, sp, hv', hb, hlt, hle, hall⟩ := row_cell hs hh hK hg
  rw [hv] at hv'
  simp at hv'
  obtain ⟨rfl, _, _⟩ := hv'
  have hjl : j < K.size := by rw [← K.len x]; exact (List.getElem?_eq_some_iff.1 hj).1
  obtain ⟨u, hu, hR⟩ := hall.get hj
  simp only [List.getElem?_take, List.getElem?_drop, hjl, if_true] at hu
  refine ⟨u, hR.1, fun w' hw' => ?_⟩
  have hcell : w'.cell? ⟨b, i.toNat * K.size + j, none⟩ = some u := by
    simp only [World.cell?, hw' b hlt, hb]
    have : i.toNat * K.size + j < vs.length := by omega
    simpa [List.getElem?_append_left this] using hu
  simp [execOp, Instr.loadAt, Instr.sureAddr, loadVar, e1, run_isAgg_flat ht, hcell]

end
end Go.Sx
