/-
  Steps of a walk over the symbolic state: memory of one's own in the form that serves in order and in regions that draw; rows whose address is not told. Ours; it knows no program.
-/
import Derived.Test.YtjgpiealnfbkcaaSxI
namespace Go.Sx
set_option linter.unusedVariables false
set_option linter.unusedSectionVars false
set_option linter.unusedSimpArgs false
variable [Gv]

abbrev Gs := Option Addr × Nat × Nat
@[reducible] def Vs (g : Gs) : Value := .slice g.1 g.2.1 g.2.2

def Rw {α : Type} (K : Kd α) (e : TypeId) (v : Value) (xs : List α) : Res := ⟨v, xs.flatMap K.enc, e, some K.size⟩

theorem flatMap_nil {α : Type} {K : Kd α} (hK : 0 < K.size) {xs : List α} (h : xs.flatMap K.enc = []) : xs = [] := by
  have : xs.length * K.size = 0 := by rw [← flatMap_length, h]; rfl
  cases xs with
  | nil => rfl
  | cons x xs =>
    rcases Nat.mul_eq_zero.1 this with h | h
    · simp at h
    · omega

theorem own_rw {α : Type} {K : Kd α} {e : TypeId} {v : Value} {xs : List α} {w : World} {U : Nat → Prop} (hK : 0 < K.size) (h : (Rw K e v xs).own w U) :
    (v = .slice none 0 0 ∧ xs = []) ∨ ∃ b cap vs sp, v = .slice (some ⟨b, 0, none⟩) xs.length cap ∧ w.heap[b]? = some (.cells ⟨vs ++ sp⟩ e (0, 0)) ∧ All2 (fun s v => s.C w U v) (xs.flatMap K.enc) vs ∧
      (vs ++ sp).length = cap * K.size ∧ xs.length ≤ cap := by
  rcases h with ⟨h1, h2⟩ | ⟨b, n, cap, vs, sp, h1, h2, h3, h4, h5, h6⟩
  · exact .inl ⟨h1, flatMap_nil hK h2⟩
  · have h4' : (xs.flatMap K.enc).length = n * K.size := h4
    rw [flatMap_length] at h4'
    have hn : xs.length = n := Nat.eq_of_mul_eq_mul_right hK h4'
    subst hn
    exact .inr ⟨b, cap, vs, sp, h1, h2, h3, h5, h6⟩

theorem rw_blk {α : Type} {K : Kd α} {e : TypeId} {v : Value} {xs : List α} : (Rw K e v xs).blk = blkOf v := rfl

section
variable {E : Env} {P : Program} {s : St} {dst : Option Tmp} {ty : TypeId} {pos : String} {af : Array Edge} {g : Option (Nat × Bool)}

theorem SymAt.row {a : Act} {w : World} {U : Nat → Prop} (hs : SymAt E s a w U) {α : Type} {K : Kd α} {e : TypeId} {v : Value} {xs : List α} {i : Nat} (hK : 0 < K.size) (hi : s.H[i]? = some (Rw K e v xs)) :
    (v = .slice none 0 0 ∧ xs = []) ∨ ∃ b cap vs sp, v = .slice (some ⟨b, 0, none⟩) xs.length cap ∧ w.heap[b]? = some (.cells ⟨vs ++ sp⟩ e (0, 0)) ∧ All2 (fun s v => s.C w U v) (xs.flatMap K.enc) vs ∧
      (vs ++ sp).length = cap * K.size ∧ xs.length ≤ cap ∧ b < w.heap.size := by
  have hm := List.mem_of_getElem? hi
  have ho := hs.own _ hm
  have hlt := Res.lt ho
  rcases own_rw hK ho with h | ⟨b, cap, vs, sp, h1, h2, h3, h4, h5⟩
  · exact .inl h
  · exact .inr ⟨b, cap, vs, sp, h1, h2, h3, h4, h5, hlt b (by simp [rw_blk, h1, blkOf])⟩

theorem SymAt.varSame {a : Act} {w w' : World} {U : Nat → Prop} (hs : SymAt E s a w U) {i : Nat} {q : Res} (hi : s.H[i]? = some q) (hq : q.row ≠ none) (hk : ∀ k, k < w.heap.size → k ∉ q.blk → w'.heap[k]? = w.heap[k]?) : VarSame s w w' := fun r hr hrow b hb => by
  refine hk b (Res.lt (hs.own r hr) b hb) (fun hm => ?_)
  obtain ⟨j, hj⟩ := List.mem_iff_getElem?.1 hr
  have := nodup_unique hs.nodup hi hj hm hb
  subst this
  rw [hi] at hj
  cases hj
  exact hq hrow
theorem SymAt.varExt {a : Act} {w w' : World} {U : Nat → Prop} (hs : SymAt E s a w U) (h : Ext [] w w') : VarSame s w w' := fun r hr _ b hb => h.block b (Res.lt (hs.own r hr) b hb) (by simp)

/-! #### new memory -/
theorem ox_box {d : Nat} {t : TypeId} {X : Operand} {x : SV} {l : List SV} (hx : ev s.L X = some x) (hl : Lv x l) (hd : dst = some d) (hn : Nat.ble (d + 1) s.n = true) :
    OX E P ⟨dst, .box t X, ty, pos, af, g⟩ 0 (fun q : Addr => { s with L := (d, Vl (.pointer (some q))) :: s.L, H := ⟨.pointer (some q), l, t, none⟩ :: s.H }) s := fun Q a w U hs K k => by
  obtain ⟨vs, hv, hall⟩ := hl w U _ (look_ev hs hx)
  unfold Oper.wp
  have hrun : (execOp a.eval ⟨dst, .box t X, ty, pos, af, g⟩).run P w = .ok (.value (.pointer (some ⟨w.heap.size, 0, none⟩))) { w with heap := w.heap.push (.cells ⟨vs⟩ t) } := by
    simp [execOp, Instr.box, newVar, newRow, hv]
  rw [hrun]
  show K (a.put dst _) _
  rw [hd]
  have hnew := hs.own_new ⟨.pointer (some ⟨w.heap.size, 0, none⟩), l, t, none⟩ ⟨vs⟩ t (by simp [Res.blk, blkOf])
    (by simp only [Res.own]; exact ⟨w.heap.size, vs, rfl, by simp, all2_new _ hs.lt hall⟩)
  exact k _ _ _ ⟨U, hnew.put hn rfl⟩ (fun _ => ⟨rfl, rfl, rfl, by simp, fun i hi _ => by simp only [Array.getElem?_push]; rw [if_neg (by omega)]⟩) (fun h => by cases h)

theorem ext_push (w : World) (o : Obj) : Ext [] w { w with heap := w.heap.push o } :=
  ⟨rfl, rfl, rfl, by simp, fun i hi _ => by simp only [Array.getElem?_push]; rw [if_neg (by omega)]⟩

theorem ox_alloc {d : Nat} {t : TypeId} {zs : List Value} {size bytes : Nat} {z : Value} (hz : (P.info? t).map (fun i => (i.zero, i.size, i.bytes)) = some (some z, size, bytes)) (hc : z.cells = ⟨zs⟩) (h1 : zs.all (·.oneCell') = true) (hd : dst = some d) (hn : Nat.ble (d + 1) s.n = true)
    {l : List SV} (hl : zs.map Vl = l) :
    OX E P ⟨dst, .alloc t, ty, pos, af, g⟩ 0 (fun q : Addr => { s with L := (d, Vl (.pointer (some q))) :: s.L, H := ⟨.pointer (some q), l, t, none⟩ :: s.H }) s := fun Q a w U hs K k => by
  subst hl
  unfold Oper.wp
  have hrun : (execOp a.eval ⟨dst, .alloc t, ty, pos, af, g⟩).run P w = .ok (.value (.pointer (some ⟨w.heap.size, 0, none⟩))) { w with heap := w.heap.push (.cells ⟨zs⟩ t) } := by
    cases hinfo : P.info? t with
    | none => rw [hinfo] at hz; simp at hz
    | some inf =>
      rw [hinfo] at hz; simp at hz
      simp [execOp, Instr.alloc, newVar, newRow, zeroValue, typeInfo, hinfo, hz.1, hc]
  rw [hrun]
  show K (a.put dst _) _
  rw [hd]
  have hnew := hs.own_new ⟨.pointer (some ⟨w.heap.size, 0, none⟩), zs.map Vl, t, none⟩ ⟨zs⟩ t (by simp [Res.blk, blkOf])
    (by simp only [Res.own]; exact ⟨w.heap.size, zs, rfl, by simp, all2_vl h1⟩)
  exact k _ _ _ ⟨U, hnew.put hn rfl⟩ (fun _ => ext_push _ _) (fun h => by cases h)

theorem ox_store {t : TypeId} {X V : Operand} {x : SV} {l : List SV} {i o : Nat} {r : Res} {q p : Addr} {z : Option Value} {bytes : Nat} (hx : ev s.L X = some (Vl (.pointer (some p)))) (hv : ev s.L V = some x) (hl : Lv x l)
    (hr : AtRes s i r q p o) (hle : Nat.ble (o + l.length) r.cs.length = true) (hz : (P.info? t).map (fun i => (i.zero, i.size, i.bytes)) = some (z, l.length, bytes)) (hd : dst = none)
    {H' : List Res} (hH' : s.H.set i { r with cs := putS r.cs o l } = H') :
    OX E P ⟨dst, .store t X V, ty, pos, af, g⟩ 2 (fun _ : Unit => { s with H := H' }) s := fun Q a w U hs K k => by
  subst hH'
  have e1 : a.eval X = .pointer (some p) := look_ev hs hx
  obtain ⟨us, hus, hall⟩ := hl w U _ (look_ev hs hv)
  obtain ⟨b, vs, hq, rfl, hb, hvs, hlt⟩ := atRes_spec hs hr
  have hr0 := hr
  obtain ⟨hi, hrv, hrow, _⟩ := hr0
  have hlen := hvs.length
  have hlen' := hall.length
  have hle' : o + l.length ≤ r.cs.length := Nat.le_of_ble_eq_true hle
  obtain ⟨w', h1, h2, h3, h4, h5, h6, h7⟩ := storeCells_run (P := P) (off := o) (us := us) hb (by omega) (all2c_one hall)
  unfold Oper.wp
  have hrun : (execOp a.eval ⟨dst, .store t X V, ty, pos, af, g⟩).run P w = .ok .skip w' := by
    cases hinfo : P.info? t with
    | none => rw [hinfo] at hz; simp at hz
    | some inf =>
      rw [hinfo] at hz; simp at hz
      simp [execOp, Instr.storeAt, Instr.sureAddr, storeVar, e1, hus, sizeOf, typeInfo, hinfo, hz.2.1, hlen', h1]
  rw [hrun]
  show K (a.put dst undef) w'
  rw [hd]
  have hblk : r.blk = [b] := by simp [Res.blk, hrv, hq, blkOf]
  have hk' : ∀ k, k < w.heap.size → k ∉ r.blk → w'.heap[k]? = w.heap[k]? := fun k _ hk => h7 k (fun e => hk (by rw [hblk]; simp [e]))
  have hUk : ∀ k, U k → w'.heap[k]? = w.heap[k]? := fun k hU => hk' k (hs.lt k hU) (fun hm => hs.apart r (List.mem_of_getElem? hi) k hm hU)
  refine k () _ _ ⟨U, ?_⟩ (fun h => by cases h) (fun h => by cases h)
  refine hs.reown hi { r with cs := putS r.cs o l } rfl ?_ h3 h4 h5 (Nat.le_of_eq h6.symm) hk'
  simp only [Res.own, hrow]
  refine ⟨b, _, by rw [hrv, hq], h2, ?_⟩
  exact all2c_mono (fun _ h => h) hUk (all2_putS hvs hall o)

/-! #### rows whose address is not told -/
def Pr (v : Value) (o : Nat) : SV := ⟨fun _ _ u => ∃ b n c, v = .slice (some ⟨b, 0, none⟩) n c ∧ u = .pointer (some ⟨b, o, none⟩), fun _ _ h => h⟩

theorem rd_lenr {α : Type} {K : Kd α} {e' : TypeId} {v : Value} {xs : List α} {i : Nat} {X : Operand} {t e : TypeId} (hx : ev s.L X = some (Vl v)) (hi : s.H[i]? = some (Rw K e' v xs)) (hK : Nat.ble 1 K.size = true) (ht : P.underlying t = some (.slice e)) :
    Rd P s ⟨dst, .call { callee := .builtin .len, args := #[X], argTypes := #[t] }, ty, pos, af, g⟩ (Vl (.int .i64 xs.length)) := fun E a w U hs => by
  have e1 : a.eval X = v := look_ev hs hx
  have : ∃ b c, v = .slice b xs.length c := by
    rcases hs.row (Nat.le_of_ble_eq_true hK) hi with ⟨h, h'⟩ | ⟨b, cap, vs, sp, h, _⟩
    · exact ⟨_, _, by rw [h, h']; rfl⟩
    · exact ⟨_, _, h⟩
  obtain ⟨b, c, hv⟩ := this
  exact ⟨_, rfl, fun w' _ => by simp [execOp, resolve, invoke, builtin, Builtin.len_, e1, hv, run_underlying ht, goInt]⟩

theorem rd_atr {α : Type} {K : Kd α} {e' : TypeId} {v : Value} {xs : List α} {x : α} {m : Nat} {X I : Operand} {k : IntKind} {i : Int} {t e : TypeId} {z : Option Value} {bytes size : Nat} (hx : ev s.L X = some (Vl v)) (hh : s.H[m]? = some (Rw K e' v xs)) (hK : Nat.ble 1 K.size = true)
    (hi : ev s.L I = some (Vl (.int k i))) (hg : idx xs i = some x) (ht : P.underlying t = some (.slice e)) (he : (P.info? e).map (fun i => (i.zero, i.size, i.bytes)) = some (z, size, bytes)) :
    Rd P s ⟨dst, .indexAddr t X I, ty, pos, af, g⟩ (Pr v (i.toNat * size)) := fun E a w U hs => by
  have e1 : a.eval X = v := look_ev hs hx
  have e2 : a.eval I = .int k i := look_ev hs hi
  obtain ⟨h0, h1, h2⟩ := idx_some hg
  rcases hs.row (Nat.le_of_ble_eq_true hK) hh with ⟨_, h'⟩ | ⟨b, cap, vs, sp, h, _⟩
  · subst h'; simp at h1; omega
  · cases hinfo : P.info? e with
    | none => rw [hinfo] at he; simp at he
    | some inf =>
      rw [hinfo] at he
      simp at he
      refine ⟨.pointer (some ⟨b, i.toNat * size, none⟩), ⟨b, _, _, h, rfl⟩, fun w' _ => ?_⟩
      simp [execOp, Instr.indexAt, asIntOf, e1, e2, h, run_underlying ht, h0, h1, sizeOf, typeInfo, hinfo, he.2.1, addr_add]

theorem rd_fieldr {t : TypeId} {X : Operand} {v : Value} {o : Nat} {f : Nat} {fs : Array Field} {fd : Field} (hx : ev s.L X = some (Pr v o)) (ht : P.underlying t = some (.struct fs)) (hf : fs[f]? = some fd)
    {z : Option Value} {n bytes : Nat} (hz : (P.info? fd.type).map (fun i => (i.zero, i.size, i.bytes)) = some (z, n + 1, bytes)) {off : Nat} (hoff : fd.offset = off) :
    Rd P s ⟨dst, .fieldAddr t X f, ty, pos, af, g⟩ (Pr v (o + off)) := fun E a w U hs => by
  subst hoff
  obtain ⟨b, c1, c2, hv, e1⟩ := look_ev hs hx
  refine ⟨.pointer (some ⟨b, o + fd.offset, none⟩), ⟨b, c1, c2, hv, rfl⟩, fun w' hw' => ?_⟩
  cases hinfo : P.info? fd.type with
  | none => rw [hinfo] at hz; simp at hz
  | some inf =>
    rw [hinfo] at hz; simp at hz
    simp [execOp, Instr.fieldAt, e1, run_underlying ht, hf, Instr.sureAddr, fieldPlace, sizeOf, typeInfo, hinfo, hz.2.1, addr_add]

theorem row_cell {α : Type} {K : Kd α} {e : TypeId} {v : Value} {xs : List α} {x : α} {m : Nat} {i : Int} {a : Act} {w : World} {U : Nat → Prop} (hs : SymAt E s a w U) (hh : s.H[m]? = some (Rw K e v xs)) (hK : Nat.ble 1 K.size = true) (hg : idx xs i = some x) :
    ∃ b cap vs sp, v = .slice (some ⟨b, 0, none⟩) xs.length cap ∧ w.heap[b]? = some (.cells ⟨vs ++ sp⟩ e (0, 0)) ∧ b < w.heap.size ∧ i.toNat * K.size + K.size ≤ vs.length ∧ All2 (fun s v => s.C w U v) (K.enc x) ((vs.drop (i.toNat * K.size)).take K.size) := by
  obtain ⟨h0, h1, h2⟩ := idx_some hg
  rcases hs.row (Nat.le_of_ble_eq_true hK) hh with ⟨_, h'⟩ | ⟨b, cap, vs, sp, h, hb, hall, hl, hc, hlt⟩
  · subst h'; simp at h1; omega
  · have hlen := hall.length
    rw [flatMap_length] at hlen
    have hile : i.toNat < xs.length := by omega
    have hmul : (i.toNat + 1) * K.size ≤ xs.length * K.size := Nat.mul_le_mul_right _ hile
    rw [Nat.succ_mul] at hmul
    refine ⟨b, cap, vs, sp, h, hb, hlt, by omega, ?_⟩
    have h3 := (hall.drop (i.toNat * K.size)).take K.size
    have : ((xs.flatMap K.enc).drop (i.toNat * K.size)).take K.size = K.enc x := by
      apply List.ext_getElem?
      intro j
      simp only [List.getElem?_take, List.getElem?_drop]
      by_cases hj : j < K.size
      · rw [if_pos hj]
        have hj' : j < (K.enc x).length := by rw [K.len]; exact hj
        rw [List.getElem?_eq_getElem hj', flatMap_get K h2 (j := j) (y := (K.enc x)[j]) (by simp [hj'])]
      · rw [if_neg hj, List.getElem?_eq_none (by rw [K.len]; omega)]
    rwa [this] at h3

theorem rd_loadr {t : TypeId} {X : Operand} {α : Type} {K : Kd α} {e : TypeId} {v : Value} {xs : List α} {x : α} {m o j : Nat} {i : Int} {y : SV} (hx : ev s.L X = some (Pr v o)) (hh : s.H[m]? = some (Rw K e v xs)) (hK : Nat.ble 1 K.size = true) (hg : idx xs i = some x)
    (ho : o = i.toNat * K.size + j) (hj : (K.enc x)[j]? = some y) (ht : Flat P t) : Rd P s ⟨dst, .load t X, ty, pos, af, g⟩ y := fun E a w U hs => by
  subst ho
  obtain ⟨b, c1, c2, hv, e1⟩ := look_ev hs hx
  obtain ⟨b', cap, vs, sp, hv', hb, hlt, hle, hall⟩ := row_cell hs hh hK hg
  rw [hv] at hv'
  simp at hv'
  obtain ⟨rfl, _, _⟩ := hv'
  have hjl : j < K.size := by rw [← K.len x]; exact (List.getElem?_eq_some_iff.1 hj).1
  obtain ⟨u, hu, hR⟩ := hall.get hj
  simp only [List.getElem?_take, List.getElem?_drop, hjl, if_true] at hu
  refine ⟨u, hR.1, fun w' hw' => ?_⟩
  have hcell : w'.cell? ⟨b, i.toNat * K.size + j, none⟩ = some u := by
    simp only [World.cell?, hw' b hlt, hb]
    have : i.toNat * K.size + j < vs.length := by omega
    simpa [List.getElem?_append_left this] using hu
  simp [execOp, Instr.loadAt, Instr.sureAddr, loadVar, e1, run_isAgg_flat ht, hcell]

theorem flatMap_set {α : Type} (K : Kd α) {xs : List α} {i : Nat} {x x' : α} (h : xs[i]? = some x) {j : Nat} {l : List SV} (hx : K.enc x' = putS (K.enc x) j l) (hjl : j + l.length ≤ K.size) :
    (xs.set i x').flatMap K.enc = putS (xs.flatMap K.enc) (i * K.size + j) l := by
  have split1 : ∀ (xs : List α) (i : Nat) (x : α), xs[i]? = some x → xs.flatMap K.enc = (xs.take i).flatMap K.enc ++ (K.enc x ++ (xs.drop (i + 1)).flatMap K.enc) := by
    intro xs i x h
    have hlt := (List.getElem?_eq_some_iff.1 h).1
    have hx : xs[i] = x := (List.getElem?_eq_some_iff.1 h).2
    conv => lhs; rw [← List.take_append_drop i xs, List.drop_eq_getElem_cons hlt, hx]
    simp
  have hlt := (List.getElem?_eq_some_iff.1 h).1
  rw [split1 (xs.set i x') i x' (by simp [hlt]), split1 xs i x h, hx]
  have ht : (xs.set i x').take i = xs.take i := by rw [List.take_set_of_le (Nat.le_refl _)]
  have hd : (xs.set i x').drop (i + 1) = xs.drop (i + 1) := by rw [List.drop_set_of_lt (by omega)]
  rw [ht, hd]
  have hA : ((xs.take i).flatMap K.enc).length = i * K.size := by rw [flatMap_length, List.length_take, Nat.min_eq_left (by omega)]
  unfold putS
  have hxl := K.len x
  rw [List.take_append, hA, List.drop_append, hA]
  rw [show i * K.size + j - i * K.size = j from by omega, show i * K.size + j + l.length - i * K.size = j + l.length from by omega]
  rw [List.take_of_length_le (l := (xs.take i).flatMap K.enc) (by omega), List.drop_eq_nil_of_le (as := (xs.take i).flatMap K.enc) (by omega)]
  rw [List.take_append_of_le_length (by omega), List.drop_append_of_le_length (by omega)]
  simp [List.append_assoc]

theorem ox_storer {t : TypeId} {X V : Operand} {α : Type} {K : Kd α} {e : TypeId} {v : Value} {xs : List α} {x x' : α} {m o j : Nat} {i : Int} {y : SV} {l : List SV} {z : Option Value} {bytes : Nat} (hx : ev s.L X = some (Pr v o)) (hv : ev s.L V = some y) (hl : Lv y l)
    (hh : s.H[m]? = some (Rw K e v xs)) (hK : Nat.ble 1 K.size = true) (hg : idx xs i = some x) (ho : o = i.toNat * K.size + j) (hx' : K.enc x' = putS (K.enc x) j l) (hjl : Nat.ble (j + l.length) K.size = true)
    (hz : (P.info? t).map (fun i => (i.zero, i.size, i.bytes)) = some (z, l.length, bytes)) (hd : dst = none) {H' : List Res} (hH' : s.H.set m (Rw K e v (xs.set i.toNat x')) = H') :
    OX E P ⟨dst, .store t X V, ty, pos, af, g⟩ 1 (fun _ : Unit => { s with H := H' }) s := fun Q a w U hs K' k => by
  subst hH'; subst ho
  obtain ⟨b, c1, c2, hvv, e1⟩ := look_ev hs hx
  obtain ⟨us, hus, hall⟩ := hl w U _ (look_ev hs hv)
  have hjl' : j + l.length ≤ K.size := Nat.le_of_ble_eq_true hjl
  obtain ⟨h0, h1, h2⟩ := idx_some hg
  have hile : i.toNat < xs.length := by omega
  have hmul : (i.toNat + 1) * K.size ≤ xs.length * K.size := Nat.mul_le_mul_right _ hile
  rw [Nat.succ_mul] at hmul
  rcases hs.row (Nat.le_of_ble_eq_true hK) hh with ⟨_, h'⟩ | ⟨b', cap, vs, sp, hv', hb, hvs, hcl, hcap, hlt⟩
  · subst h'; simp at h1; omega
  · rw [hvv] at hv'
    simp at hv'
    obtain ⟨rfl, _, _⟩ := hv'
    have hlen := hvs.length
    rw [flatMap_length] at hlen
    have hlen' := hall.length
    obtain ⟨w', r1, r2, r3, r4, r5, r6, r7⟩ := storeCells_run (P := P) (off := i.toNat * K.size + j) (us := us) hb (by simp; omega) (all2c_one hall)
    unfold Oper.wp
    have hrun : (execOp a.eval ⟨dst, .store t X V, ty, pos, af, g⟩).run P w = .ok .skip w' := by
      cases hinfo : P.info? t with
      | none => rw [hinfo] at hz; simp at hz
      | some inf =>
        rw [hinfo] at hz; simp at hz
        simp [execOp, Instr.storeAt, Instr.sureAddr, storeVar, e1, hus, sizeOf, typeInfo, hinfo, hz.2.1, hlen', r1]
    rw [hrun]
    show K' (a.put dst undef) w'
    rw [hd]
    have hblk : (Rw K e v xs).blk = [b] := by simp [rw_blk, hvv, blkOf]
    have hk' : ∀ k, k < w.heap.size → k ∉ (Rw K e v xs).blk → w'.heap[k]? = w.heap[k]? := fun k _ hk => r7 k (fun e => hk (by rw [hblk]; simp [e]))
    have hUk : ∀ k, U k → w'.heap[k]? = w.heap[k]? := fun k hU => hk' k (hs.lt k hU) (fun hm => hs.apart _ (List.mem_of_getElem? hh) k hm hU)
    refine k () _ _ ⟨U, ?_⟩ (fun h => by cases h) (fun _ => hs.varSame hh (by simp [Rw]) hk')
    refine hs.reown hh (Rw K e v (xs.set i.toNat x')) rfl ?_ r3 r4 r5 (Nat.le_of_eq r6.symm) hk'
    refine .inr ⟨b, c1, c2, vs.take (i.toNat * K.size + j) ++ us ++ vs.drop (i.toNat * K.size + j + us.length), sp, hvv, ?_, ?_, ?_, ?_, ?_⟩
    · rw [r2]
      show some (Obj.cells _ _ _) = some (Obj.cells _ _ _)
      congr 3
      rw [List.take_append_of_le_length (by omega), List.drop_append_of_le_length (by omega)]
      simp only [List.append_assoc]
    · show All2 _ ((xs.set i.toNat x').flatMap K.enc) _
      rw [flatMap_set K h2 hx' hjl']
      exact all2c_mono (fun _ h => h) hUk (all2_putS hvs hall _)
    · show ((xs.set i.toNat x').flatMap K.enc).length = _
      rw [flatMap_length, List.length_set]
      have : c1 = xs.length := by omega
      rw [this]
    · have : c2 = cap := by omega
      subst this
      simp at hcl ⊢; omega
    · omega
end
end Go.Sx
