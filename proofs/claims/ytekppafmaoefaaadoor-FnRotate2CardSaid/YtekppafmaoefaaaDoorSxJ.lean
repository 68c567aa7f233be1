/-
  Steps of a walk over the symbolic state: memory of one's own in the form that serves in order and in regions that draw; rows whose address is not told. Ours; it knows no program.
-/
import Derived.Test.YtekppafmaoefaaaDoorSxI
namespace Go.Sx
set_option linter.unusedVariables false
set_option linter.unusedSectionVars false
set_option linter.unusedSimpArgs false
variable [Gv]

abbrev Gs := Option Addr × Nat × Nat
@[reducible] def Vs (g : Gs) : Value := .slice g.1 g.2.1 g.2.2

def Rw {α : Type} (K : Kd α) (e : TypeId) (v : Value) (xs : List α) : Res := ⟨v, xs.flatMap K.enc, e, some K.size⟩

theorem flatMap_nil {α : Type} {K : Kd α} (hK : 0 < K.size) {xs : List α} (h : xs.flatMap K.enc = []) : xs = [] := by
  have : xs.length * K.size = 0 := by rw [← flatMap_length, h]; rfl
  cases xs with
  | nil => rfl
  | cons x xs =>
    rcases Nat.mul_eq_zero.1 this with h | h
    · simp at h
    · omega

theorem own_rw {α : Type} {K : Kd α} {e : TypeId} {v : Value} {xs : List α} {w : World} {U : Nat → Prop} (hK : 0 < K.size) (h : (Rw K e v xs).own w U) :
    (v = .slice none 0 0 ∧ xs = []) ∨ ∃ b cap vs sp, v = .slice (some ⟨b, 0, none⟩) xs.length cap ∧ w.heap[b]? = some (.cells ⟨vs ++ sp⟩ e (0, 0)) ∧ All2 (fun s v => s.C w U v) (xs.flatMap K.enc) vs ∧
      (vs ++ sp).length = cap * K.size ∧ xs.length ≤ cap := by
  rcases h with ⟨h1, h2⟩ | ⟨b, n, cap, vs, sp, h1, h2, h3, h4, h5, h6⟩
  · exact .inl ⟨h1, flatMap_nil hK h2⟩
  · have h4' : (xs.flatMap K.enc).length = n * K.size := h4
    rw [flatMap_length] at h4'
    have hn : xs.length = n := Nat.eq_of_mul_eq_mul_right hK h4'
    subst hn
    exact .inr ⟨b, cap, vs, sp, h1, h2, h3, h5, h6⟩

theorem rw_blk {α : Type} {K : Kd α} {e : TypeId} {v : Value} {xs : List α} : (Rw K e v xs).blk = blkOf v := rfl

section
variable {E : Env} {P : Program} {s : St} {dst : Option Tmp} {ty : TypeId} {pos : String} {af : Array Edge} {g : Option (Nat × Bool)}

theorem SymAt.row {a : Act} {w : World} {U : Nat → Prop} (hs : SymAt E s a w U) {α : Type} {K : Kd α} {e : TypeId} {v : Value} {xs : List α} {i : Nat} (hK : 0 < K.size) (hi : s.H[i]? = some (Rw K e v xs)) :
    (v = .slice none 0 0 ∧ xs = []) ∨ ∃ b cap vs sp, v = .slice (some ⟨b, 0, none⟩) xs.length cap ∧ w.heap[b]? = some (.cells ⟨vs ++ sp⟩ e (0, 0)) ∧ All2 (fun s v => s.C w U v) (xs.flatMap K.enc) vs ∧
      (vs ++ sp).length = cap * K.size ∧ xs.length ≤ cap ∧ b < w.heap.size := by
  have hm := List.mem_of_getElem? hi
  have ho := hs.own _ hm
  have hlt := Res.lt ho
  rcases own_rw hK ho with h | ⟨b, cap, vs, sp, h1, h2, h3, h4, h5⟩
  · exact .inl h
  · exact .inr ⟨b, cap, vs, sp, h1, h2, h3, h4, h5, hlt b (by simp [rw_blk, h1, blkOf])⟩

theorem ox_box {d : Nat} {t : TypeId} {X : Operand} {x : SV} {l : List SV} (hx : ev s.L X = some x) (hl : Lv x l) (hd : dst = some d) (hn : Nat.ble (d + 1) s.n = true) :
    OX E P ⟨dst, .box t X, ty, pos, af, g⟩ 0 (fun q : Addr => { s with L := (d, Vl (.pointer (some q))) :: s.L, H := ⟨.pointer (some q), l, t, none⟩ :: s.H }) s := fun Q a w U hs K k => by
  obtain ⟨vs, hv, hall⟩ := hl w U _ (look_ev hs hx)
  unfold Oper.wp
  have hrun : (execOp a.eval ⟨dst, .box t X, ty, pos, af, g⟩).run P w = .ok (.value (.pointer (some ⟨w.heap.size, 0, none⟩))) { w with heap := w.heap.push (.cells ⟨vs⟩ t) } := by
    simp [execOp, Instr.box, newVar, newRow, hv]
  rw [hrun]
  show K (a.put dst _) _
  rw [hd]
  have hnew := hs.own_new ⟨.pointer (some ⟨w.heap.size, 0, none⟩), l, t, none⟩ ⟨vs⟩ t (by simp [Res.blk, blkOf])
    (by simp only [Res.own]; exact ⟨w.heap.size, vs, rfl, by simp, all2_new _ hs.lt hall⟩)
  exact k _ _ _ ⟨U, hnew.put hn rfl⟩ (fun _ => ⟨rfl, rfl, rfl, by simp, fun i hi _ => by simp only [Array.getElem?_push]; rw [if_neg (by omega)]⟩) (fun h => by cases h)

theorem ext_push (w : World) (o : Obj) : Ext [] w { w with heap := w.heap.push o } :=
  ⟨rfl, rfl, rfl, by simp, fun i hi _ => by simp only [Array.getElem?_push]; rw [if_neg (by omega)]⟩

theorem ox_alloc {d : Nat} {t : TypeId} {zs : List Value} {size bytes : Nat} {z : Value} (hz : (P.info? t).map (fun i => (i.zero, i.size, i.bytes)) = some (some z, size, bytes)) (hc : z.cells = ⟨zs⟩) (h1 : zs.all (·.oneCell') = true) (hd : dst = some d) (hn : Nat.ble (d + 1) s.n = true)
    {l : List SV} (hl : zs.map Vl = l) :
    OX E P ⟨dst, .alloc t, ty, pos, af, g⟩ 0 (fun q : Addr => { s with L := (d, Vl (.pointer (some q))) :: s.L, H := ⟨.pointer (some q), l, t, none⟩ :: s.H }) s := fun Q a w U hs K k => by
  subst hl
  unfold Oper.wp
  have hrun : (execOp a.eval ⟨dst, .alloc t, ty, pos, af, g⟩).run P w = .ok (.value (.pointer (some ⟨w.heap.size, 0, none⟩))) { w with heap := w.heap.push (.cells ⟨zs⟩ t) } := by
    cases hinfo : P.info? t with
    | none => rw [hinfo] at hz; simp at hz
    | some inf =>
      rw [hinfo] at hz; simp at hz
      simp [execOp, Instr.alloc, newVar, newRow, zeroValue, typeInfo, hinfo, hz.1, hc]
  rw [hrun]
  show K (a.put dst _) _
  rw [hd]
  have hnew := hs.own_new ⟨.pointer (some ⟨w.heap.size, 0, none⟩), zs.map Vl, t, none⟩ ⟨zs⟩ t (by simp [Res.blk, blkOf])
    (by simp only [Res.own]; exact ⟨w.heap.size, zs, rfl, by simp, all2_vl h1⟩)
  exact k _ _ _ ⟨U, hnew.put hn rfl⟩ (fun _ => ext_push _ _) (fun h => by cases h)

theorem ox_store {t : TypeId} {X V : Operand} {x : SV} {l : List SV} {i o : Nat} {r : Res} {q p : Addr} {z : Option Value} {bytes : Nat} (hx : ev s.L X = some (Vl (.pointer (some p)))) (hv : ev s.L V = some x) (hl : Lv x l)
    (hr : AtRes s i r q p o) (hle : Nat.ble (o + l.length) r.cs.length = true) (hz : (P.info? t).map (fun i => (i.zero, i.size, i.bytes)) = some (z, l.length, bytes)) (hd : dst = none)
    {H' : List Res} (hH' : s.H.set i { r with cs := putS r.cs o l } = H') :
    OX E P ⟨dst, .store t X V, ty, pos, af, g⟩ 2 (fun _ : Unit => { s with H := H' }) s := fun Q a w U hs K k => by
  subst hH'
  have e1 : a.eval X = .pointer (some p) := look_ev hs hx
  obtain ⟨us, hus, hall⟩ := hl w U _ (look_ev hs hv)
  obtain ⟨b, vs, hq, rfl, hb, hvs, hlt⟩ := atRes_spec hs hr
  have hr0 := hr
  obtain ⟨hi, hrv, hrow, _⟩ := hr0
  have hlen := hvs.length
  have hlen' := hall.length
  have hle' : o + l.length ≤ r.cs.length := Nat.le_of_ble_eq_true hle
  obtain ⟨w', h1, h2, h3, h4, h5, h6, h7⟩ := storeCells_run (P := P) (off := o) (us := us) hb (by omega) (all2c_one hall)
  unfold Oper.wp
  have hrun : (execOp a.eval ⟨dst, .store t X V, ty, pos, af, g⟩).run P w = .ok .skip w' := by
    cases hinfo : P.info? t with
    | none => rw [hinfo] at hz; simp at hz
    | some inf =>
      rw [hinfo] at hz; simp at hz
      simp [execOp, Instr.storeAt, Instr.sureAddr, storeVar, e1, hus, sizeOf, typeInfo, hinfo, hz.2.1, hlen', h1]
  rw [hrun]
  show K (a.put dst undef) w'
  rw [hd]
  have hblk : r.blk = [b] := by simp [Res.blk, hrv, hq, blkOf]
  have hk' : ∀ k, k < w.heap.size → k ∉ r.blk → w'.heap[k]? = w.heap[k]? := fun k _ hk => h7 k (fun e => hk (by rw [hblk]; simp [e]))
  have hUk : ∀ k, U k → w'.heap[k]? = w.heap[k]? := fun k hU => hk' k (hs.lt k hU) (fun hm => hs.apart r (List.mem_of_getElem? hi) k hm hU)
  refine k () _ _ ⟨U, ?_⟩ (fun h => by cases h) (fun h => by cases h)
  refine hs.reown hi { r with cs := putS r.cs o l } rfl ?_ h3 h4 h5 (Nat.le_of_eq h6.symm) hk'
  simp only [Res.own, hrow]
  refine ⟨b, _, by rw [hrv, hq], h2, ?_⟩
  exact all2c_mono (fun _ h => h) hUk (all2_putS hvs hall o)

/-! #### rows whose address is not told -/
def Pr (v : Value) (o : Nat) : SV := ⟨fun _ _ u => ∃ b n c, v = .slice (some ⟨b, 0, none⟩) n c ∧ u = .pointer (some ⟨b, o, none⟩), fun _ _ h => h⟩

end
end Go.Sx
