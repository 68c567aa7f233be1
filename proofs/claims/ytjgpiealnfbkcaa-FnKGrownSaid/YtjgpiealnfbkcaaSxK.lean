/-
  Steps of a walk over the symbolic state: calls, literals, make, append, cuts, deferred closures that have nothing to catch. Ours; it knows no program.
-/
import Derived.Test.YtjgpiealnfbkcaaSxJ
import Derived.Laws.AppendOwn
namespace Go.Sx
set_option linter.unusedVariables false
set_option linter.unusedSectionVars false
set_option linter.unusedSimpArgs false
variable [Gv]

section
variable {E : Env} {P : Program} {s : St} {dst : Option Tmp} {ty : TypeId} {pos : String} {af : Array Edge} {g : Option (Nat × Bool)}

/-! #### calls -/
theorem ox_rowlit {d : Nat} {t e : TypeId} {len : Nat} {ps : List (Nat × Operand)} {zs : List Value} {z : Value} {bytes : Nat} {qs : List (Nat × List SV)} {α : Type} {K : Kd α} {xs : List α} (hp : PartsEv s.L ps qs)
    (ht : P.underlying t = some (.slice e)) (hz : (P.info? e).map (fun i => (i.zero, i.size, i.bytes)) = some (some z, K.size, bytes)) (hzc : z.cells = ⟨zs⟩) (hsz : Nat.ble 1 K.size = true)
    (h1 : zs.all (·.oneCell') = true) (hzl : zs.length = K.size) (hsmall : Nat.ble (len * K.size) 16777216 = true)
    (hf : fillS (fun i => some (i * K.size, K.size)) ((List.range (len * K.size)).map fun i => Vl (zs.getD (i % K.size) undef)) qs = some (xs.flatMap K.enc)) (hxl : xs.length = len) (hd : dst = some d) (hn : Nat.ble (d + 1) s.n = true) :
    OX E P ⟨dst, .buildSlice t len ⟨ps⟩, ty, pos, af, g⟩ 0 (fun g : Gs => { s with L := (d, Vl (Vs g)) :: s.L, H := Rw K e (Vs g) xs :: s.H }) s := fun Q a w U hs K' k => by
  have key := sx_buildSlice (E := E) (P := P) (s := s) (ops := #[]) (Q := Q) (rest := []) (dst := dst) (ty := ty) (pos := pos) (af := af) (g := none) (d := d) (t := t) (e := e) (len := len) hp ht hz hzc (Nat.le_of_ble_eq_true hsz) h1 hzl hsmall hf (by rw [flatMap_length, hxl]) hd hn (wt_none rfl)
  have hrun : ∃ out : List Value, (execOp a.eval ⟨dst, .buildSlice t len ⟨ps⟩, ty, pos, af, g⟩).run P w = .ok (.value (.slice (some ⟨w.heap.size, 0, none⟩) len len)) { w with heap := w.heap.push (.cells ⟨out⟩ e) } ∧ out.length = len * K.size ∧
      All2 (fun s v => s.C w U v) (xs.flatMap K.enc) out := by
    have hzall : All2 (fun s v => s.C w U v) ((List.range (len * K.size)).map fun i => Vl (zs.getD (i % K.size) undef)) ((List.range (len * K.size)).map fun i => zs.getD (i % K.size) undef) := by
      have key : ∀ (l : List Nat), All2 (fun s v => s.C w U v) (l.map fun i => Vl (zs.getD (i % K.size) undef)) (l.map fun i => zs.getD (i % K.size) undef) := by
        intro l
        induction l with
        | nil => trivial
        | cons i l ih =>
          refine ⟨⟨rfl, ?_⟩, ih⟩
          have hlt : i % K.size < zs.length := by rw [hzl]; exact Nat.mod_lt _ (Nat.le_of_ble_eq_true hsz)
          have : zs.getD (i % K.size) undef ∈ zs := by simp [List.getD, hlt]
          exact (List.all_eq_true.1 h1) _ this
      exact key _
    obtain ⟨out, ho, hR⟩ := fill_of (partsEv_at hs hp) hzall hf
    have hlo : out.length = len * K.size := by rw [← hR.length, flatMap_length, hxl]
    refine ⟨out, ?_, hlo, hR⟩
    have hsz' : 0 < K.size := Nat.le_of_ble_eq_true hsz
    cases hinfo : P.info? e with
    | none => rw [hinfo] at hz; simp at hz
    | some inf =>
      rw [hinfo] at hz; simp at hz
      have hle : len * K.size ≤ 16777216 := Nat.le_of_ble_eq_true hsmall
      have hrange : (Array.range (len * K.size)).map (fun i => (if len * K.size = 0 then (#[] : Array Value) else ⟨zs⟩)[i % (if len * K.size = 0 then (#[] : Array Value) else ⟨zs⟩).size]!) = ⟨(List.range (len * K.size)).map fun i => zs.getD (i % K.size) undef⟩ := by
        apply Array.ext'
        simp only [Array.toList_map, Array.toList_range]
        apply List.map_congr_left
        intro i hi
        have hi' : i < len * K.size := List.mem_range.1 hi
        rw [if_neg (by omega)]
        have hlt : i % K.size < zs.length := by rw [hzl]; exact Nat.mod_lt _ hsz'
        have hlt' : i % K.size < (⟨zs⟩ : Array Value).size := by simpa using hlt
        rw [show (⟨zs⟩ : Array Value).size = K.size from by simp [hzl], getElem!_pos (⟨zs⟩ : Array Value) (i % K.size) hlt']
        simp [hlt, List.getD]
      have ho' : Instr.fill (fun i => some (i * K.size, K.size)) ⟨(List.range (len * K.size)).map fun i => zs.getD (i % K.size) undef⟩ (ps.map fun x => match x with | (i, x) => (i, a.eval x)) = some ⟨out⟩ := ho
      have e1 : (Instr.buildSlice t len ((⟨ps⟩ : Array (Nat × Operand)).map fun (i, x) => (i, a.eval x))).run P w = .ok (.slice (some ⟨w.heap.size, 0, none⟩) len len) { w with heap := w.heap.push (.cells ⟨out⟩ e) } := by
        by_cases h0 : len * K.size = 0
        · simp only [h0, if_true] at hrange
          simp only [Instr.buildSlice, zeroValue, sizeOf, typeInfo, Sem.run_bind, run_program, Result.andThen_ok, hinfo, Sem.run_pure, hz.1, hz.2.1, run_underlying ht, h0, if_true]
          rw [if_neg (by omega)]
          simp only [Sem.run_bind, Sem.run_pure, Result.andThen_ok, List.map_toArray]
          rw [show ((Array.range 0).map fun x => (#[] : Array Value)[x % (#[] : Array Value).size]!) = ⟨(List.range 0).map fun i => zs.getD (i % K.size) undef⟩ from by simp]
          rw [h0] at ho'
          rw [ho']
          simp [newRow]
        · simp only [h0, if_false] at hrange
          simp only [Instr.buildSlice, zeroValue, sizeOf, typeInfo, Sem.run_bind, run_program, Result.andThen_ok, hinfo, Sem.run_pure, hz.1, hz.2.1, run_underlying ht, h0, if_false]
          rw [if_neg (by omega)]
          simp only [Sem.run_bind, Sem.run_pure, Result.andThen_ok, List.map_toArray, hzc, hinfo, hz.1, run_program]
          rw [hrange, ho']
          simp [newRow]
      simp only [execOp, Sem.run_bind]
      rw [e1]; rfl
  obtain ⟨out, hrun, hlo, hR⟩ := hrun
  unfold Oper.wp
  rw [hrun]
  show K' (a.put dst _) _
  rw [hd]
  have hnew := hs.own_new (Rw K e (.slice (some ⟨w.heap.size, 0, none⟩) len len) xs) ⟨out⟩ e (by simp [rw_blk, blkOf])
    (.inr ⟨w.heap.size, len, len, out, [], rfl, by simp [Rw], all2_new _ hs.lt hR, by show (xs.flatMap K.enc).length = _; rw [flatMap_length, hxl], by simpa using hlo, Nat.le_refl _⟩)
  exact k (some ⟨w.heap.size, 0, none⟩, len, len) _ _ ⟨U, hnew.put hn rfl⟩ (fun _ => ext_push _ _) (fun h => by cases h)

theorem tx_nilrow {K' : Act → World → Prop} {α : Type} (K : Kd α) (e : TypeId) (k : TX E K' { s with H := Rw K e (.slice none 0 0) [] :: s.H }) : TX E K' s := fun a w ⟨U, hs⟩ =>
  k a w ⟨U, { hs with
    own := fun r hr => by
      rcases List.mem_cons.1 hr with h | h
      · subst h; exact .inl ⟨rfl, rfl⟩
      · exact hs.own r h
    nodup := by
      show ((Rw K e (.slice none 0 0) [] :: s.H).flatMap Res.blk).Nodup
      rw [List.flatMap_cons]; exact hs.nodup
    apart := fun r hr b hb => by
      rcases List.mem_cons.1 hr with h | h
      · subst h; simp [rw_blk, blkOf] at hb
      · exact hs.apart r h b hb
    base := fun r hr b hb => by
      rcases List.mem_cons.1 hr with h | h
      · subst h; simp [rw_blk, blkOf] at hb
      · exact hs.base r h b hb }⟩

/-! #### append -/
def Sr {α : Type} (P : Program) (s : St) (tx : TypeId) (Y : Operand) (K : Kd α) (ys : List α) : Prop :=
  ∀ E a w U, SymAt E s a w U → ∃ news, Src P K.size tx (a.eval Y) ys.length news w ∧ All2 (fun s v => s.C w U v) (ys.flatMap K.enc) news

theorem cells_flat {α : Type} {K : Kd α} {w : World} {U : Nat → Prop} {b : Nat} : ∀ {xs : List α} {off : Nat}, (∀ i x, xs[i]? = some x → Cells w U b (off + i * K.size) (K.enc x)) → Cells w U b off (xs.flatMap K.enc)
  | [], _, _ => fun j s hj => by simp at hj
  | x :: xs, off, h => fun j s hj => by
    have h0 := h 0 x rfl
    have ht := cells_flat (xs := xs) (off := off + K.size) (fun i y hi => by
      have := h (i + 1) y (by simpa using hi)
      rw [Nat.succ_mul] at this
      rwa [show off + K.size + i * K.size = off + (i * K.size + K.size) from by omega])
    simp only [List.flatMap_cons] at hj
    by_cases hlt : j < (K.enc x).length
    · rw [List.getElem?_append_left hlt] at hj
      simpa using h0 j s hj
    · rw [List.getElem?_append_right (by omega), K.len] at hj
      obtain ⟨v, hv, hc⟩ := ht _ s hj
      rw [K.len] at hlt
      exact ⟨v, by rw [show off + j = off + K.size + (j - K.size) from by omega]; exact hv, hc⟩

theorem all2c_ones {w : World} {U : Nat → Prop} {l : List SV} {vs : List Value} (h : All2 (fun s v => s.C w U v) l vs) : ∀ u ∈ vs, u.oneCell' = true := all2c_one h

theorem sr_sl {tx e' : TypeId} {Y : Operand} {α : Type} {K : Kd α} {ys : List α} (hy : ev s.L Y = some (Sl K ys)) (hk : P.underlying tx = some (.slice e')) : Sr P s tx Y K ys := fun E a w U hs => by
  obtain ⟨b, c, e1, hc, h⟩ := look_ev hs hy
  rw [e1]
  by_cases hn : ys = []
  · subst hn
    cases b with
    | none => exact ⟨[], Src.ofNil w hk c, trivial⟩
    | some b => exact ⟨[], Src.ofSlice w hk b 0 c [] (by simp) (by simp) (by simp), trivial⟩
  · obtain ⟨blk, off, rfl, hU, hx⟩ := h hn
    obtain ⟨vs, h1, h2⟩ := cells_list (cells_flat hx)
    refine ⟨vs, Src.ofSlice w hk _ _ c vs ?_ (fun j u hj => by rw [addr_add]; exact h2 j u hj) (all2c_ones h1), h1⟩
    rw [← h1.length, flatMap_length]
theorem sr_row {tx e' e : TypeId} {Y : Operand} {α : Type} {K : Kd α} {ys : List α} {v : Value} {j : Nat} (hy : ev s.L Y = some (Vl v)) (hh : s.H[j]? = some (Rw K e v ys)) (hK : Nat.ble 1 K.size = true) (hk : P.underlying tx = some (.slice e')) : Sr P s tx Y K ys := fun E a w U hs => by
  have e1 : a.eval Y = v := look_ev hs hy
  rw [e1]
  rcases hs.row (Nat.le_of_ble_eq_true hK) hh with ⟨h, rfl⟩ | ⟨b, cap, vs, sp, h, hb, hall, hl, hc, hlt⟩
  · rw [h]; exact ⟨[], Src.ofNil w hk 0, trivial⟩
  · rw [h]
    refine ⟨vs, Src.ofSlice w hk _ _ cap vs ?_ (fun j u hj => ?_) (all2c_ones hall), hall⟩
    · rw [← hall.length, flatMap_length]
    · have : j < vs.length := (List.getElem?_eq_some_iff.1 hj).1
      rw [addr_add]
      simp [World.cell?, hb, List.getElem?_append_left this, hj]
def apd {α : Type} (b : Nat) (xs ys : List α) : Option (List α) := if (xs.length + ys.length) * b ≤ 140737488355328 ∧ xs.length + ys.length ≤ 4611686018427387904 then some (xs ++ ys) else none

theorem SymAt.swap_new {a : Act} {w : World} {U : Nat → Prop} (h : SymAt E s a w U) (r : Res) (c : Array Value) (t : TypeId) (i : Nat) (hb : r.blk = [w.heap.size])
    (ho : r.own { w with heap := w.heap.push (.cells c t) } U) : SymAt E { s with H := r :: s.H.eraseIdx i } a { w with heap := w.heap.push (.cells c t) } U :=
  (h.own_new r c t hb ho).keep (H' := r :: s.H.eraseIdx i) ((List.eraseIdx_sublist s.H i).cons_cons r)

theorem perm_set_front {i : Nat} {r r' : Res} (h : s.H[i]? = some r) : (s.H.set i r').Perm (r' :: s.H.eraseIdx i) := perm_set h r'

theorem ox_append {d i : Nat} {t tx e : TypeId} {X Y : Operand} {α : Type} {K : Kd α} {xs ys zs : List α} {v : Value} {zv : Value} {bytes : Nat} (hx : ev s.L X = some (Vl v)) (hh : s.H[i]? = some (Rw K e v xs)) (hK : Nat.ble 1 K.size = true) (hy : Sr P s tx Y K ys)
    (ha : apd bytes xs ys = some zs) (ht : P.underlying t = some (.slice e)) (hz : (P.info? e).map (fun i => (i.zero, i.size, i.bytes)) = some (some zv, K.size, bytes)) (hzs : zv.cells.size = K.size) (hd : dst = some d) (hn : Nat.ble (d + 1) s.n = true) {H' : List Res} (hH' : s.H.eraseIdx i = H') :
    OX E P ⟨dst, .call { callee := .builtin .append, args := #[X, Y], argTypes := #[t, tx] }, ty, pos, af, g⟩ 1 (fun g : Gs => { s with L := (d, Vl (Vs g)) :: s.L, H := Rw K e (Vs g) zs :: H' }) s := fun Q a w U hs K' k => by
  subst hH'
  have e1 : a.eval X = v := look_ev hs hx
  obtain ⟨news, hsrc, hnew⟩ := hy E a w U hs
  unfold apd at ha
  split at ha
  case isFalse => cases ha
  rename_i hbd
  cases ha
  obtain ⟨hbd1, hbd2⟩ := hbd
  cases hinfo : P.info? e with
  | none => rw [hinfo] at hz; simp at hz
  | some inf =>
    rw [hinfo] at hz; simp at hz
    obtain ⟨hz1, hz2, hz3⟩ := hz
    have hK1 := Nat.le_of_ble_eq_true hK
    have hexec : ∀ {u : Value} {w' : World}, (Builtin.append_ #[t, tx] ty #[v, a.eval Y]).run P w = .ok u w' →
        (execOp a.eval ⟨dst, .call { callee := .builtin .append, args := #[X, Y], argTypes := #[t, tx] }, ty, pos, af, g⟩).run P w = .ok (.value u) w' := by
      intro u w' h
      simp [execOp, resolve, invoke, builtin, e1, h]
    have hlnew : news.length = ys.length * K.size := by rw [hsrc.newsLen]
    have hUw : ∀ k, U k → k < w.heap.size := hs.lt
    have hgrow : ∀ (base : Option Addr) (cap : Nat) (olds : List Value), v = .slice base xs.length cap → (Builtin.firstCells inf.size xs.length (.slice base xs.length cap)).run P w.drew = .ok olds.toArray w.drew → cap < xs.length + ys.length →
        All2 (fun s v => s.C w U v) (xs.flatMap K.enc) olds → Oper.wp P ⟨dst, .call { callee := .builtin .append, args := #[X, Y], argTypes := #[t, tx] }, ty, pos, af, g⟩ a w K' Q := by
      intro base cap olds hv hf hlt hold
      have hfit : Builtin.nextslicecap (xs.length + ys.length) cap * inf.bytes ≤ 281474976710656 := growslice_fits hlt (by rw [hz3]; exact hbd1)
      have hrun := run_append_grow_src (P := P) w t tx ty e inf zv ht hinfo hz1 base xs.length cap olds hf (a.eval Y) ys.length news (by rw [hz2]; exact hsrc) hlt (by omega) hfit
      rw [← hv] at hrun
      unfold Oper.wp
      rw [hexec hrun]
      show K' (a.put dst _) _
      rw [hd]
      have hge := grownCap_ge w (xs.length + ys.length) cap e
      have hlo : olds.length = xs.length * K.size := by rw [← hold.length, flatMap_length]
      have hsd : SymAt E s a w.drew U := hs.world (fun _ _ => rfl) (Nat.le_refl _) rfl rfl rfl
      have hsw := hsd.swap_new (Rw K e (.slice (some ⟨w.heap.size, 0, none⟩) (xs.length + ys.length) (grownCap w (xs.length + ys.length) cap e)) (xs ++ ys))
        ((olds ++ news).toArray ++ Builtin.zeroCells zv.cells (grownCap w (xs.length + ys.length) cap e - (xs.length + ys.length))) e i (by simp [rw_blk, blkOf])
        (.inr ⟨w.heap.size, xs.length + ys.length, grownCap w (xs.length + ys.length) cap e, olds ++ news, (Builtin.zeroCells zv.cells (grownCap w (xs.length + ys.length) cap e - (xs.length + ys.length))).toList, rfl, by
            simp only [show w.drew.heap = w.heap from rfl, Array.getElem?_push, if_true]
            show some (Obj.cells _ _ _) = some (Obj.cells _ _ _)
            congr 2
            apply Array.ext'
            simp, by
            show All2 _ ((xs ++ ys).flatMap K.enc) _
            rw [List.flatMap_append]
            exact all2_new (w := w.drew) _ hUw (all2c_mono (w := w) (fun _ h => h) (fun _ _ => rfl) (hold.append hnew)), by
            show ((xs ++ ys).flatMap K.enc).length = _
            rw [flatMap_length, List.length_append], by
            simp only [List.length_append, Array.length_toList, size_zeroCells, hzs, hlo, hlnew]
            rw [← Nat.add_mul, ← Nat.add_mul]
            congr 1
            omega, hge⟩)
      exact k (some ⟨w.heap.size, 0, none⟩, xs.length + ys.length, grownCap w (xs.length + ys.length) cap e) _ _ ⟨U, hsw.put hn rfl⟩ (fun h => by cases h) (fun _ => hs.varExt (Ext.trans (b := w.drew) ⟨rfl, rfl, rfl, Nat.le_refl _, fun _ _ _ => rfl⟩ (ext_push w.drew _)))
    rcases hs.row hK1 hh with ⟨hv, rfl⟩ | ⟨b, cap, vs, sp, hv, hb, hvs, hcl, hcap, hlt⟩
    · by_cases hyn : ys = []
      · subst hyn
        have hn0 : news = [] := List.length_eq_zero_iff.1 (by simpa using hlnew)
        subst hn0
        have hrun : (Builtin.append_ #[t, tx] ty #[v, a.eval Y]).run P w = .ok (.slice none 0 0) w := by
          rw [hv]
          have hl := hsrc.len w
          have hc := hsrc.cells
          rw [← hz2] at hc
          simp only [List.length_nil] at hl hc
          rcases hsrc.kind with ⟨e', hk⟩ | hk <;> simp [Builtin.append_, run_underlying ht, run_underlying hk, sizeOf, typeInfo, hinfo, hl, hc]
        unfold Oper.wp
        rw [hexec hrun]
        show K' (a.put dst _) _
        rw [hd]
        have hp : s.H.Perm (Rw K e (.slice none 0 0) ([] : List α) :: s.H.eraseIdx i) := by
          have := perm_erase hh
          rwa [hv] at this
        exact k (none, 0, 0) _ _ ⟨U, (hs.perm hp).put (s := { s with H := Rw K e (.slice none 0 0) [] :: s.H.eraseIdx i }) hn rfl⟩ (fun h => by cases h) (fun _ => hs.varExt (Ext.refl _ _))
      · have : 0 < ys.length := List.length_pos_iff.2 hyn
        exact hgrow none 0 [] hv (by simpa using run_firstCells_none (P := P) w.drew inf.size 0 0 0) (by simpa using this) trivial
    · have hvl : vs.length = xs.length * K.size := by rw [← hvs.length, flatMap_length]
      by_cases hroom : xs.length + ys.length ≤ cap
      · have hmul : (xs.length + ys.length) * K.size ≤ cap * K.size := Nat.mul_le_mul_right _ hroom
        rw [Nat.add_mul] at hmul
        obtain ⟨w', r1, r2, r3, r4, r5, r6, r7⟩ := storeCells_run (P := P) (off := xs.length * K.size) (us := news) hb (by rw [hcl, hlnew]; exact hmul) hsrc.one
        have hrun : (Builtin.append_ #[t, tx] ty #[v, a.eval Y]).run P w = .ok (.slice (some ⟨b, 0, none⟩) (xs.length + ys.length) cap) w' := by
          rw [hv]
          have hl := hsrc.len w
          have hc := hsrc.cells
          rw [← hz2] at hc r1
          rcases hsrc.kind with ⟨e', hk⟩ | hk <;> simp [Builtin.append_, run_underlying ht, run_underlying hk, sizeOf, typeInfo, hinfo, hl, hc, hroom, addr_add, r1]
        unfold Oper.wp
        rw [hexec hrun]
        show K' (a.put dst _) _
        rw [hd]
        have hblk : (Rw K e v xs).blk = [b] := by simp [rw_blk, hv, blkOf]
        have hk' : ∀ k, k < w.heap.size → k ∉ (Rw K e v xs).blk → w'.heap[k]? = w.heap[k]? := fun k _ hk => r7 k (fun e => hk (by rw [hblk]; simp [e]))
        have hUk : ∀ k, U k → w'.heap[k]? = w.heap[k]? := fun k hU => hk' k (hs.lt k hU) (fun hm => hs.apart _ (List.mem_of_getElem? hh) k hm hU)
        have hre := hs.reown hh (Rw K e (.slice (some ⟨b, 0, none⟩) (xs.length + ys.length) cap) (xs ++ ys)) (by rw [hblk]; rfl) ?_ r3 r4 r5 (Nat.le_of_eq r6.symm) hk'
        · have hp := hre.perm (perm_set_front hh)
          exact k (some ⟨b, 0, none⟩, xs.length + ys.length, cap) _ _ ⟨U, hp.put (s := { s with H := Rw K e (.slice (some ⟨b, 0, none⟩) (xs.length + ys.length) cap) (xs ++ ys) :: s.H.eraseIdx i }) hn rfl⟩ (fun h => by cases h) (fun _ => hs.varSame hh (by simp [Rw]) hk')
        · refine .inr ⟨b, xs.length + ys.length, cap, vs ++ news, sp.drop news.length, rfl, ?_, ?_, ?_, ?_, hroom⟩
          · rw [r2]
            show some (Obj.cells _ _ _) = some (Obj.cells _ _ _)
            congr 2
            rw [← hvl, List.take_left, ← List.drop_drop, List.drop_left]
          · show All2 _ ((xs ++ ys).flatMap K.enc) _
            rw [List.flatMap_append]
            exact all2c_mono (fun _ h => h) hUk (hvs.append hnew)
          · show ((xs ++ ys).flatMap K.enc).length = _
            rw [flatMap_length, List.length_append]
          · simp only [List.length_append, List.length_drop] at hcl ⊢
            rw [hlnew]
            rw [hvl] at hcl ⊢
            omega
      · refine hgrow (some ⟨b, 0, none⟩) cap vs hv ?_ (by omega) hvs
        exact run_firstCells_some w.drew inf.size xs.length _ _ cap vs (by rw [hvl, hz2]) (fun j u hj => by
          have : j < vs.length := (List.getElem?_eq_some_iff.1 hj).1
          rw [addr_add]
          simp [World.cell?, show w.drew.heap = w.heap from rfl, hb, List.getElem?_append_left this, hj])
end
end Go.Sx
