/-
  Steps of a walk over the symbolic state: panics, and closures that catch them. Ours; it knows no program.
-/
import Derived.Test.YtlipjaacncpaoaaSxS
import Derived.Recover
namespace Go.Sx
set_option linter.unusedVariables false
set_option linter.unusedSectionVars false
set_option linter.unusedSimpArgs false
variable [Gv]

section
variable {E : Env} {P : Program} {Q : Exit → Act → World → Prop} {s : St} {ops : Array Oper} {rest : List Oper} {o : Oper} {dst : Option Tmp} {ty : TypeId} {pos : String} {af : Array Edge} {g : Option (Nat × Bool)}

abbrev pch (tx : TypeId) (vx : Value) : List PanicEntry := [{ v := .iface tx vx, recovered := false }]
def PanE (E : Env) (e : Ending) (w' : World) : Prop := ∃ tx vx, e = .panicked (pch tx vx) ∧ Ext E.M E.w0 w'
def Fx (P : Program) (f : Nat) (A : List SV) (HA : List Res) {X : Type} (pan : Bool) (r : X → SV) (HR : X → List Res) : Prop :=
  ∀ (w : World) (U : Nat → Prop) (args : List Value), All2 (fun s v => s.R w U v) A args → (∀ q ∈ HA, q.own w U) → (HA.flatMap Res.blk).Nodup → (∀ q ∈ HA, ∀ b ∈ q.blk, ¬ U b) →
    (∀ k, U k → k < w.heap.size) → GOk w U → Calls P f args.toArray w (bif pan then PanE ⟨w, U, HA.flatMap Res.blk⟩ else PostE ⟨w, U, HA.flatMap Res.blk⟩ r HR)
theorem Fx.fn {f : Nat} {A : List SV} {HA : List Res} {X : Type} {r : X → SV} {HR : X → List Res} (h : Fx P f A HA false r HR) : Fn P f A HA r HR := h
def Pan (P : Program) (s : St) (o : Oper) : Prop := ∀ E a w U, SymAt E s a w U → ∃ tx vx w', (execOp a.eval o).run P w = .halt (.panic (.iface tx vx)) w' ∧ Ext [] w w'
def PanQ (E : Env) (Q : Exit → Act → World → Prop) (s : St) : Prop := ∀ tx vx, TX E (Q (.panic (pch tx vx))) s
def Catch (P : Program) (f : Nat) (A : List SV) (HA HR : List Res) : Prop :=
  ∀ (w : World) (U : Nat → Prop) (args : List Value) (tx : TypeId) (vx : Value), All2 (fun s v => s.R w U v) A args → (∀ q ∈ HA, q.own w U) → (HA.flatMap Res.blk).Nodup → (∀ q ∈ HA, ∀ b ∈ q.blk, ¬ U b) →
    (∀ k, U k → k < w.heap.size) → GOk w U → CallsD P f args.toArray (.panicking (pch tx vx)) w fun e u' w' => settle u' = .returning ∧ PostE ⟨w, U, HA.flatMap Res.blk⟩ (fun _ : Unit => Vl (.tuple #[])) (fun _ => HR) e w'
def Pf (v : Value) (m : Nat) : SV := ⟨fun _ _ u => ∃ a n c, v = .slice a n c ∧ u = .slice a m c, fun _ _ h => h⟩
theorem rd_cutpre {α : Type} {K : Kd α} {e' : TypeId} {v : Value} {xs ys : List α} {i : Nat} {X Hi : Operand} {Lo : Option Operand} {k2 k1 : IntKind} {hi : Int} {t e : TypeId} {z : Option Value} {bytes : Nat} (hx : ev s.L X = some (Vl v)) (hi' : s.H[i]? = some (Rw K e' v xs)) (hK : Nat.ble 1 K.size = true)
    (hlo : Lo = none ∨ ∃ Y, Lo = some Y ∧ ev s.L Y = some (Vl (.int k1 0)))
    (hh : ev s.L Hi = some (Vl (.int k2 hi))) (hc : cut xs 0 hi = some ys) (ht : P.underlying t = some (.slice e)) (he : (P.info? e).map (fun i => (i.zero, i.size, i.bytes)) = some (z, K.size, bytes)) : Rd P s ⟨dst, .slice t X Lo (some Hi) none, ty, pos, af, g⟩ (Pf v ys.length) := fun E a w U hs => by
  obtain ⟨c0, c1, c2, c3, c4⟩ := cut_len hc
  have e1 : a.eval X = v := look_ev hs hx
  have e3 : a.eval Hi = .int k2 hi := look_ev hs hh
  have hl' : Lo = none ∨ ∃ L, Lo = some L ∧ a.eval L = .int k1 0 := hlo.imp id (fun ⟨L, h1, h2⟩ => ⟨L, h1, look_ev hs h2⟩)
  clear hlo
  cases hinfo : P.info? e with
  | none => rw [hinfo] at he; simp at he
  | some inf =>
    rw [hinfo] at he; simp at he
    rcases hs.row (Nat.le_of_ble_eq_true hK) hi' with ⟨h, h'⟩ | ⟨b, cap, vs, sp, h, _, _, _, hcap, _⟩
    · subst h; subst h'
      simp only [List.length_nil] at c2 c4
      obtain rfl : hi = 0 := by omega
      refine ⟨.slice none 0 0, ⟨none, 0, 0, rfl, by rw [show ys.length = 0 from by omega]⟩, fun w' _ => ?_⟩
      rcases hl' with rfl | ⟨L, rfl, e2⟩
      · simp [execOp, Instr.sliceAt, Instr.slice, e1, e3, run_underlying ht, Instr.sliceBounds, run_sliceBound, sizeOf, typeInfo, hinfo, he.2.1]
      · simp [execOp, Instr.sliceAt, Instr.slice, e1, e2, e3, run_underlying ht, Instr.sliceBounds, run_sliceBound, sizeOf, typeInfo, hinfo, he.2.1]
    · subst h
      have h5 : hi ≤ (cap : Int) := by omega
      have hc1 : (hi.toNat : Int) = hi := Int.toNat_of_nonneg (by omega)
      refine ⟨.slice (some ⟨b, 0, none⟩) ys.length cap, ⟨_, _, _, rfl, rfl⟩, fun w' _ => ?_⟩
      have hy : ys.length = hi.toNat := by omega
      rw [hy]
      rcases hl' with rfl | ⟨L, rfl, e2⟩
      · simp [execOp, Instr.sliceAt, Instr.slice, e1, e3, run_underlying ht, Instr.sliceBounds, run_sliceBound, sizeOf, typeInfo, hinfo, he.2.1, addr_add, h5, c1]
      · simp [execOp, Instr.sliceAt, Instr.slice, e1, e2, e3, run_underlying ht, Instr.sliceBounds, run_sliceBound, sizeOf, typeInfo, hinfo, he.2.1, addr_add, h5, c1, (by omega : 0 ≤ hi)]
theorem rd_lenpre {v : Value} {m : Nat} {X : Operand} {t e : TypeId} (hx : ev s.L X = some (Pf v m)) (ht : P.underlying t = some (.slice e)) :
    Rd P s ⟨dst, .call { callee := .builtin .len, args := #[X], argTypes := #[t] }, ty, pos, af, g⟩ (Vl (.int .i64 m)) := fun E a w U hs => by
  obtain ⟨b, n, c, _, e1⟩ := look_ev hs hx
  exact ⟨_, rfl, fun w' _ => by simp [execOp, resolve, invoke, builtin, Builtin.len_, e1, run_underlying ht, goInt]⟩
theorem SymAt.pre {a : Act} {w : World} {U : Nat → Prop} (hs : SymAt E s a w U) {α : Type} {K : Kd α} {e : TypeId} {v : Value} {xs ys : List α} {m i d : Nat} (hd : look s.L d = some (Pf v m)) (hi : s.H[i]? = some (Rw K e v xs)) (hK : Nat.ble 1 K.size = true) (hc : cut xs 0 (m : Int) = some ys) :
    ∃ g : Gs, SymAt E { s with L := (d, Vl (Vs g)) :: s.L, H := s.H.set i (Rw K e (Vs g) ys) } a w U := by
  obtain ⟨u, hu, a', n, c, hv, hr⟩ := hs.slot d _ hd
  obtain ⟨_, _, c2, c3, _⟩ := cut_len hc
  refine ⟨(a', m, c), ?_⟩
  have hys : ys = xs.take m := by
    unfold cut at hc
    split at hc
    · cases hc; simp
    · cases hc
  have hblk : (Rw K e (Vs (a', m, c)) ys).blk = (Rw K e v xs).blk := by
    show blkOf (.slice a' m c) = blkOf v
    rw [hv]; cases a' <;> rfl
  have hre := hs.reown (w' := w) hi (Rw K e (Vs (a', m, c)) ys) hblk ?_ rfl rfl rfl (Nat.le_refl _) (fun _ _ _ => rfl)
  · exact {
      size := hre.size, defers := hre.defers, own := hre.own, nodup := hre.nodup, apart := hre.apart, base := hre.base, lt := hre.lt, from0 := hre.from0, to0 := hre.to0, ext := hre.ext, glob := hre.glob
      slot := fun k x hk => by
        simp only [look] at hk
        cases hb : Nat.beq d k with
        | true =>
          rw [hb] at hk
          simp at hk
          have := Nat.eq_of_beq_eq_true hb
          subst this
          exact ⟨u, hu, by subst hk; exact hr⟩
        | false =>
          rw [hb] at hk
          exact hre.slot k x (by simpa using hk) }
  · rcases hs.row (Nat.le_of_ble_eq_true hK) hi with ⟨h, h'⟩ | ⟨b, cap, vs, sp, h, hb, hvs, hcl, hcap, _⟩
    · subst h'
      rw [h] at hv
      cases hv
      simp only [List.length_nil] at c2
      have hm0 : m = 0 := by omega
      subst hm0
      exact .inl ⟨rfl, by rw [hys]; rfl⟩
    · rw [h] at hv
      cases hv
      have hvl : vs.length = xs.length * K.size := by rw [← hvs.length, flatMap_length]
      have hmx : m ≤ xs.length := by omega
      have hmul : m * K.size ≤ xs.length * K.size := Nat.mul_le_mul_right _ hmx
      have hfl : ys.flatMap K.enc = (xs.flatMap K.enc).take (m * K.size) := by
        rw [hys]
        have h3 : (xs.flatMap K.enc) = (xs.take m).flatMap K.enc ++ (xs.drop m).flatMap K.enc := by rw [← List.flatMap_append, List.take_append_drop]
        have h4 : ((xs.take m).flatMap K.enc).length = m * K.size := by rw [flatMap_length, List.length_take, Nat.min_eq_left hmx]
        rw [h3, ← h4, List.take_left]
      refine .inr ⟨b, m, c, vs.take (m * K.size), vs.drop (m * K.size) ++ sp, rfl, ?_, ?_, ?_, ?_, by omega⟩
      · rw [hb, ← List.append_assoc, List.take_append_drop]
        rfl
      · show All2 _ (ys.flatMap K.enc) _
        rw [hfl]; exact All2.take _ hvs
      · show (ys.flatMap K.enc).length = m * K.size
        rw [flatMap_length, hys, List.length_take, Nat.min_eq_left hmx]
      · rw [← List.append_assoc, List.take_append_drop]; exact hcl
theorem tx_pre {K' : Act → World → Prop} (d i : Nat) {α : Type} {K : Kd α} {e : TypeId} {v : Value} {xs ys : List α} {m : Nat} (hd : look s.L d = some (Pf v m)) (hi : s.H[i]? = some (Rw K e v xs)) (hK : Nat.ble 1 K.size = true) (hc : cut xs 0 (m : Int) = some ys)
    (k : ∀ g : Gs, TX E K' { s with L := (d, Vl (Vs g)) :: s.L, H := s.H.set i (Rw K e (Vs g) ys) }) : TX E K' s := fun a w ⟨U, hs⟩ => by
  obtain ⟨g, h⟩ := hs.pre hd hi hK hc
  exact k g a w ⟨U, h⟩
theorem sr_part {tx e' e : TypeId} {Y : Operand} {α : Type} {K : Kd α} {xs ys : List α} {lo hi : Int} {v : Value} {j : Nat} (hy : ev s.L Y = some (Sp v K.size lo.toNat ys.length)) (hh : s.H[j]? = some (Rw K e v xs)) (hK : Nat.ble 1 K.size = true) (hc : cut xs lo hi = some ys) (hk : P.underlying tx = some (.slice e')) : Sr P s tx Y K ys := fun E a w U hs => by
  obtain ⟨c0, c1, c2, c3, c4⟩ := cut_len hc
  have hye : ys = (xs.take hi.toNat).drop lo.toNat := by
    unfold cut at hc
    split at hc
    · cases hc; rfl
    · cases hc
  rcases look_ev hs hy with ⟨hv, e1, h1, h2⟩ | ⟨b, n, c, o, c', hv, e1, h1⟩
  · rw [e1]
    have : ys = [] := List.length_eq_zero_iff.1 h2
    subst this
    exact ⟨[], Src.ofNil w hk 0, trivial⟩
  · rw [e1]
    by_cases hn : ys = []
    · subst hn
      exact ⟨[], Src.ofSlice w hk ⟨b, o, none⟩ 0 c' [] (by simp) (by simp) (by simp), trivial⟩
    · have hyl : 0 < ys.length := List.length_pos_iff.2 hn
      have ho : o = lo.toNat * K.size := by
        rcases h1 with h | h
        · omega
        · exact h
      rcases hs.row (Nat.le_of_ble_eq_true hK) hh with ⟨h, _⟩ | ⟨b', cap, vs, sp, h, hb, hall, hl, hcap⟩
      · rw [h] at hv; cases hv
      · rw [h] at hv
        cases hv
        have hvl : vs.length = xs.length * K.size := by rw [← hall.length, flatMap_length]
        have hlo : lo.toNat ≤ xs.length := by omega
        have hhi : hi.toNat ≤ xs.length := by omega
        have hf : ys.flatMap K.enc = ((xs.flatMap K.enc).take (hi.toNat * K.size)).drop (lo.toNat * K.size) := by
          rw [hye]
          have key : ∀ (m : Nat) (l : List α), m ≤ l.length → (l.take m).flatMap K.enc = (l.flatMap K.enc).take (m * K.size) ∧ (l.drop m).flatMap K.enc = (l.flatMap K.enc).drop (m * K.size) := by
            intro m l hm
            have h3 : (l.flatMap K.enc) = (l.take m).flatMap K.enc ++ (l.drop m).flatMap K.enc := by rw [← List.flatMap_append, List.take_append_drop]
            have h4 : ((l.take m).flatMap K.enc).length = m * K.size := by rw [flatMap_length, List.length_take, Nat.min_eq_left hm]
            rw [h3, ← h4, List.take_left, List.drop_left]
            exact ⟨rfl, rfl⟩
          rw [(key lo.toNat (xs.take hi.toNat) (by rw [List.length_take]; omega)).2, (key hi.toNat xs hhi).1]
        refine ⟨(vs.take (hi.toNat * K.size)).drop (lo.toNat * K.size), Src.ofSlice w hk _ _ c' _ ?_ (fun j u hj => ?_) (fun u hu => all2c_ones hall u (List.mem_of_mem_take (List.mem_of_mem_drop hu))), ?_⟩
        · rw [List.length_drop, List.length_take, Nat.min_eq_left (by rw [hvl]; exact Nat.mul_le_mul_right _ hhi), ← Nat.sub_mul]
          congr 1; omega
        · rw [ho, addr_add]
          simp only [List.getElem?_drop, List.getElem?_take] at hj
          split at hj
          · have hjv : lo.toNat * K.size + j < vs.length := (List.getElem?_eq_some_iff.1 hj).1
            simp [World.cell?, hb, List.getElem?_append_left hjv, hj]
          · cases hj
        · rw [hf]; exact All2.drop _ (All2.take _ hall)
def ovw {α : Type} (xs : List α) (m : Nat) (ys : List α) : Option (List α) := if m + ys.length ≤ xs.length then some (xs.take m ++ ys ++ xs.drop (m + ys.length)) else none
theorem ox_apre {d i : Nat} {t tx e : TypeId} {X Y : Operand} {α : Type} {K : Kd α} {xs ys zs : List α} {v : Value} {m : Nat} {z : Option Value} {bytes : Nat} (hx : ev s.L X = some (Pf v m)) (hh : s.H[i]? = some (Rw K e v xs)) (hK : Nat.ble 1 K.size = true) (hy : Sr P s tx Y K ys)
    (ha : ovw xs m ys = some zs) (ht : P.underlying t = some (.slice e)) (hz : (P.info? e).map (fun i => (i.zero, i.size, i.bytes)) = some (z, K.size, bytes)) (hd : dst = some d) (hn : Nat.ble (d + 1) s.n = true) {H' : List Res} (hH' : s.H.set i (Rw K e v zs) = H') :
    OX E P ⟨dst, .call { callee := .builtin .append, args := #[X, Y], argTypes := #[t, tx] }, ty, pos, af, g⟩ 1 (fun _ : Unit => { s with L := (d, Pf v (m + ys.length)) :: s.L, H := H' }) s := fun Q a w U hs K' k => by
  subst hH'
  obtain ⟨a0, n0, c0, hv0, e1⟩ := look_ev hs hx
  obtain ⟨news, hsrc, hnew⟩ := hy E a w U hs
  unfold ovw at ha
  split at ha
  case isFalse => cases ha
  rename_i hbd
  cases ha
  cases hinfo : P.info? e with
  | none => rw [hinfo] at hz; simp at hz
  | some inf =>
    rw [hinfo] at hz; simp at hz
    obtain ⟨hz1, hz2, hz3⟩ := hz
    have hK1 := Nat.le_of_ble_eq_true hK
    have hexec : ∀ {u : Value} {w' : World}, (Builtin.append_ #[t, tx] ty #[a.eval X, a.eval Y]).run P w = .ok u w' →
        (execOp a.eval ⟨dst, .call { callee := .builtin .append, args := #[X, Y], argTypes := #[t, tx] }, ty, pos, af, g⟩).run P w = .ok (.value u) w' := by
      intro u w' h
      simp [execOp, resolve, invoke, builtin, h]
    have hlnew : news.length = ys.length * K.size := by rw [hsrc.newsLen]
    rcases hs.row hK1 hh with ⟨hv, rfl⟩ | ⟨b, cap, vs, sp, hv, hb, hvs, hcl, hcap⟩
    · rw [hv] at hv0
      cases hv0
      simp only [List.length_nil, Nat.le_zero] at hbd
      have hm0 : m = 0 := by omega
      have hy0 : ys = [] := List.length_eq_zero_iff.1 (by omega)
      subst hm0; subst hy0
      have hn0 : news = [] := List.length_eq_zero_iff.1 (by simpa using hlnew)
      subst hn0
      have hrun : (Builtin.append_ #[t, tx] ty #[a.eval X, a.eval Y]).run P w = .ok (.slice none 0 0) w := by
        rw [e1]
        have hl := hsrc.len w
        have hc := hsrc.cells
        rw [← hz2] at hc
        simp only [List.length_nil] at hl hc
        rcases hsrc.kind with ⟨e', hk⟩ | hk <;> simp [Builtin.append_, run_underlying ht, run_underlying hk, sizeOf, typeInfo, hinfo, hl, hc]
      unfold Oper.wp
      rw [hexec hrun]
      show K' (a.put dst _) _
      rw [hd]
      have hset : s.H.set i (Rw K e v ([].take 0 ++ ([] : List α) ++ [].drop (0 + 0))) = s.H := by
        apply List.ext_getElem?
        intro j
        by_cases e : i = j
        · subst e
          rw [List.getElem?_set_self (List.getElem?_eq_some_iff.1 hh).1, hh]; rfl
        · rw [List.getElem?_set_ne e]
      refine k () _ _ ⟨U, ?_⟩ (fun h => by cases h) (fun _ => hs.varExt (Ext.refl _ _))
      show SymAt E { s with L := (d, Pf v 0) :: s.L, H := s.H.set i (Rw K e v ([].take 0 ++ ([] : List α) ++ [].drop (0 + 0))) } _ _ _
      rw [hset]
      exact hs.put hn ⟨none, 0, 0, hv, rfl⟩
    · rw [hv] at hv0
      cases hv0
      have hvl : vs.length = xs.length * K.size := by rw [← hvs.length, flatMap_length]
      have hroom : m + ys.length ≤ c0 := by omega
      have hmul : (m + ys.length) * K.size ≤ xs.length * K.size := Nat.mul_le_mul_right _ hbd
      rw [Nat.add_mul] at hmul
      obtain ⟨w', r1, r2, r3, r4, r5, r6, r7⟩ := storeCells_run (P := P) (off := m * K.size) (us := news) hb (by rw [List.length_append, hvl, hlnew]; omega) hsrc.one
      have hrun : (Builtin.append_ #[t, tx] ty #[a.eval X, a.eval Y]).run P w = .ok (.slice (some ⟨b, 0, none⟩) (m + ys.length) c0) w' := by
        rw [e1]
        have hl := hsrc.len w
        have hc := hsrc.cells
        rw [← hz2] at hc r1
        rcases hsrc.kind with ⟨e', hk⟩ | hk <;> simp [Builtin.append_, run_underlying ht, run_underlying hk, sizeOf, typeInfo, hinfo, hl, hc, hroom, addr_add, r1]
      unfold Oper.wp
      rw [hexec hrun]
      show K' (a.put dst _) _
      rw [hd]
      have hblk : (Rw K e v xs).blk = [b] := by simp [rw_blk, hv, blkOf]
      have hk' : ∀ k, k < w.heap.size → k ∉ (Rw K e v xs).blk → w'.heap[k]? = w.heap[k]? := fun k _ hk => r7 k (fun e => hk (by rw [hblk]; simp [e]))
      have hUk : ∀ k, U k → w'.heap[k]? = w.heap[k]? := fun k hU => hk' k (hs.lt k hU) (fun hm => hs.apart _ (List.mem_of_getElem? hh) k hm hU)
      have hzl : (xs.take m ++ ys ++ xs.drop (m + ys.length)).length = xs.length := by
        simp only [List.length_append, List.length_take, List.length_drop]; omega
      have hre := hs.reown hh (Rw K e v (xs.take m ++ ys ++ xs.drop (m + ys.length))) rfl ?_ r3 r4 r5 (Nat.le_of_eq r6.symm) hk'
      · exact k () _ _ ⟨U, hre.put (s := { s with H := s.H.set i (Rw K e v (xs.take m ++ ys ++ xs.drop (m + ys.length))) }) hn ⟨_, _, _, hv, rfl⟩⟩ (fun h => by cases h) (fun _ => hs.varSame hh (by simp [Rw]) hk')
      · have key : ∀ (m : Nat), m ≤ xs.length → (xs.take m).flatMap K.enc = (xs.flatMap K.enc).take (m * K.size) ∧ (xs.drop m).flatMap K.enc = (xs.flatMap K.enc).drop (m * K.size) := by
          intro m hm
          have h3 : (xs.flatMap K.enc) = (xs.take m).flatMap K.enc ++ (xs.drop m).flatMap K.enc := by rw [← List.flatMap_append, List.take_append_drop]
          have h4 : ((xs.take m).flatMap K.enc).length = m * K.size := by rw [flatMap_length, List.length_take, Nat.min_eq_left hm]
          rw [h3, ← h4, List.take_left, List.drop_left]
          exact ⟨rfl, rfl⟩
        refine .inr ⟨b, xs.length, c0, vs.take (m * K.size) ++ news ++ vs.drop ((m + ys.length) * K.size), sp, by rw [← hv]; rfl, ?_, ?_, ?_, ?_, hcap.1⟩
        · rw [r2]
          show some (Obj.cells _ _ _) = some (Obj.cells _ _ _)
          congr 2
          rw [hlnew, ← Nat.add_mul, List.take_append_of_le_length (by rw [hvl]; exact Nat.mul_le_mul_right _ (by omega)), List.drop_append_of_le_length (by rw [hvl]; exact Nat.mul_le_mul_right _ hbd)]
          simp [List.append_assoc]
        · show All2 _ ((xs.take m ++ ys ++ xs.drop (m + ys.length)).flatMap K.enc) _
          rw [List.flatMap_append, List.flatMap_append, (key m (by omega)).1, (key (m + ys.length) hbd).2]
          exact all2c_mono (fun _ h => h) hUk (((All2.take _ hvs).append hnew).append (All2.drop _ hvs))
        · show ((xs.take m ++ ys ++ xs.drop (m + ys.length)).flatMap K.enc).length = _
          rw [flatMap_length, hzl]
        · simp only [List.length_append, List.length_take, List.length_drop] at hcl ⊢
          rw [hlnew, hvl] at *
          rw [Nat.add_mul]
          omega
end
end Go.Sx
