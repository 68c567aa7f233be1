/-
  Steps of a walk over the symbolic state: make, copy, cuts, deferred closures that have nothing to catch, rows that are frozen where a cell holds them. Ours; it knows no program.
-/
import Derived.Test.YthobbfpoooommaaGreatSxK
namespace Go.Sx
set_option linter.unusedVariables false
set_option linter.unusedSectionVars false
set_option linter.unusedSimpArgs false
variable [Gv]

theorem all2_get {α β : Type} {R : α → β → Prop} : ∀ {l : List α} {m : List β}, l.length = m.length → (∀ (j : Nat) (a : α) (b : β), l[j]? = some a → m[j]? = some b → R a b) → All2 R l m
  | [], [], _, _ => trivial
  | a :: l, b :: m, h, k => ⟨k 0 a b rfl rfl, all2_get (by simpa using h) (fun j a b h1 h2 => k (j + 1) a b (by simpa using h1) (by simpa using h2))⟩
  | [], _ :: _, h, _ => by simp at h
  | _ :: _, [], h, _ => by simp at h

section
variable {E : Env} {P : Program} {s : St} {dst : Option Tmp} {ty : TypeId} {pos : String} {af : Array Edge} {g : Option (Nat × Bool)}

/-! #### make -/
def mk {α : Type} (b : Nat) (z : α) (n c : Int) : Option (List α) := if 0 ≤ n ∧ n ≤ c ∧ (b : Int) * c ≤ 281474976710656 ∧ c ≤ 4611686018427387904 then some (List.replicate n.toNat z) else none

theorem all2_len0 {α β : Type} {R : α → β → Prop} : ∀ {l : List α} {m : List β}, All2 R l m → l.length = m.length
  | [], [], _ => rfl
  | _ :: _, _ :: _, h => by simp [all2_len0 h.2]
theorem all2_at0 {α β : Type} {R : α → β → Prop} : ∀ {l : List α} {m : List β} {j : Nat} {a : α} {b : β}, All2 R l m → l[j]? = some a → m[j]? = some b → R a b
  | _ :: _, _ :: _, 0, _, _, h, h1, h2 => by cases h1; cases h2; exact h.1
  | _ :: _, _ :: _, j + 1, _, _, h, h1, h2 => all2_at0 (j := j) h.2 (by simpa using h1) (by simpa using h2)
  | [], _, _, _, _, _, h1, _ => by simp at h1
theorem all2_vl0 : ∀ (zs : List Value), All2 (fun (s : SV) v => ∀ w U, s.R w U v) (zs.map Vl) zs
  | [] => trivial
  | z :: zs => ⟨fun _ _ => rfl, all2_vl0 zs⟩
theorem ox_makes {d : Nat} {t e : TypeId} {X Y : Operand} {k1 k2 : IntKind} {n c : Int} {α : Type} {K : Kd α} {z : α} {xs : List α} {zv : Value} {zs : List Value} {bytes : Nat} (hx : ev s.L X = some (Vl (.int k1 n))) (hy : ev s.L Y = some (Vl (.int k2 c)))
    (ha : mk bytes z n c = some xs) (hK : Nat.ble 1 K.size = true) (ht : P.underlying t = some (.slice e)) (hz : (P.info? e).map (fun i => (i.zero, i.size, i.bytes)) = some (some zv, K.size, bytes)) (hzc : zv.cells = ⟨zs⟩) (h1 : zs.all (·.oneCell') = true)
    (hze : All2 (fun (y : SV) v => ∀ w U, y.R w U v) (K.enc z) zs) (hd : dst = some d) (hn : Nat.ble (d + 1) s.n = true) :
    OX E P ⟨dst, .makeSlice t X Y, ty, pos, af, g⟩ 0 (fun g : Gs => { s with L := (d, Vl (Vs g)) :: s.L, H := Rw K e (Vs g) xs :: s.H }) s := fun Q a w U hs K' k => by
  unfold mk at ha
  split at ha
  case isFalse => cases ha
  rename_i hb
  cases ha
  obtain ⟨h0, hnc, hbytes, h63⟩ := hb
  have e1 : a.eval X = .int k1 n := look_ev hs hx
  have e2 : a.eval Y = .int k2 c := look_ev hs hy
  have hK1 := Nat.le_of_ble_eq_true hK
  cases hinfo : P.info? e with
  | none => rw [hinfo] at hz; simp at hz
  | some inf =>
    rw [hinfo] at hz; simp at hz
    obtain ⟨hz1, hz2, hz3⟩ := hz
    have hrun := run_make (P := P) w t e inf zv ht hinfo hz1 k1 k2 n c h0 hnc (by rw [hz3]; exact hbytes) (by omega)
    have hexec : (execOp a.eval ⟨dst, .makeSlice t X Y, ty, pos, af, g⟩).run P w = .ok (.value (.slice (some ⟨w.heap.size, 0, none⟩) n.toNat c.toNat)) (w.alloc (.cells (madeCells zv.cells (c.toNat * inf.size)) e)) := by
      simp [execOp, e1, e2, hrun]
    unfold Oper.wp
    rw [hexec]
    show K' (a.put dst _) _
    rw [hd]
    have hzl : zs.length = K.size := by rw [← K.len z]; exact (all2_len0 hze).symm
    have hm : (madeCells zv.cells (c.toNat * inf.size)).toList = (List.range (c.toNat * K.size)).map fun i => zs.getD (i % K.size) undef := by
      rw [hzc, hz2]
      simp only [madeCells, Array.toList_map, Array.toList_range]
      apply List.map_congr_left
      intro i hi
      have hlt : i % K.size < zs.length := by rw [hzl]; exact Nat.mod_lt _ hK1
      have hlt' : i % K.size < (⟨zs⟩ : Array Value).size := by simpa using hlt
      rw [show (⟨zs⟩ : Array Value).size = K.size from by simp [hzl], getElem!_pos (⟨zs⟩ : Array Value) (i % K.size) hlt']
      simp [hlt, List.getD]
    have hnc' : n.toNat ≤ c.toNat := by omega
    have hmul : n.toNat * K.size ≤ c.toNat * K.size := Nat.mul_le_mul_right _ hnc'
    have hall : All2 (fun s v => s.C w U v) ((List.replicate n.toNat z).flatMap K.enc) ((madeCells zv.cells (c.toNat * inf.size)).toList.take (n.toNat * K.size)) := by
      refine all2_get ?_ (fun j a b hj1 hj2 => ?_)
      · rw [flatMap_length, hm, List.length_take, List.length_map, List.length_range, List.length_replicate, Nat.min_eq_left hmul]
      · have hjl : j < n.toNat * K.size := by
          have := (List.getElem?_eq_some_iff.1 hj1).1
          rw [flatMap_length] at this
          simpa using this
        have hjm : j % K.size < zs.length := by rw [hzl]; exact Nat.mod_lt _ hK1
        have hje : j % K.size < (K.enc z).length := by rw [K.len]; exact Nat.mod_lt _ hK1
        have hq : j / K.size < n.toNat := Nat.div_lt_of_lt_mul (by rw [Nat.mul_comm]; exact hjl)
        have hfl := flatMap_get K (xs := List.replicate n.toNat z) (i := j / K.size) (x := z) (by simp [hq]) (j := j % K.size) (y := (K.enc z)[j % K.size]) (by rw [List.getElem?_eq_getElem])
        rw [show j / K.size * K.size + j % K.size = j from by rw [Nat.mul_comm]; exact Nat.div_add_mod j K.size] at hfl
        rw [hfl] at hj1
        cases hj1
        rw [hm] at hj2
        simp only [List.getElem?_take, hjl, if_true, List.getElem?_map] at hj2
        rw [List.getElem?_range (by omega)] at hj2
        simp at hj2
        have hb : b = zs[j % K.size] := by
          rw [← hj2]; simp [hjm]
        subst hb
        exact ⟨all2_at0 hze (List.getElem?_eq_getElem hje) (List.getElem?_eq_getElem hjm) _ _, (List.all_eq_true.1 h1) _ (List.getElem_mem hjm)⟩
    have hnew := hs.own_new (Rw K e (.slice (some ⟨w.heap.size, 0, none⟩) n.toNat c.toNat) (List.replicate n.toNat z)) (madeCells zv.cells (c.toNat * inf.size)) e (by simp [rw_blk, blkOf])
      (.inr ⟨w.heap.size, n.toNat, c.toNat, (madeCells zv.cells (c.toNat * inf.size)).toList.take (n.toNat * K.size), (madeCells zv.cells (c.toNat * inf.size)).toList.drop (n.toNat * K.size), rfl, by
          rw [List.take_append_drop]
          simp [Rw], all2_new _ hs.lt hall, by
          show ((List.replicate n.toNat z).flatMap K.enc).length = _
          rw [flatMap_length]; simp, by
          rw [List.take_append_drop, hm]; simp, hnc'⟩)
    exact k (some ⟨w.heap.size, 0, none⟩, n.toNat, c.toNat) _ _ ⟨U, hnew.put hn rfl⟩ (fun _ => ext_push _ _) (fun h => by cases h)

theorem ox_make {d : Nat} {t e : TypeId} {X Y : Operand} {k1 k2 : IntKind} {n c : Int} {α : Type} {K : Kd α} {z : α} {xs : List α} {zv : Value} {zs : List Value} {bytes : Nat} (hx : ev s.L X = some (Vl (.int k1 n))) (hy : ev s.L Y = some (Vl (.int k2 c)))
    (ha : mk bytes z n c = some xs) (hK : Nat.ble 1 K.size = true) (ht : P.underlying t = some (.slice e)) (hz : (P.info? e).map (fun i => (i.zero, i.size, i.bytes)) = some (some zv, K.size, bytes)) (hzc : zv.cells = ⟨zs⟩) (h1 : zs.all (·.oneCell') = true)
    (hze : K.enc z = zs.map Vl) (hd : dst = some d) (hn : Nat.ble (d + 1) s.n = true) :
    OX E P ⟨dst, .makeSlice t X Y, ty, pos, af, g⟩ 0 (fun g : Gs => { s with L := (d, Vl (Vs g)) :: s.L, H := Rw K e (Vs g) xs :: s.H }) s :=
  ox_makes hx hy ha hK ht hz hzc h1 (by rw [hze]; exact all2_vl0 zs) hd hn

/-! #### cuts -/
def cut {α : Type} (xs : List α) (lo hi : Int) : Option (List α) := if 0 ≤ lo ∧ lo ≤ hi ∧ hi ≤ xs.length then some ((xs.take hi.toNat).drop lo.toNat) else none

theorem sl_cut {α : Type} {K : Kd α} {xs : List α} {w : World} {U : Nat → Prop} {a : Option Addr} {c : Nat} {l h : Nat} (hR : (Sl K xs).R w U (.slice a xs.length c)) (hl : l ≤ h) (hh : h ≤ xs.length) :
    (Sl K ((xs.take h).drop l)).R w U (.slice (if c = l then a else a.map (·.add (l * K.size))) (h - l) (c - l)) := by
  obtain ⟨a', c', e, hc, hx⟩ := hR
  simp at e
  obtain ⟨rfl, rfl⟩ := e
  have hlen : ((xs.take h).drop l).length = h - l := by simp; omega
  refine ⟨_, _, by rw [hlen], by rw [hlen]; omega, fun hne => ?_⟩
  have hlt : l < h := by
    rcases Nat.lt_or_ge l h with h' | h'
    · exact h'
    · exact absurd (List.length_eq_zero_iff.1 (by rw [hlen]; omega)) hne
  have hxne : xs ≠ [] := by rintro rfl; simp at hh; omega
  obtain ⟨b, off, rfl, hU, hcell⟩ := hx hxne
  refine ⟨b, off + l * K.size, ?_, hU, fun i x hi => ?_⟩
  · rw [if_neg (by omega)]; simp [addr_add]
  · have := hcell (l + i) x (by
      simp only [List.getElem?_drop, List.getElem?_take] at hi
      split at hi
      · exact hi
      · cases hi)
    rw [Nat.add_mul] at this
    rwa [show off + l * K.size + i * K.size = off + (l * K.size + i * K.size) from by omega]

theorem rd_cut_l {α : Type} {K : Kd α} {xs ys : List α} {X Lo : Operand} {k1 : IntKind} {lo : Int} {t e : TypeId} {z : Option Value} {bytes : Nat} (hx : ev s.L X = some (Sl K xs)) (hl : ev s.L Lo = some (Vl (.int k1 lo)))
    (hc : cut xs lo xs.length = some ys) (ht : P.underlying t = some (.slice e)) (he : (P.info? e).map (fun i => (i.zero, i.size, i.bytes)) = some (z, K.size, bytes)) : Rd P s ⟨dst, .slice t X (some Lo) none none, ty, pos, af, g⟩ (Sl K ys) := fun E a w U hs => by
  unfold cut at hc
  split at hc
  case isFalse => cases hc
  rename_i hb
  cases hc
  have hR := look_ev hs hx
  obtain ⟨b, c, e1, hcap, _⟩ := look_ev hs hx
  rw [e1] at hR
  have e2 : a.eval Lo = .int k1 lo := look_ev hs hl
  cases hinfo : P.info? e with
  | none => rw [hinfo] at he; simp at he
  | some inf =>
    rw [hinfo] at he; simp at he
    refine ⟨_, sl_cut (l := lo.toNat) (h := xs.length) hR (by omega) (by omega), fun w' _ => ?_⟩
    simp [execOp, Instr.sliceAt, Instr.slice, e1, e2, run_underlying ht, Instr.sliceBounds, run_sliceBound, hb.1, hb.2.1, sizeOf, typeInfo, hinfo, he.2.1]
theorem rd_cut_h {α : Type} {K : Kd α} {xs ys : List α} {X Hi : Operand} {k2 : IntKind} {hi : Int} {t e : TypeId} {z : Option Value} {bytes : Nat} (hx : ev s.L X = some (Sl K xs)) (hh : ev s.L Hi = some (Vl (.int k2 hi)))
    (hc : cut xs 0 hi = some ys) (ht : P.underlying t = some (.slice e)) (he : (P.info? e).map (fun i => (i.zero, i.size, i.bytes)) = some (z, K.size, bytes)) : Rd P s ⟨dst, .slice t X none (some Hi) none, ty, pos, af, g⟩ (Sl K ys) := fun E a w U hs => by
  unfold cut at hc
  split at hc
  case isFalse => cases hc
  rename_i hb
  cases hc
  have hR := look_ev hs hx
  obtain ⟨b, c, e1, hcap, _⟩ := look_ev hs hx
  rw [e1] at hR
  have e3 : a.eval Hi = .int k2 hi := look_ev hs hh
  cases hinfo : P.info? e with
  | none => rw [hinfo] at he; simp at he
  | some inf =>
    rw [hinfo] at he; simp at he
    refine ⟨_, sl_cut (l := 0) (h := hi.toNat) hR (by omega) (by omega), fun w' _ => ?_⟩
    have h5 : hi ≤ (c : Int) := by omega
    simp [execOp, Instr.sliceAt, Instr.slice, e1, e3, run_underlying ht, Instr.sliceBounds, run_sliceBound, (by omega : 0 ≤ hi), h5, sizeOf, typeInfo, hinfo, he.2.1]
def cpy {α : Type} (xs ys : List α) : List α := ys.take xs.length ++ xs.drop ys.length

theorem set_same {β : Type} : ∀ {l : List β} {i : Nat} {r : β}, l[i]? = some r → l.set i r = l
  | [], _, _, h => by simp at h
  | x :: l, 0, r, h => by simp at h; subst h; rfl
  | x :: l, i + 1, r, h => by rw [List.set_cons_succ, set_same (by simpa using h)]

theorem lenOf_slice {a : Option Addr} {n c : Nat} (w : World) : (Builtin.lenOf (.slice a n c)).run P w = .ok n w := rfl

theorem ox_copy {d i : Nat} {t tx e e' : TypeId} {X Y : Operand} {α : Type} {K : Kd α} {xs ys zs : List α} {v : Value} {z : Option Value} {bytes : Nat} (hx : ev s.L X = some (Vl v)) (hh : s.H[i]? = some (Rw K e' v xs)) (hK : Nat.ble 1 K.size = true) (hy : ev s.L Y = some (Sl K ys))
    (hz' : cpy xs ys = zs) (ht : P.underlying t = some (.slice e)) (hz : (P.info? e).map (fun i => (i.zero, i.size, i.bytes)) = some (z, K.size, bytes)) (hd : dst = some d) (hn : Nat.ble (d + 1) s.n = true) {H' : List Res} (hH' : s.H.set i (Rw K e' v zs) = H') :
    OX E P ⟨dst, .call { callee := .builtin .copy, args := #[X, Y], argTypes := #[t, tx] }, ty, pos, af, g⟩ 1 (fun _ : Unit => { s with L := (d, Vl (.int .i64 (Nat.min ys.length xs.length : Nat))) :: s.L, H := H' }) s := fun Q a w U hs K' k => by
  subst hH'; subst hz'
  have e1 : a.eval X = v := look_ev hs hx
  obtain ⟨sb, sc, e2, hsc, hsx⟩ := look_ev hs hy
  have hK1 := Nat.le_of_ble_eq_true hK
  cases hinfo : P.info? e with
  | none => rw [hinfo] at hz; simp at hz
  | some inf =>
    rw [hinfo] at hz; simp at hz
    obtain ⟨hz1, hz2, hz3⟩ := hz
    rcases hs.row hK1 hh with ⟨hv, rfl⟩ | ⟨b, cap, vs, sp, hv, hb, hvs, hcl, hcap, hlt⟩
    · have hrun : (execOp a.eval ⟨dst, .call { callee := .builtin .copy, args := #[X, Y], argTypes := #[t, tx] }, ty, pos, af, g⟩).run P w = .ok (.value (.int .i64 (Nat.min ys.length 0 : Nat))) w := by
        have hl : ∀ (x : Addr), (loadCells x 0).run P w = .ok #[] w := fun x => by simpa using run_loadCells_list (P := P) w x [] (by simp)
        cases sb <;> simp [execOp, resolve, invoke, builtin, e1, e2, hv, Builtin.copy_, run_underlying ht, Builtin.lenOf, Builtin.firstCells, sizeOf, typeInfo, hinfo, hl, goInt]
      unfold Oper.wp
      rw [hrun]
      show K' (a.put dst _) _
      rw [hd]
      have hset : s.H.set i (Rw K e' v (cpy ([] : List α) ys)) = s.H := by
        have : cpy ([] : List α) ys = [] := by simp [cpy]
        rw [this]
        exact set_same hh
      exact k () _ _ ⟨U, by rw [hset]; exact hs.put hn rfl⟩ (fun h => by cases h) (fun _ => hs.varExt (Ext.refl _ _))
    · have hvl : vs.length = xs.length * K.size := by rw [← hvs.length, flatMap_length]
      have hsrc : ∃ us : List Value, (Builtin.firstCells inf.size (Nat.min ys.length xs.length) (.slice sb ys.length sc)).run P w = .ok us.toArray w ∧ All2 (fun s v => s.C w U v) ((ys.take xs.length).flatMap K.enc) us := by
        by_cases hyn : ys = []
        · subst hyn
          refine ⟨[], ?_, by simp [All2]⟩
          have hl : ∀ (x : Addr), (loadCells x 0).run P w = .ok #[] w := fun x => by simpa using run_loadCells_list (P := P) w x [] (by simp)
          cases sb <;> simp [Builtin.firstCells, hl]
        · obtain ⟨blk, off, rfl, hU, hcell⟩ := hsx hyn
          obtain ⟨us, h1, h2⟩ := cells_list (cells_flat (xs := ys.take xs.length) (off := off) (fun i x hi => hcell i x (by
            simp only [List.getElem?_take] at hi
            split at hi
            · exact hi
            · cases hi)))
          have hlu : us.length = Nat.min ys.length xs.length * inf.size := by
            rw [← h1.length, flatMap_length, hz2, List.length_take, Nat.min_comm]
          exact ⟨us, run_firstCells_some w inf.size _ _ _ _ us hlu (fun j u hj => by rw [addr_add]; exact h2 j u hj), h1⟩
      obtain ⟨us, hfirst, hus⟩ := hsrc
      have hlu : us.length = (ys.take xs.length).length * K.size := by rw [← hus.length, flatMap_length]
      have hle : (ys.take xs.length).length * K.size ≤ xs.length * K.size := Nat.mul_le_mul_right _ (by simp; omega)
      obtain ⟨w', r1, r2, r3, r4, r5, r6, r7⟩ := storeCells_run (P := P) (off := 0) (us := us) hb (by simp only [List.length_append]; omega) (all2c_one hus)
      have hrun : (execOp a.eval ⟨dst, .call { callee := .builtin .copy, args := #[X, Y], argTypes := #[t, tx] }, ty, pos, af, g⟩).run P w = .ok (.value (.int .i64 (Nat.min ys.length xs.length : Nat))) w' := by
        simp [execOp, resolve, invoke, builtin, e1, e2, hv, Builtin.copy_, run_underlying ht, lenOf_slice, sizeOf, typeInfo, hinfo, hfirst, r1, goInt]
      unfold Oper.wp
      rw [hrun]
      show K' (a.put dst _) _
      rw [hd]
      have hblk : (Rw K e' v xs).blk = [b] := by simp [rw_blk, hv, blkOf]
      have hk' : ∀ k, k < w.heap.size → k ∉ (Rw K e' v xs).blk → w'.heap[k]? = w.heap[k]? := fun k _ hk => r7 k (fun e => hk (by rw [hblk]; simp [e]))
      have hUk : ∀ k, U k → w'.heap[k]? = w.heap[k]? := fun k hU => hk' k (hs.lt k hU) (fun hm => hs.apart _ (List.mem_of_getElem? hh) k hm hU)
      have hcl2 : (cpy xs ys).length = xs.length := by simp [cpy]; omega
      have hre := hs.reown hh (Rw K e' v (cpy xs ys)) rfl ?_ r3 r4 r5 (Nat.le_of_eq r6.symm) hk'
      · exact k () _ _ ⟨U, hre.put (s := { s with H := s.H.set i (Rw K e' v (cpy xs ys)) }) hn rfl⟩ (fun h => by cases h) (fun _ => hs.varSame hh (by simp [Rw]) hk')
      · refine .inr ⟨b, xs.length, cap, us ++ vs.drop us.length, sp, by rw [show (Rw K e' v (cpy xs ys)).v = v from rfl, hv], ?_, ?_, ?_, ?_, hcap⟩
        · rw [r2]
          show some (Obj.cells _ _ _) = some (Obj.cells _ _ _)
          congr 2
          rw [List.take_zero, List.nil_append, Nat.zero_add, List.drop_append_of_le_length (by omega), List.append_assoc]
        · show All2 _ ((cpy xs ys).flatMap K.enc) _
          unfold cpy
          rw [List.flatMap_append]
          refine all2c_mono (fun _ h => h) hUk (hus.append ?_)
          have hdr : (xs.drop ys.length).flatMap K.enc = (xs.flatMap K.enc).drop us.length := by
            rw [hlu, List.length_take]
            have key : ∀ (xs : List α) (m : Nat), m ≤ xs.length → (xs.drop m).flatMap K.enc = (xs.flatMap K.enc).drop (m * K.size) := by
              intro xs
              induction xs with
              | nil => intro m hm; simp
              | cons x xs ih =>
                intro m hm
                cases m with
                | zero => simp
                | succ m =>
                  simp only [List.drop_succ_cons, List.flatMap_cons]
                  have h1 : (K.enc x).drop ((m + 1) * K.size) = [] := List.drop_eq_nil_of_le (by rw [K.len, Nat.succ_mul]; omega)
                  rw [ih m (by simpa using hm), List.drop_append, h1, K.len, Nat.succ_mul, Nat.add_sub_cancel, List.nil_append]
            by_cases hmn : xs.length ≤ ys.length
            · rw [Nat.min_eq_left hmn, List.drop_eq_nil_of_le hmn, List.drop_eq_nil_of_le (by rw [flatMap_length]; omega)]; rfl
            · rw [Nat.min_eq_right (by omega)]; exact key xs _ (by omega)
          rw [hdr]
          exact hvs.drop _
        · show ((cpy xs ys).flatMap K.enc).length = _
          rw [flatMap_length, hcl2]
        · simp only [List.length_append, List.length_drop] at hcl ⊢
          omega
end
end Go.Sx
