/-
  Steps of a walk over the symbolic state: rows cut whole, arrays as rows. Ours; it knows no program.
-/
import Derived.Test.YtmagcmeknclljaaSxT
import Derived.Laws.BytesString
import Derived.LaidEql
namespace Go.Sx
set_option linter.unusedVariables false
set_option linter.unusedSectionVars false
set_option linter.unusedSimpArgs false
variable [Gv]

section
variable {E : Env} {P : Program} {Q : Exit → Act → World → Prop} {s : St} {dst : Option Tmp} {ty : TypeId} {pos : String} {af : Array Edge} {g : Option (Nat × Bool)}

/-- a row of one's own, cut whole, is itself -/
theorem rd_cut_allr {α : Type} {K : Kd α} {e' : TypeId} {v : Value} {xs : List α} {i : Nat} {X : Operand} {t e : TypeId} {z : Option Value} {bytes : Nat} (hx : ev s.L X = some (Vl v)) (hi : s.H[i]? = some (Rw K e' v xs)) (hK : Nat.ble 1 K.size = true)
    (ht : P.underlying t = some (.slice e)) (he : (P.info? e).map (fun i => (i.zero, i.size, i.bytes)) = some (z, K.size, bytes)) : Rd P s ⟨dst, .slice t X none none none, ty, pos, af, g⟩ (Vl v) := fun E a w U hs => by
  have e1 : a.eval X = v := look_ev hs hx
  cases hinfo : P.info? e with
  | none => rw [hinfo] at he; simp at he
  | some inf =>
    rw [hinfo] at he; simp at he
    refine ⟨v, rfl, fun w' _ => ?_⟩
    rcases hs.row (Nat.le_of_ble_eq_true hK) hi with ⟨h, h'⟩ | ⟨b, cap, vs, sp, h, _, _, _, hc, _⟩
    · subst h; simp [execOp, Instr.sliceAt, Instr.slice, e1, run_underlying ht, Instr.sliceBounds, run_sliceBound, sizeOf, typeInfo, hinfo, he.2.1]
    · subst h; simp [execOp, Instr.sliceAt, Instr.slice, e1, run_underlying ht, Instr.sliceBounds, run_sliceBound, sizeOf, typeInfo, hinfo, he.2.1, addr_add, hc]

/-! #### parts of rows -/
/-- a part of a row: from lo on, so many -/
def Sp (v : Value) (size lo m : Nat) : SV := ⟨fun _ _ u => (v = .slice none 0 0 ∧ u = .slice none 0 0 ∧ lo = 0 ∧ m = 0) ∨ ∃ b n c o c', v = .slice (some ⟨b, 0, none⟩) n c ∧ u = .slice (some ⟨b, o, none⟩) m c' ∧ (m = 0 ∨ o = lo * size), fun _ _ h => h⟩
theorem cut_len {α : Type} {xs ys : List α} {lo hi : Int} (hc : cut xs lo hi = some ys) : 0 ≤ lo ∧ lo ≤ hi ∧ hi ≤ xs.length ∧ ys.length = hi.toNat - lo.toNat ∧ lo.toNat + ys.length ≤ xs.length := by
  unfold cut at hc
  split at hc
  case isFalse => cases hc
  rename_i hb
  cases hc
  have : ((xs.take hi.toNat).drop lo.toNat).length = hi.toNat - lo.toNat := by simp; omega
  exact ⟨hb.1, hb.2.1, hb.2.2, this, by rw [this]; omega⟩
theorem part_cut {α : Type} {K : Kd α} {e' : TypeId} {v : Value} {xs ys : List α} {i : Nat} {X : Operand} {lo hi : Int} {Lo Hi : Option Operand} {t e : TypeId} {z : Option Value} {bytes : Nat} (hx : ev s.L X = some (Vl v)) (hi' : s.H[i]? = some (Rw K e' v xs)) (hK : Nat.ble 1 K.size = true)
    (hl : ∀ {a : Act} {w : World} {U : Nat → Prop}, SymAt E s a w U → (Lo = none ∧ lo = 0) ∨ ∃ L k, Lo = some L ∧ a.eval L = .int k lo) (hh : ∀ {a : Act} {w : World} {U : Nat → Prop}, SymAt E s a w U → (Hi = none ∧ hi = xs.length) ∨ ∃ L k, Hi = some L ∧ a.eval L = .int k hi)
    (hc : cut xs lo hi = some ys) (ht : P.underlying t = some (.slice e)) (he : (P.info? e).map (fun i => (i.zero, i.size, i.bytes)) = some (z, K.size, bytes)) {a : Act} {w : World} {U : Nat → Prop} (hs : SymAt E s a w U) :
    ∃ u, (Sp v K.size lo.toNat ys.length).R w U u ∧ ∀ w' : World, (execOp a.eval ⟨dst, .slice t X Lo Hi none, ty, pos, af, g⟩).run P w' = .ok (.value u) w' := by
  obtain ⟨c0, c1, c2, c3, c4⟩ := cut_len hc
  have e1 : a.eval X = v := look_ev hs hx
  cases hinfo : P.info? e with
  | none => rw [hinfo] at he; simp at he
  | some inf =>
    rw [hinfo] at he; simp at he
    rcases hs.row (Nat.le_of_ble_eq_true hK) hi' with ⟨h, h'⟩ | ⟨b, cap, vs, sp, h, _, _, _, hcap, _⟩
    · subst h; subst h'
      simp only [List.length_nil] at c2 c4
      obtain rfl : lo = 0 := by omega
      obtain rfl : hi = 0 := by omega
      refine ⟨.slice none 0 0, .inl ⟨rfl, rfl, rfl, by omega⟩, fun w' => ?_⟩
      have hl' := hl hs
      have hh' := hh hs
      clear hl hh
      rcases hl' with ⟨rfl, _⟩ | ⟨L, k, rfl, e2⟩
      · rcases hh' with ⟨rfl, _⟩ | ⟨L', k', rfl, e3⟩
        · simp [execOp, Instr.sliceAt, Instr.slice, e1, run_underlying ht, Instr.sliceBounds, run_sliceBound, sizeOf, typeInfo, hinfo, he.2.1]
        · simp [execOp, Instr.sliceAt, Instr.slice, e1, e3, run_underlying ht, Instr.sliceBounds, run_sliceBound, sizeOf, typeInfo, hinfo, he.2.1]
      · rcases hh' with ⟨rfl, _⟩ | ⟨L', k', rfl, e3⟩
        · simp [execOp, Instr.sliceAt, Instr.slice, e1, e2, run_underlying ht, Instr.sliceBounds, run_sliceBound, sizeOf, typeInfo, hinfo, he.2.1]
        · simp [execOp, Instr.sliceAt, Instr.slice, e1, e2, e3, run_underlying ht, Instr.sliceBounds, run_sliceBound, sizeOf, typeInfo, hinfo, he.2.1]
    · subst h
      have h5 : hi ≤ (cap : Int) := by omega
      have h6 : lo ≤ (hi.toNat : Int) := by omega
      have hc1 : (hi.toNat : Int) = hi := Int.toNat_of_nonneg (by omega)
      have hc2 : (lo.toNat : Int) = lo := Int.toNat_of_nonneg (by omega)
      refine ⟨.slice (if cap = lo.toNat then some ⟨b, 0, none⟩ else some ⟨b, lo.toNat * K.size, none⟩) (hi.toNat - lo.toNat) (cap - lo.toNat), .inr ⟨b, xs.length, cap, if cap = lo.toNat then 0 else lo.toNat * K.size, cap - lo.toNat, rfl, ?_, ?_⟩, fun w' => ?_⟩
      · rw [c3]; split <;> rfl
      · by_cases hcl : cap = lo.toNat
        · left; omega
        · right; rw [if_neg hcl]
      · have hl' := hl hs
        have hh' := hh hs
        clear hl hh
        rcases hl' with ⟨rfl, rfl⟩ | ⟨L, k, rfl, e2⟩
        · rcases hh' with ⟨rfl, rfl⟩ | ⟨L', k', rfl, e3⟩
          · simp [execOp, Instr.sliceAt, Instr.slice, e1, run_underlying ht, Instr.sliceBounds, run_sliceBound, sizeOf, typeInfo, hinfo, he.2.1, addr_add]
          · simp [execOp, Instr.sliceAt, Instr.slice, e1, e3, run_underlying ht, Instr.sliceBounds, run_sliceBound, sizeOf, typeInfo, hinfo, he.2.1, addr_add, h5, c1]
        · rcases hh' with ⟨rfl, rfl⟩ | ⟨L', k', rfl, e3⟩
          · simp [execOp, Instr.sliceAt, Instr.slice, e1, e2, run_underlying ht, Instr.sliceBounds, run_sliceBound, sizeOf, typeInfo, hinfo, he.2.1, addr_add, c0, c1]
          · simp [execOp, Instr.sliceAt, Instr.slice, e1, e2, e3, run_underlying ht, Instr.sliceBounds, run_sliceBound, sizeOf, typeInfo, hinfo, he.2.1, addr_add, c0, c1, h6, h5, hc1, (by omega : 0 ≤ hi)]
theorem rd_cutr_l {α : Type} {K : Kd α} {e' : TypeId} {v : Value} {xs ys : List α} {i : Nat} {X Lo : Operand} {k1 : IntKind} {lo : Int} {t e : TypeId} {z : Option Value} {bytes : Nat} (hx : ev s.L X = some (Vl v)) (hi' : s.H[i]? = some (Rw K e' v xs)) (hK : Nat.ble 1 K.size = true)
    (hl : ev s.L Lo = some (Vl (.int k1 lo))) (hc : cut xs lo xs.length = some ys) (ht : P.underlying t = some (.slice e)) (he : (P.info? e).map (fun i => (i.zero, i.size, i.bytes)) = some (z, K.size, bytes)) : Rd P s ⟨dst, .slice t X (some Lo) none none, ty, pos, af, g⟩ (Sp v K.size lo.toNat ys.length) := fun E a w U hs => by
  obtain ⟨u, h1, h2⟩ := part_cut (dst := dst) (ty := ty) (pos := pos) (af := af) (g := g) (E := E) hx hi' hK (Lo := some Lo) (Hi := none) (fun hs => .inr ⟨Lo, k1, rfl, look_ev hs hl⟩) (fun _ => .inl ⟨rfl, rfl⟩) hc ht he hs
  exact ⟨u, h1, fun w' _ => h2 w'⟩
theorem rd_cutr_h {α : Type} {K : Kd α} {e' : TypeId} {v : Value} {xs ys : List α} {i : Nat} {X Hi : Operand} {k2 : IntKind} {hi : Int} {t e : TypeId} {z : Option Value} {bytes : Nat} (hx : ev s.L X = some (Vl v)) (hi' : s.H[i]? = some (Rw K e' v xs)) (hK : Nat.ble 1 K.size = true)
    (hh : ev s.L Hi = some (Vl (.int k2 hi))) (hc : cut xs 0 hi = some ys) (ht : P.underlying t = some (.slice e)) (he : (P.info? e).map (fun i => (i.zero, i.size, i.bytes)) = some (z, K.size, bytes)) : Rd P s ⟨dst, .slice t X none (some Hi) none, ty, pos, af, g⟩ (Sp v K.size (0 : Int).toNat ys.length) := fun E a w U hs => by
  obtain ⟨u, h1, h2⟩ := part_cut (dst := dst) (ty := ty) (pos := pos) (af := af) (g := g) (E := E) hx hi' hK (Lo := none) (Hi := some Hi) (fun _ => .inl ⟨rfl, rfl⟩) (fun hs => .inr ⟨Hi, k2, rfl, look_ev hs hh⟩) hc ht he hs
  exact ⟨u, h1, fun w' _ => h2 w'⟩
theorem rd_cutr_lh {α : Type} {K : Kd α} {e' : TypeId} {v : Value} {xs ys : List α} {i : Nat} {X Lo Hi : Operand} {k1 k2 : IntKind} {lo hi : Int} {t e : TypeId} {z : Option Value} {bytes : Nat} (hx : ev s.L X = some (Vl v)) (hi' : s.H[i]? = some (Rw K e' v xs)) (hK : Nat.ble 1 K.size = true)
    (hl : ev s.L Lo = some (Vl (.int k1 lo))) (hh : ev s.L Hi = some (Vl (.int k2 hi))) (hc : cut xs lo hi = some ys) (ht : P.underlying t = some (.slice e)) (he : (P.info? e).map (fun i => (i.zero, i.size, i.bytes)) = some (z, K.size, bytes)) : Rd P s ⟨dst, .slice t X (some Lo) (some Hi) none, ty, pos, af, g⟩ (Sp v K.size lo.toNat ys.length) := fun E a w U hs => by
  obtain ⟨u, h1, h2⟩ := part_cut (dst := dst) (ty := ty) (pos := pos) (af := af) (g := g) (E := E) hx hi' hK (Lo := some Lo) (Hi := some Hi) (fun hs => .inr ⟨Lo, k1, rfl, look_ev hs hl⟩) (fun hs => .inr ⟨Hi, k2, rfl, look_ev hs hh⟩) hc ht he hs
  exact ⟨u, h1, fun w' _ => h2 w'⟩
/-- a list written over a part of a row -/
def cpat {α : Type} (xs : List α) (lo m : Nat) (zs : List α) : List α := xs.take lo ++ zs.take m ++ xs.drop (lo + Nat.min zs.length m)
theorem flat_take {α : Type} {K : Kd α} : ∀ (xs : List α) (m : Nat), m ≤ xs.length → (xs.take m).flatMap K.enc = (xs.flatMap K.enc).take (m * K.size)
  | [], m, hm => by simp
  | x :: xs, 0, hm => by simp
  | x :: xs, m + 1, hm => by
    simp only [List.take_succ_cons, List.flatMap_cons]
    have h1 : (K.enc x).take ((m + 1) * K.size) = K.enc x := List.take_of_length_le (by rw [K.len, Nat.succ_mul]; omega)
    rw [flat_take xs m (by simpa using hm), List.take_append, h1, K.len, Nat.succ_mul, Nat.add_sub_cancel]
theorem flat_drop {α : Type} {K : Kd α} : ∀ (xs : List α) (m : Nat), m ≤ xs.length → (xs.drop m).flatMap K.enc = (xs.flatMap K.enc).drop (m * K.size)
  | [], m, hm => by simp
  | x :: xs, 0, hm => by simp
  | x :: xs, m + 1, hm => by
    simp only [List.drop_succ_cons, List.flatMap_cons]
    have h1 : (K.enc x).drop ((m + 1) * K.size) = [] := List.drop_eq_nil_of_le (by rw [K.len, Nat.succ_mul]; omega)
    rw [flat_drop xs m (by simpa using hm), List.drop_append, h1, K.len, Nat.succ_mul, Nat.add_sub_cancel, List.nil_append]
theorem ox_copyp {d i lo m : Nat} {t tx e : TypeId} {X Y : Operand} {α : Type} {K : Kd α} {xs zs us : List α} {v : Value} {z : Option Value} {bytes : Nat} (hx : ev s.L X = some (Sp v K.size lo m)) (hh : s.H[i]? = some (Rw K e v xs)) (hb : lo + m ≤ xs.length) (hK : Nat.ble 1 K.size = true) (hy : ev s.L Y = some (Sl K zs))
    (hu : cpat xs lo m zs = us) (ht : P.underlying t = some (.slice e)) (hz : (P.info? e).map (fun i => (i.zero, i.size, i.bytes)) = some (z, K.size, bytes)) (hd : dst = some d) (hn : Nat.ble (d + 1) s.n = true) {H' : List Res} (hH' : s.H.set i (Rw K e v us) = H') :
    OX E P ⟨dst, .call { callee := .builtin .copy, args := #[X, Y], argTypes := #[t, tx] }, ty, pos, af, g⟩ 1 (fun _ : Unit => { s with L := (d, Vl (.int .i64 (Nat.min zs.length m : Nat))) :: s.L, H := H' }) s := fun Q a w U hs K' k => by
  subst hH'; subst hu
  have hR := look_ev hs hx
  obtain ⟨sb, sc, e2, hsc, hsx⟩ := look_ev hs hy
  have hK1 := Nat.le_of_ble_eq_true hK
  cases hinfo : P.info? e with
  | none => rw [hinfo] at hz; simp at hz
  | some inf =>
    rw [hinfo] at hz; simp at hz
    obtain ⟨hz1, hz2, hz3⟩ := hz
    have hl : ∀ (x : Addr), (loadCells x 0).run P w = .ok #[] w := fun x => by simpa using run_loadCells_list (P := P) w x [] (by simp)
    by_cases hm : m = 0
    · subst hm
      have hrun : (execOp a.eval ⟨dst, .call { callee := .builtin .copy, args := #[X, Y], argTypes := #[t, tx] }, ty, pos, af, g⟩).run P w = .ok (.value (.int .i64 (Nat.min zs.length 0 : Nat))) w := by
        have hu : ∃ u c', a.eval X = .slice u 0 c' := by
          rcases hR with ⟨_, h, _, _⟩ | ⟨b, n, c, o, c', _, h, _⟩
          · exact ⟨_, _, h⟩
          · exact ⟨_, _, h⟩
        obtain ⟨u, c', e1⟩ := hu
        have hst : ∀ q : Addr, (storeCells q []).run P w = .ok () w := fun q => by simp [storeCells]
        cases sb <;> cases u <;> simp [execOp, resolve, invoke, builtin, e1, e2, Builtin.copy_, run_underlying ht, Builtin.lenOf, Builtin.firstCells, sizeOf, typeInfo, hinfo, hl, goInt, hst]
      unfold Oper.wp
      rw [hrun]
      show K' (a.put dst _) _
      rw [hd]
      have hset : s.H.set i (Rw K e v (cpat xs lo 0 zs)) = s.H := by
        have : cpat xs lo 0 zs = xs := by simp [cpat]
        rw [this]
        exact set_same hh
      exact k () _ _ ⟨U, by rw [hset]; exact hs.put hn rfl⟩ (fun h => by cases h) (fun _ => hs.varExt (Ext.refl _ _))
    · rcases hR with ⟨_, _, _, h⟩ | ⟨b, n, c, o, c', hv, e1, ho⟩
      · exact absurd h hm
      · obtain rfl : o = lo * K.size := ho.resolve_left hm
        rcases hs.row hK1 hh with ⟨hv', _⟩ | ⟨b', cap, vs, sp, hv', hb', hvs, hcl, hcap, hlt⟩
        · rw [hv] at hv'; cases hv'
        · rw [hv] at hv'
          obtain ⟨rfl, rfl, rfl⟩ : b = b' ∧ n = xs.length ∧ c = cap := by injection hv' with h1 h2 h3; injection h1 with h1; injection h1 with h1; exact ⟨h1, h2, h3⟩
          have hvl : vs.length = xs.length * K.size := by rw [← hvs.length, flatMap_length]
          have hsrc : ∃ us : List Value, (Builtin.firstCells inf.size (Nat.min zs.length m) (.slice sb zs.length sc)).run P w = .ok us.toArray w ∧ All2 (fun s v => s.C w U v) ((zs.take m).flatMap K.enc) us := by
            by_cases hyn : zs = []
            · subst hyn
              refine ⟨[], ?_, by simp [All2]⟩
              cases sb <;> simp [Builtin.firstCells, hl]
            · obtain ⟨blk, off, rfl, hU, hcell⟩ := hsx hyn
              obtain ⟨us, h1, h2⟩ := cells_list (cells_flat (xs := zs.take m) (off := off) (fun i x hi => hcell i x (by
                simp only [List.getElem?_take] at hi
                split at hi
                · exact hi
                · cases hi)))
              have hlu : us.length = Nat.min zs.length m * inf.size := by
                rw [← h1.length, flatMap_length, hz2, List.length_take, Nat.min_comm]
              exact ⟨us, run_firstCells_some w inf.size _ _ _ _ us hlu (fun j u hj => by rw [addr_add]; exact h2 j u hj), h1⟩
          obtain ⟨us, hfirst, hus⟩ := hsrc
          have hlu : us.length = Nat.min zs.length m * K.size := by rw [← hus.length, flatMap_length, List.length_take, Nat.min_comm]
          have hmin : Nat.min zs.length m ≤ m := Nat.min_le_right _ _
          have hle : (lo + Nat.min zs.length m) * K.size ≤ xs.length * K.size := Nat.mul_le_mul_right _ (by omega)
          rw [Nat.add_mul] at hle
          obtain ⟨w', r1, r2, r3, r4, r5, r6, r7⟩ := storeCells_run (P := P) (off := lo * K.size) (us := us) hb' (by simp only [List.length_append]; omega) (all2c_one hus)
          have hrun : (execOp a.eval ⟨dst, .call { callee := .builtin .copy, args := #[X, Y], argTypes := #[t, tx] }, ty, pos, af, g⟩).run P w = .ok (.value (.int .i64 (Nat.min zs.length m : Nat))) w' := by
            simp [execOp, resolve, invoke, builtin, e1, e2, Builtin.copy_, run_underlying ht, lenOf_slice, sizeOf, typeInfo, hinfo, hfirst, r1, goInt]
          unfold Oper.wp
          rw [hrun]
          show K' (a.put dst _) _
          rw [hd]
          have hblk : (Rw K e v xs).blk = [b] := by simp [rw_blk, hv, blkOf]
          have hk' : ∀ k, k < w.heap.size → k ∉ (Rw K e v xs).blk → w'.heap[k]? = w.heap[k]? := fun k _ hk => r7 k (fun e => hk (by rw [hblk]; simp [e]))
          have hUk : ∀ k, U k → w'.heap[k]? = w.heap[k]? := fun k hU => hk' k (hs.lt k hU) (fun hm => hs.apart _ (List.mem_of_getElem? hh) k hm hU)
          have hcl2 : (cpat xs lo m zs).length = xs.length := by
            have e5 : (cpat xs lo m zs).length = min lo xs.length + min m zs.length + (xs.length - (lo + Nat.min zs.length m)) := by simp [cpat]; omega
            have e6 : Nat.min zs.length m = min m zs.length := Nat.min_comm _ _
            rw [e5, e6]; omega
          have hre := hs.reown hh (Rw K e v (cpat xs lo m zs)) rfl ?_ r3 r4 r5 (Nat.le_of_eq r6.symm) hk'
          · exact k () _ _ ⟨U, hre.put (s := { s with H := s.H.set i (Rw K e v (cpat xs lo m zs)) }) hn rfl⟩ (fun h => by cases h) (fun _ => hs.varSame hh (by simp [Rw]) hk')
          · refine .inr ⟨b, xs.length, c, vs.take (lo * K.size) ++ us ++ vs.drop (lo * K.size + us.length), sp, by rw [show (Rw K e v (cpat xs lo m zs)).v = v from rfl, hv], ?_, ?_, ?_, ?_, hcap⟩
            · rw [r2]
              show some (Obj.cells _ _ _) = some (Obj.cells _ _ _)
              congr 2
              rw [List.take_append_of_le_length (by omega), List.drop_append_of_le_length (by omega)]
              simp only [List.append_assoc]
            · show All2 _ ((cpat xs lo m zs).flatMap K.enc) _
              unfold cpat
              rw [List.flatMap_append, List.flatMap_append, flat_take xs lo (by omega), flat_drop xs _ (by omega), Nat.add_mul, ← hlu]
              exact all2c_mono (fun _ h => h) hUk (((hvs.take _).append hus).append (hvs.drop _))
            · show ((cpat xs lo m zs).flatMap K.enc).length = _
              rw [flatMap_length, hcl2]
            · simp only [List.length_append, List.length_drop, List.length_take] at hcl ⊢
              omega

/-! #### arrays as rows -/
/-- a variable that holds an array is a row -/
theorem tx_arr {K' : Act → World → Prop} {α : Type} {K : Kd α} {q : Addr} {E' : TypeId} {cs : List SV} {xs : List α} {m i : Nat} (hi : s.H[i]? = some ⟨.pointer (some q), cs, E', none⟩) (hx : xs.flatMap K.enc = cs) (hm : xs.length = m)
    {H' : List Res} (hH' : s.H.set i (Rw K E' (Vs (some q, m, m)) xs) = H') (k : TX E K' { s with H := H' }) : TX E K' s := fun a w ⟨U, hs⟩ => by
  subst hH'; subst hx; subst hm
  refine k a w ⟨U, hs.reown hi (Rw K E' (.slice (some q) xs.length xs.length) xs) rfl ?_ rfl rfl rfl (Nat.le_refl _) (fun _ _ _ => rfl)⟩
  have ho := hs.own _ (List.mem_of_getElem? hi)
  obtain ⟨b, vs, e, hb, hall⟩ := ho
  have e' : q = ⟨b, 0, none⟩ := by simpa using e
  subst e'
  exact .inr ⟨b, xs.length, xs.length, vs, [], rfl, by rw [List.append_nil]; exact hb, hall, by show (xs.flatMap K.enc).length = _; rw [flatMap_length], by
    have := hall.length
    show (vs ++ []).length = _
    rw [List.append_nil, ← this, flatMap_length], Nat.le_refl _⟩
theorem rd_cut_arr {X : Operand} {q : Addr} {t e : TypeId} {m : Nat} {z : Option Value} {size bytes : Nat} (hx : ev s.L X = some (Vl (.pointer (some q)))) (ht : P.underlying t = some (.array m e)) (he : (P.info? e).map (fun i => (i.zero, i.size, i.bytes)) = some (z, size, bytes)) :
    Rd P s ⟨dst, .slice t X none none none, ty, pos, af, g⟩ (Vl (.slice (some q) m m)) := fun E a w U hs => by
  have e1 : a.eval X = .pointer (some q) := look_ev hs hx
  cases hinfo : P.info? e with
  | none => rw [hinfo] at he; simp at he
  | some inf =>
    rw [hinfo] at he; simp at he
    refine ⟨_, rfl, fun w' _ => ?_⟩
    simp [execOp, Instr.sliceAt, Instr.sureAddr, e1, run_underlying ht, Instr.sliceBounds, sizeOf, typeInfo, hinfo, addr_add]
    intro _
    simp [Addr.add]
/-- the place i of an array of so many -/
def idxn {α : Type} (N : Nat) (xs : List α) (i : Int) : Option α := if i < N then idx xs i else none
theorem idxn_some {α : Type} {N : Nat} {xs : List α} {i : Int} {x : α} (h : idxn N xs i = some x) : i < N ∧ idx xs i = some x := by
  unfold idxn at h
  split at h
  · exact ⟨by assumption, h⟩
  · cases h
theorem rd_atarr {α : Type} {K : Kd α} {e' : TypeId} {g' : Gs} {N : Nat} {xs : List α} {x : α} {m : Nat} {X I : Operand} {k : IntKind} {i : Int} {t e : TypeId} {z : Option Value} {bytes size : Nat} (hx : ev s.L X = some (Vl (.pointer g'.1))) (hh : s.H[m]? = some (Rw K e' (Vs g') xs)) (hK : Nat.ble 1 K.size = true)
    (hi : ev s.L I = some (Vl (.int k i))) (hg : idxn N xs i = some x) (ht : P.underlying t = some (.array N e)) (he : (P.info? e).map (fun i => (i.zero, i.size, i.bytes)) = some (z, size, bytes)) :
    Rd P s ⟨dst, .indexAddr t X I, ty, pos, af, g⟩ (Pr (Vs g') (i.toNat * size)) := fun E a w U hs => by
  have e1 : a.eval X = .pointer g'.1 := look_ev hs hx
  have e2 : a.eval I = .int k i := look_ev hs hi
  obtain ⟨hN, hg⟩ := idxn_some hg
  obtain ⟨h0, h1, h2⟩ := idx_some hg
  rcases hs.row (Nat.le_of_ble_eq_true hK) hh with ⟨_, h'⟩ | ⟨b, cap, vs, sp, h, _⟩
  · subst h'; simp at h1; omega
  · have hq : g'.1 = some ⟨b, 0, none⟩ := by injection h
    rw [hq] at e1
    cases hinfo : P.info? e with
    | none => rw [hinfo] at he; simp at he
    | some inf =>
      rw [hinfo] at he
      simp at he
      refine ⟨.pointer (some ⟨b, i.toNat * size, none⟩), ⟨b, _, _, h, rfl⟩, fun w' _ => ?_⟩
      simp [execOp, Instr.indexAt, Instr.sureAddr, asIntOf, e1, e2, run_underlying ht, h0, hN, sizeOf, typeInfo, hinfo, he.2.1, addr_add]
theorem rd_loadarr {α : Type} {K : Kd α} {e' : TypeId} {g' : Gs} {nn : Nat} {xs : List α} {m : Nat} {X : Operand} {t : TypeId} {l' : List SV} (hx : ev s.L X = some (Vl (.pointer g'.1))) (hh : s.H[m]? = some (Rw K e' (Vs g') xs)) (hK : Nat.ble 1 K.size = true)
    (ht : Agg P t nn) (hl' : xs.flatMap K.enc = l') (hn : l'.length = nn) (h0 : Nat.ble 1 nn = true) : Rd P s ⟨dst, .load t X, ty, pos, af, g⟩ (Ag l') := fun E a w U hs => by
  subst hl'; subst hn
  have e1 : a.eval X = .pointer g'.1 := look_ev hs hx
  rcases hs.row (Nat.le_of_ble_eq_true hK) hh with ⟨_, h'⟩ | ⟨b, cap, vs, sp, h, hb, hvs, hcl, hcap, hlt⟩
  · subst h'; exact absurd h0 (by simp)
  · have hq : g'.1 = some ⟨b, 0, none⟩ := by injection h
    rw [hq] at e1
    refine ⟨.agg ⟨vs⟩, ⟨vs, rfl, hvs⟩, fun w' hw' => ?_⟩
    have hl := loadCells_run (P := P) (w := w') (b := b) (off := 0) (vs := vs) (fun k u hk => by
      have hlk : k < vs.length := (List.getElem?_eq_some_iff.1 hk).1
      simp only [World.cell?, hw' b hlt, hb]
      rw [Nat.zero_add]
      simpa [List.getElem?_append_left hlk] using hk)
    rw [← hvs.length] at hl
    generalize (xs.flatMap K.enc).length = N at ht hl
    simp [execOp, Instr.loadAt, Instr.sureAddr, loadVar, e1, run_isAgg_agg ht, run_size_agg ht, hl]
theorem ox_storearr {α : Type} {K : Kd α} {e' : TypeId} {g' : Gs} {xs xs' : List α} {m : Nat} {X V : Operand} {t : TypeId} {y : SV} {l : List SV} {z : Option Value} {bytes : Nat} (hx : ev s.L X = some (Vl (.pointer g'.1))) (hv : ev s.L V = some y) (hl : Lv y l) (hh : s.H[m]? = some (Rw K e' (Vs g') xs)) (hK : Nat.ble 1 K.size = true)
    (hx' : xs'.flatMap K.enc = l) (hn : xs'.length = g'.2.1) (h0 : Nat.ble 1 g'.2.1 = true) (hz : (P.info? t).map (fun i => (i.zero, i.size, i.bytes)) = some (z, l.length, bytes)) (hd : dst = none) {H' : List Res} (hH' : s.H.set m (Rw K e' (Vs g') xs') = H') :
    OX E P ⟨dst, .store t X V, ty, pos, af, g⟩ 1 (fun _ : Unit => { s with H := H' }) s := fun Q a w U hs K' k => by
  subst hH'; subst hx'
  have e1 : a.eval X = .pointer g'.1 := look_ev hs hx
  obtain ⟨us, hus, hall⟩ := hl w U _ (look_ev hs hv)
  rcases hs.row (Nat.le_of_ble_eq_true hK) hh with ⟨h', _⟩ | ⟨b, cap, vs, sp, hv', hb, hvs, hcl, hcap, hlt⟩
  · have : g'.2.1 = 0 := by injection h'
    rw [this] at h0; cases h0
  · obtain ⟨hq, hxl, hcc⟩ : g'.1 = some ⟨b, 0, none⟩ ∧ g'.2.1 = xs.length ∧ g'.2.2 = cap := by
      injection hv' with h1 h2 h3; exact ⟨h1, h2, h3⟩
    rw [hq] at e1
    rw [hxl] at hn
    have hxl' := hn
    have hlen := hvs.length
    rw [flatMap_length] at hlen
    have hlen' := hall.length
    rw [flatMap_length] at hlen'
    have hll : us.length = vs.length := by rw [← hlen', ← hlen, hxl']
    obtain ⟨w', r1, r2, r3, r4, r5, r6, r7⟩ := storeCells_run (P := P) (off := 0) (us := us) hb (by simp; omega) (all2c_one hall)
    unfold Oper.wp
    have hrun : (execOp a.eval ⟨dst, .store t X V, ty, pos, af, g⟩).run P w = .ok .skip w' := by
      cases hinfo : P.info? t with
      | none => rw [hinfo] at hz; simp at hz
      | some inf =>
        rw [hinfo] at hz; simp only [Option.map_some, Option.some.injEq, Prod.mk.injEq] at hz
        have h6 : us.length = inf.size := by rw [hz.2.1, flatMap_length, hlen']
        simp [execOp, Instr.storeAt, Instr.sureAddr, storeVar, e1, hus, sizeOf, typeInfo, hinfo, h6, r1]
    rw [hrun]
    show K' (a.put dst undef) w'
    rw [hd]
    have hblk : (Rw K e' (Vs g') xs).blk = [b] := by rw [rw_blk, hv']; rfl
    have hk' : ∀ k, k < w.heap.size → k ∉ (Rw K e' (Vs g') xs).blk → w'.heap[k]? = w.heap[k]? := fun k _ hk => r7 k (fun e => hk (by rw [hblk]; simp [e]))
    have hUk : ∀ k, U k → w'.heap[k]? = w.heap[k]? := fun k hU => hk' k (hs.lt k hU) (fun hm => hs.apart _ (List.mem_of_getElem? hh) k hm hU)
    refine k () _ _ ⟨U, ?_⟩ (fun h => by cases h) (fun _ => hs.varSame hh (by simp [Rw]) hk')
    refine hs.reown hh (Rw K e' (Vs g') xs') rfl ?_ r3 r4 r5 (Nat.le_of_eq r6.symm) hk'
    refine .inr ⟨b, xs.length, cap, us, sp, hv', ?_, ?_, ?_, ?_, hcap⟩
    · rw [r2]
      show some (Obj.cells _ _ _) = some (Obj.cells _ _ _)
      congr 2
      rw [List.take_zero, List.nil_append, Nat.zero_add, hll, List.drop_left]
    · show All2 _ (xs'.flatMap K.enc) _
      exact all2c_mono (fun _ h => h) hUk hall
    · show (xs'.flatMap K.enc).length = _
      rw [flatMap_length, hxl']
    · simp only [List.length_append] at hcl ⊢
      rw [hll]; exact hcl
def need {α : Type} (n : Nat) (xs : List α) : Option Unit := if n ≤ xs.length then some () else none
theorem need_some {α : Type} {n : Nat} {xs : List α} {u : Unit} (h : need n xs = some u) : n ≤ xs.length := by
  unfold need at h
  split at h
  · assumption
  · cases h
theorem rd_nilck_pa {α : Type} {K : Kd α} {e' : TypeId} {g' : Gs} {xs : List α} {m : Nat} {X : Operand} (hx : ev s.L X = some (Vl (.pointer g'.1))) (hh : s.H[m]? = some (Rw K e' (Vs g') xs)) (hK : Nat.ble 1 K.size = true) (hn : 1 ≤ xs.length) :
    Rd P s ⟨dst, .nilCheck X, ty, pos, af, g⟩ (Vl (.pointer g'.1)) := fun E a w U hs => by
  have e1 : a.eval X = .pointer g'.1 := look_ev hs hx
  rcases hs.row (Nat.le_of_ble_eq_true hK) hh with ⟨_, h'⟩ | ⟨b, cap, vs, sp, h, _⟩
  · subst h'; simp at hn
  · have hq : g'.1 = some ⟨b, 0, none⟩ := by injection h
    rw [hq] at e1 ⊢
    exact ⟨_, rfl, fun w' _ => by simp [execOp, e1]⟩
theorem rd_s2a {α : Type} {K : Kd α} {e' : TypeId} {g' : Gs} {N : Nat} {xs : List α} {m : Nat} {X : Operand} {t e : TypeId} (hx : ev s.L X = some (Vl (Vs g'))) (hh : s.H[m]? = some (Rw K e' (Vs g') xs)) (hK : Nat.ble 1 K.size = true) (hN : N ≤ xs.length) (h0 : Nat.ble 1 N = true)
    (ht : P.underlying t = some (.array N e)) : Rd P s ⟨dst, .sliceToArrayPointer t X, ty, pos, af, g⟩ (Vl (.pointer g'.1)) := fun E a w U hs => by
  have e1 : a.eval X = Vs g' := look_ev hs hx
  have h0' := Nat.le_of_ble_eq_true h0
  rcases hs.row (Nat.le_of_ble_eq_true hK) hh with ⟨_, h'⟩ | ⟨b, cap, vs, sp, h, _⟩
  · subst h'; simp at hN; omega
  · have hn : g'.2.1 = xs.length := by injection h
    refine ⟨_, rfl, fun w' _ => ?_⟩
    simp [execOp, Instr.arrayAt, e1, run_underlying ht, (show ¬ g'.2.1 < N by omega)]
/-- the address of an array against nil -/
theorem rd_pa_nil {α : Type} {K : Kd α} {e' : TypeId} {g' : Gs} {xs : List α} {m : Nat} {X Y : Operand} {o : BinOp} {tx t2 : TypeId} {y v : Value} (hx : ev s.L X = some (Vl (.pointer g'.1))) (hy : ev s.L Y = some (Vl y)) (hh : s.H[m]? = some (Rw K e' (Vs g') xs)) (hK : Nat.ble 1 K.size = true) (hn : 1 ≤ xs.length)
    (h1 : ∀ (q : Addr) w, (eqGuard o tx X Y (.pointer (some q)) y).run P w = .ok () w) (h2 : ∀ (q : Addr) w, (binOp o tx (.pointer (some q)) y).run P w = .ok v w) : Rd P s ⟨dst, .binOp o tx X Y t2, ty, pos, af, g⟩ (Vl v) := fun E a w U hs => by
  have e1 : a.eval X = .pointer g'.1 := look_ev hs hx
  have e2 : a.eval Y = y := look_ev hs hy
  rcases hs.row (Nat.le_of_ble_eq_true hK) hh with ⟨_, h'⟩ | ⟨b, cap, vs, sp, h, _⟩
  · subst h'; simp at hn
  · have hq : g'.1 = some ⟨b, 0, none⟩ := by injection h
    rw [hq] at e1
    exact ⟨v, rfl, fun w' _ => by simp [execOp, e1, e2, h1 _ w', h2 _ w']⟩
/-- a package variable of a type without cells -/
theorem rd_gload0 {t : TypeId} {h : Nat} (ht : Agg P t 0) : Rd P s ⟨dst, .load t (.global h), ty, pos, af, g⟩ (Ag []) := fun E a w U hs => by
  refine ⟨.agg #[], ⟨[], rfl, trivial⟩, fun w' _ => ?_⟩
  have hl : ∀ (x : Addr), (loadCells x 0).run P w' = .ok #[] w' := fun x => by simpa using run_loadCells_list (P := P) w' x [] (by simp)
  have e1 : a.eval (.global h) = .pointer (some ⟨h, 0, none⟩) := rfl
  simp [execOp, Instr.loadAt, Instr.sureAddr, loadVar, e1, run_isAgg_agg ht, run_size_agg ht, hl]

/-! #### a method of an interface value, held ready -/
def Mf (name : String) (x : SV) : SV := ⟨fun w U u => ∃ v, u = .func (.method name) #[v] #[] ∧ x.R w U v, fun h1 h2 ⟨v, e, h⟩ => ⟨v, e, x.mono h1 h2 h⟩⟩
theorem rd_mkmeth {name : String} {X : Operand} {x : SV} (hx : ev s.L X = some x) : Rd P s ⟨dst, .makeFunc (.method name) #[X] #[], ty, pos, af, g⟩ (Mf name x) := fun E a w U hs =>
  ⟨.func (.method name) #[a.eval X] #[], ⟨_, rfl, look_ev hs hx⟩, fun w' _ => by simp [execOp, Instr.makeFunc]⟩
theorem rd_nilck_mf {name : String} {X : Operand} {t : TypeId} {x : SV} (hx : ev s.L X = some (Mf name (If t x))) (h : ∀ w U v, x.R w U v → ∀ w', (nilAhead (P.types.size + Made.depth) t v name).run P w' = .ok (some false) w') :
    Rd P s ⟨dst, .nilCheck X, ty, pos, af, g⟩ (Mf name (If t x)) := fun E a w U hs => by
  obtain ⟨v, e1, u, hv, hu⟩ := look_ev hs hx
  subst hv
  refine ⟨_, ⟨_, rfl, _, rfl, hu⟩, fun w' _ => ?_⟩
  simp [execOp, e1, h w U u hu w']
theorem rd_capv {b : Option Addr} {n c : Nat} {X : Operand} {t e : TypeId} (hx : ev s.L X = some (Vl (.slice b n c))) (ht : P.underlying t = some (.slice e)) :
    Rd P s ⟨dst, .call { callee := .builtin .cap, args := #[X], argTypes := #[t] }, ty, pos, af, g⟩ (Vl (.int .i64 c)) := fun E a w U hs => by
  have e1 : a.eval X = .slice b n c := look_ev hs hx
  exact ⟨_, rfl, fun w' _ => by simp [execOp, resolve, invoke, builtin, Builtin.cap_, e1, run_underlying ht, goInt]⟩
/-! #### bytes as a string -/
def bytesOf (xs : List Int) : ByteArray := xs.foldl (fun r n => r.push (UInt8.ofNat n.toNat)) ByteArray.empty
theorem rd_bytes {xs : List Int} {X : Operand} {t1 t2 e : TypeId} (hx : ev s.L X = some (Sl (Ki .u8) xs)) (h1 : P.underlying t1 = some (.slice e)) (he : P.underlying e = some (.int .u8)) (h2 : P.underlying t2 = some .string) :
    Rd P s ⟨dst, .convert t1 t2 X, ty, pos, af, g⟩ (Vl (.string (bytesOf xs))) := fun E a w U hs => by
  obtain ⟨b, c, e1, hc, hb⟩ := look_ev hs hx
  refine ⟨_, rfl, fun w' hw' => ?_⟩
  have key : (convert t1 t2 (.slice b xs.length c)).run P w' = .ok (.string (bytesOf xs)) w' := by
    rw [run_convert_bytes_string w' t1 t2 e _ _ _ h1 he h2]
    cases b with
    | none =>
      have hn : xs = [] := by
        by_cases h : xs = []
        · exact h
        · obtain ⟨_, _, h', _⟩ := hb h; cases h'
      subst hn
      simp [Conv.bytesToString, bytesOf]
    | some ad =>
      refine run_bytesToString w' ad _ _ xs ?_
      by_cases h : xs = []
      · subst h
        simpa using run_loadCells_list (P := P) w' ad [] (by simp)
      · obtain ⟨blk, off, h', hU, hcells⟩ := hb h
        cases h'
        have := run_loadCells_list (P := P) w' ⟨blk, off, none⟩ (xs.map (Value.int .u8)) (fun j v hj => by
          rw [List.getElem?_map] at hj
          cases hx' : xs[j]? with
          | none => rw [hx'] at hj; cases hj
          | some x =>
            rw [hx'] at hj
            cases hj
            obtain ⟨u, hu, hr, _⟩ := hcells j x hx' 0 _ rfl
            have : u = .int .u8 x := hr
            subst this
            have hsz : (Ki .u8).size = 1 := rfl
            rw [hsz] at hu
            have e3 : (⟨blk, off, none⟩ : Addr).add j = ⟨blk, off + j * 1 + 0, none⟩ := by unfold Addr.add; split <;> simp_all
            rw [e3, ← hu]
            exact cell?_same (hw' blk (hs.lt blk hU)))
        simpa using this
  simp [execOp, e1, key]

theorem ru_seq {tx : TypeId} {a b : ByteArray} : Runs P (binOp .eql tx (.string a) (.string b)) (.bool (a.toList == b.toList)) := fun w => by
  simp [binOp, Op.stringOp, Sem.run_pure]
theorem ru_sne {tx : TypeId} {a b : ByteArray} : Runs P (binOp .neq tx (.string a) (.string b)) (.bool (!(a.toList == b.toList))) := fun w => by
  simp [binOp, Op.stringOp, Sem.run_pure]

/-- freezing within a region that draws and only reads -/
theorem qx_fz {ops : Array Oper} {rest : List Oper} {K : Act → World → Prop} {s' : St} (h : FrzTo s s') (k : QX E P ops (After K) rest s') : QX E P ops (After K) rest s := fun a w U hs => by
  obtain ⟨U', _, h'⟩ := h E a w U hs
  exact k a w U' h'

theorem rd_cut_allr0 {α : Type} {K : Kd α} {e' : TypeId} {v : Value} {xs : List α} {i : Nat} {X Lo : Operand} {k : IntKind} {t e : TypeId} {z : Option Value} {bytes : Nat} (hx : ev s.L X = some (Vl v)) (hi : s.H[i]? = some (Rw K e' v xs)) (hK : Nat.ble 1 K.size = true)
    (hl : ev s.L Lo = some (Vl (.int k 0))) (ht : P.underlying t = some (.slice e)) (he : (P.info? e).map (fun i => (i.zero, i.size, i.bytes)) = some (z, K.size, bytes)) : Rd P s ⟨dst, .slice t X (some Lo) none none, ty, pos, af, g⟩ (Vl v) := fun E a w U hs => by
  have e1 : a.eval X = v := look_ev hs hx
  have e2 : a.eval Lo = .int k 0 := look_ev hs hl
  cases hinfo : P.info? e with
  | none => rw [hinfo] at he; simp at he
  | some inf =>
    rw [hinfo] at he; simp at he
    refine ⟨v, rfl, fun w' _ => ?_⟩
    rcases hs.row (Nat.le_of_ble_eq_true hK) hi with ⟨h, h'⟩ | ⟨b, cap, vs, sp, h, _, _, _, hc, _⟩
    · subst h; simp [execOp, Instr.sliceAt, Instr.slice, e1, e2, run_underlying ht, Instr.sliceBounds, run_sliceBound, sizeOf, typeInfo, hinfo, he.2.1]
    · subst h; simp [execOp, Instr.sliceAt, Instr.slice, e1, e2, run_underlying ht, Instr.sliceBounds, run_sliceBound, sizeOf, typeInfo, hinfo, he.2.1, addr_add, hc]
/-! #### a slice of which the length alone is known -/
def Ln (m : Nat) : SV := ⟨fun _ _ u => ∃ a c, u = .slice a m c, fun _ _ h => h⟩
theorem rd_cutn_l {α : Type} {K : Kd α} {e' : TypeId} {v : Value} {xs ys : List α} {i : Nat} {X Lo : Operand} {k1 : IntKind} {lo : Int} {t e : TypeId} {z : Option Value} {bytes : Nat} (hx : ev s.L X = some (Vl v)) (hi' : s.H[i]? = some (Rw K e' v xs)) (hK : Nat.ble 1 K.size = true)
    (hl : ev s.L Lo = some (Vl (.int k1 lo))) (hc : cut xs lo xs.length = some ys) (ht : P.underlying t = some (.slice e)) (he : (P.info? e).map (fun i => (i.zero, i.size, i.bytes)) = some (z, K.size, bytes)) : Rd P s ⟨dst, .slice t X (some Lo) none none, ty, pos, af, g⟩ (Ln ys.length) := fun E a w U hs => by
  obtain ⟨u, h1, h2⟩ := part_cut (dst := dst) (ty := ty) (pos := pos) (af := af) (g := g) (E := E) hx hi' hK (Lo := some Lo) (Hi := none) (fun hs => .inr ⟨Lo, k1, rfl, look_ev hs hl⟩) (fun _ => .inl ⟨rfl, rfl⟩) hc ht he hs
  refine ⟨u, ?_, fun w' _ => h2 w'⟩
  rcases h1 with ⟨_, h, _, hm⟩ | ⟨b, n, c, o, c', _, h, _⟩
  · exact ⟨none, 0, by rw [h, hm]⟩
  · exact ⟨_, _, h⟩
theorem rd_lenn {m : Nat} {X : Operand} {t e : TypeId} (hx : ev s.L X = some (Ln m)) (ht : P.underlying t = some (.slice e)) :
    Rd P s ⟨dst, .call { callee := .builtin .len, args := #[X], argTypes := #[t] }, ty, pos, af, g⟩ (Vl (.int .i64 m)) := fun E a w U hs => by
  obtain ⟨b, c, e1⟩ := look_ev hs hx
  exact ⟨_, rfl, fun w' _ => by simp [execOp, resolve, invoke, builtin, Builtin.len_, e1, run_underlying ht, goInt]⟩

/-! #### package variables that nobody writes -/
theorem rd_gload {h : Nat} {t : TypeId} {x : SV} (hm : (h, x) ∈ (Gv.l : List (Nat × SV))) (ht : Flat P t) : Rd P s ⟨dst, .load t (.global h), ty, pos, af, g⟩ x := fun E a w U hs => by
  obtain ⟨hU, hc⟩ := hs.glob _ hm
  obtain ⟨v, hv, hR⟩ := hc 0 x rfl
  refine ⟨v, hR.1, fun w' hw' => ?_⟩
  have hcell : w'.cell? ⟨h, 0, none⟩ = some v := by rw [← hv]; exact cell?_same (hw' h (hs.lt h hU))
  have e1 : a.eval (.global h) = .pointer (some ⟨h, 0, none⟩) := rfl
  simp [execOp, Instr.loadAt, Instr.sureAddr, loadVar, e1, run_isAgg_flat ht, hcell]
theorem rd_eqifp {ti tp te t2 : TypeId} {ms : Array (String × TypeId)} {X Y : Operand} {q : Addr} (hx : ev s.L X = some (If tp (Vl (.pointer (some q))))) (hy : ev s.L Y = some (If tp (Vl (.pointer (some q)))))
    (hi : P.underlying ti = some (.interface ms)) (hp : P.underlying tp = some (.pointer te)) (hc : (P.info? tp).map (·.comparable) = some true) (hte : (P.info? te).isSome = true) :
    Rd P s ⟨dst, .binOp .eql ti X Y t2, ty, pos, af, g⟩ (Vl (.bool true)) := fun E a w U hs => by
  obtain ⟨u, e1, hu⟩ := look_ev hs hx
  obtain ⟨u', e2, hu'⟩ := look_ev hs hy
  have hu : u = .pointer (some q) := hu
  have hu' : u' = .pointer (some q) := hu'
  subst hu; subst hu'
  cases hinfo : P.info? tp with
  | none => rw [hinfo] at hc; cases hc
  | some inf =>
    cases hinf2 : P.info? te with
    | none => rw [hinf2] at hte; cases hte
    | some j =>
      rw [hinfo] at hc
      have hcomp : inf.comparable = true := by simpa using hc
      refine ⟨_, rfl, fun w' _ => ?_⟩
      have hr := run_eql_iface_ptr_same (P := P) w' (ti := ti) q hi hp hinfo hcomp hinf2
      have hg : (eqGuard .eql ti X Y (.iface tp (.pointer (some q))) (.iface tp (.pointer (some q)))).run P w' = .ok () w' := by simp [eqGuard]
      simp [execOp, e1, e2, hr, hg]

/-- a float, said short: for long texts -/
abbrev Vg (x : Nat) : SV := Vl (.float .f64 x)
end
end Go.Sx
