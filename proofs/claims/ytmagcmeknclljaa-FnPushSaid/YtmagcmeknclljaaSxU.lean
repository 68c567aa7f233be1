/-
  Steps of a walk over the symbolic state: panics, and closures that catch them. Ours; it knows no program.
-/
import Derived.Test.YtmagcmeknclljaaSxS
import Derived.Recover
namespace Go.Sx
set_option linter.unusedVariables false
set_option linter.unusedSectionVars false
set_option linter.unusedSimpArgs false
variable [Gv]

section
variable {E : Env} {P : Program} {Q : Exit → Act → World → Prop} {s : St} {ops : Array Oper} {rest : List Oper} {o : Oper} {dst : Option Tmp} {ty : TypeId} {pos : String} {af : Array Edge} {g : Option (Nat × Bool)}

abbrev pch (tx : TypeId) (vx : Value) : List PanicEntry := [{ v := .iface tx vx, recovered := false }]
def PanE (E : Env) (e : Ending) (w' : World) : Prop := ∃ tx vx, e = .panicked (pch tx vx) ∧ Ext E.M E.w0 w'
def Fx (P : Program) (f : Nat) (A : List SV) (HA : List Res) {X : Type} (pan : Bool) (r : X → SV) (HR : X → List Res) : Prop :=
  ∀ (w : World) (U : Nat → Prop) (args : List Value), All2 (fun s v => s.R w U v) A args → (∀ q ∈ HA, q.own w U) → (HA.flatMap Res.blk).Nodup → (∀ q ∈ HA, ∀ b ∈ q.blk, ¬ U b) →
    (∀ k, U k → k < w.heap.size) → GOk w U → Calls P f args.toArray w (bif pan then PanE ⟨w, U, HA.flatMap Res.blk⟩ else PostE ⟨w, U, HA.flatMap Res.blk⟩ r HR)
theorem Fx.fn {f : Nat} {A : List SV} {HA : List Res} {X : Type} {r : X → SV} {HR : X → List Res} (h : Fx P f A HA false r HR) : Fn P f A HA r HR := h
def Pan (P : Program) (s : St) (o : Oper) : Prop := ∀ E a w U, SymAt E s a w U → ∃ tx vx w', (execOp a.eval o).run P w = .halt (.panic (.iface tx vx)) w' ∧ Ext [] w w'
def PanQ (E : Env) (Q : Exit → Act → World → Prop) (s : St) : Prop := ∀ tx vx, TX E (Q (.panic (pch tx vx))) s
def Catch (P : Program) (f : Nat) (A : List SV) (HA HR : List Res) : Prop :=
  ∀ (w : World) (U : Nat → Prop) (args : List Value) (tx : TypeId) (vx : Value), All2 (fun s v => s.R w U v) A args → (∀ q ∈ HA, q.own w U) → (HA.flatMap Res.blk).Nodup → (∀ q ∈ HA, ∀ b ∈ q.blk, ¬ U b) →
    (∀ k, U k → k < w.heap.size) → GOk w U → CallsD P f args.toArray (.panicking (pch tx vx)) w fun e u' w' => settle u' = .returning ∧ PostE ⟨w, U, HA.flatMap Res.blk⟩ (fun _ : Unit => Vl (.tuple #[])) (fun _ => HR) e w'
theorem imp_eq {x y : SV} (h : x = y) : Imp x y := h ▸ imp_refl
def Pf (v : Value) (m : Nat) : SV := ⟨fun _ _ u => ∃ a n c, v = .slice a n c ∧ u = .slice a m c, fun _ _ h => h⟩
def ovw {α : Type} (xs : List α) (m : Nat) (ys : List α) : Option (List α) := if m + ys.length ≤ xs.length then some (xs.take m ++ ys ++ xs.drop (m + ys.length)) else none
theorem rd_rw_nil {α : Type} {K : Kd α} {e' : TypeId} {g' : Gs} {xs : List α} {m : Nat} {X Y : Operand} {o : BinOp} {tx t2 : TypeId} {y v : Value} {u : Unit} (hx : ev s.L X = some (Vl (Vs g'))) (hy : ev s.L Y = some (Vl y)) (hh : s.H[m]? = some (Rw K e' (Vs g') xs)) (hK : Nat.ble 1 K.size = true) (hn : some1 xs = some u)
    (h1 : ∀ (q : Addr) (i c : Nat) w, (eqGuard o tx X Y (.slice (some q) i c) y).run P w = .ok () w) (h2 : ∀ (q : Addr) (i c : Nat) w, (binOp o tx (.slice (some q) i c) y).run P w = .ok v w) : Rd P s ⟨dst, .binOp o tx X Y t2, ty, pos, af, g⟩ (Vl v) := fun E a w U hs => by
  have e1 : a.eval X = Vs g' := look_ev hs hx
  have e2 : a.eval Y = y := look_ev hs hy
  rcases hs.row (Nat.le_of_ble_eq_true hK) hh with ⟨_, h'⟩ | ⟨b, cap, vs, sp, h, _⟩
  · exact absurd h' (some1_ne hn)
  · rw [h] at e1
    exact ⟨v, rfl, fun w' _ => by simp [execOp, e1, e2, h1 _ _ _ w', h2 _ _ _ w']⟩
/-! #### a copy out of a row of one's own -/
def Cs {α : Type} (P : Program) (s : St) (Y : Operand) (K : Kd α) (ys : List α) : Prop := ∀ E a w U, SymAt E s a w U → ∃ (sb : Option Addr) (sc : Nat), a.eval Y = .slice sb ys.length sc ∧
  ∀ m : Nat, ∃ us : List Value, (Builtin.firstCells K.size (Nat.min ys.length m) (.slice sb ys.length sc)).run P w = .ok us.toArray w ∧ All2 (fun s v => s.C w U v) ((ys.take m).flatMap K.enc) us
theorem cs_row {e : TypeId} {Y : Operand} {α : Type} {K : Kd α} {ys : List α} {v : Value} {j : Nat} (hy : ev s.L Y = some (Vl v)) (hh : s.H[j]? = some (Rw K e v ys)) (hK : Nat.ble 1 K.size = true) : Cs P s Y K ys := fun E a w U hs => by
  have e1 : a.eval Y = v := look_ev hs hy
  rcases hs.row (Nat.le_of_ble_eq_true hK) hh with ⟨h, rfl⟩ | ⟨b, cap, vs, sp, h, hb, hall, hl, hc, hlt⟩
  · refine ⟨none, 0, by rw [e1, h]; rfl, fun m => ⟨[], ?_, by simp [All2]⟩⟩
    have hl : ∀ (x : Addr), (loadCells x 0).run P w = .ok #[] w := fun x => by simpa using run_loadCells_list (P := P) w x [] (by simp)
    simp [Builtin.firstCells, hl]
  · refine ⟨some ⟨b, 0, none⟩, cap, by rw [e1, h], fun m => ⟨vs.take (Nat.min ys.length m * K.size), ?_, ?_⟩⟩
    · have hvl : vs.length = ys.length * K.size := by rw [← hall.length, flatMap_length]
      refine run_firstCells_some w K.size _ _ _ _ (vs.take (Nat.min ys.length m * K.size)) ?_ (fun j u hj => ?_)
      · rw [List.length_take, hvl]
        exact Nat.min_eq_left (Nat.mul_le_mul_right _ (Nat.min_le_left _ _))
      · simp only [List.getElem?_take] at hj
        split at hj
        · have : j < vs.length := (List.getElem?_eq_some_iff.1 hj).1
          rw [addr_add]
          simp [World.cell?, hb, List.getElem?_append_left this, hj]
        · cases hj
    · have e : ys.take m = ys.take (Nat.min ys.length m) := by
        show ys.take m = ys.take (min ys.length m)
        by_cases hm : m ≤ ys.length
        · rw [Nat.min_eq_right hm]
        · rw [Nat.min_eq_left (by omega), List.take_of_length_le (by omega), List.take_of_length_le (Nat.le_refl _)]
      rw [e, flat_take _ _ (Nat.min_le_left _ _)]
      exact hall.take _
theorem ox_copyc {d i : Nat} {t tx e e' : TypeId} {X Y : Operand} {α : Type} {K : Kd α} {xs ys zs : List α} {v : Value} {z : Option Value} {bytes : Nat} (hx : ev s.L X = some (Vl v)) (hh : s.H[i]? = some (Rw K e' v xs)) (hK : Nat.ble 1 K.size = true) (hy : Cs P s Y K ys)
    (hz' : cpy xs ys = zs) (ht : P.underlying t = some (.slice e)) (hz : (P.info? e).map (fun i => (i.zero, i.size, i.bytes)) = some (z, K.size, bytes)) (hd : dst = some d) (hn : Nat.ble (d + 1) s.n = true) {H' : List Res} (hH' : s.H.set i (Rw K e' v zs) = H') :
    OX E P ⟨dst, .call { callee := .builtin .copy, args := #[X, Y], argTypes := #[t, tx] }, ty, pos, af, g⟩ 1 (fun _ : Unit => { s with L := (d, Vl (.int .i64 (Nat.min ys.length xs.length : Nat))) :: s.L, H := H' }) s := fun Q a w U hs K' k => by
  subst hH'; subst hz'
  have e1 : a.eval X = v := look_ev hs hx
  obtain ⟨sb, sc, e2, hsx⟩ := hy E a w U hs
  have hK1 := Nat.le_of_ble_eq_true hK
  cases hinfo : P.info? e with
  | none => rw [hinfo] at hz; simp at hz
  | some inf =>
    rw [hinfo] at hz; simp at hz
    obtain ⟨hz1, hz2, hz3⟩ := hz
    rcases hs.row hK1 hh with ⟨hv, rfl⟩ | ⟨b, cap, vs, sp, hv, hb, hvs, hcl, hcap, hlt⟩
    · have hrun : (execOp a.eval ⟨dst, .call { callee := .builtin .copy, args := #[X, Y], argTypes := #[t, tx] }, ty, pos, af, g⟩).run P w = .ok (.value (.int .i64 (Nat.min ys.length 0 : Nat))) w := by
        have hl : ∀ (x : Addr), (loadCells x 0).run P w = .ok #[] w := fun x => by simpa using run_loadCells_list (P := P) w x [] (by simp)
        cases sb <;> simp [execOp, resolve, invoke, builtin, e1, e2, hv, Builtin.copy_, run_underlying ht, Builtin.lenOf, Builtin.firstCells, sizeOf, typeInfo, hinfo, hl, goInt]
      unfold Oper.wp
      rw [hrun]
      show K' (a.put dst _) _
      rw [hd]
      have hset : s.H.set i (Rw K e' v (cpy ([] : List α) ys)) = s.H := by
        have : cpy ([] : List α) ys = [] := by simp [cpy]
        rw [this]
        exact set_same hh
      exact k () _ _ ⟨U, by rw [hset]; exact hs.put hn rfl⟩ (fun h => by cases h) (fun _ => hs.varExt (Ext.refl _ _))
    · have hvl : vs.length = xs.length * K.size := by rw [← hvs.length, flatMap_length]
      obtain ⟨us, hfirst, hus⟩ := hsx xs.length
      rw [← hz2] at hfirst
      have hlu : us.length = (ys.take xs.length).length * K.size := by rw [← hus.length, flatMap_length]
      have hle : (ys.take xs.length).length * K.size ≤ xs.length * K.size := Nat.mul_le_mul_right _ (by simp; omega)
      obtain ⟨w', r1, r2, r3, r4, r5, r6, r7⟩ := storeCells_run (P := P) (off := 0) (us := us) hb (by simp only [List.length_append]; omega) (all2c_one hus)
      have hrun : (execOp a.eval ⟨dst, .call { callee := .builtin .copy, args := #[X, Y], argTypes := #[t, tx] }, ty, pos, af, g⟩).run P w = .ok (.value (.int .i64 (Nat.min ys.length xs.length : Nat))) w' := by
        simp [execOp, resolve, invoke, builtin, e1, e2, hv, Builtin.copy_, run_underlying ht, lenOf_slice, sizeOf, typeInfo, hinfo, hfirst, r1, goInt]
      unfold Oper.wp
      rw [hrun]
      show K' (a.put dst _) _
      rw [hd]
      have hblk : (Rw K e' v xs).blk = [b] := by simp [rw_blk, hv, blkOf]
      have hk' : ∀ k, k < w.heap.size → k ∉ (Rw K e' v xs).blk → w'.heap[k]? = w.heap[k]? := fun k _ hk => r7 k (fun e => hk (by rw [hblk]; simp [e]))
      have hUk : ∀ k, U k → w'.heap[k]? = w.heap[k]? := fun k hU => hk' k (hs.lt k hU) (fun hm => hs.apart _ (List.mem_of_getElem? hh) k hm hU)
      have hcl2 : (cpy xs ys).length = xs.length := by simp [cpy]; omega
      have hre := hs.reown hh (Rw K e' v (cpy xs ys)) rfl ?_ r3 r4 r5 (Nat.le_of_eq r6.symm) hk'
      · exact k () _ _ ⟨U, hre.put (s := { s with H := s.H.set i (Rw K e' v (cpy xs ys)) }) hn rfl⟩ (fun h => by cases h) (fun _ => hs.varSame hh (by simp [Rw]) hk')
      · refine .inr ⟨b, xs.length, cap, us ++ vs.drop us.length, sp, by rw [show (Rw K e' v (cpy xs ys)).v = v from rfl, hv], ?_, ?_, ?_, ?_, hcap⟩
        · rw [r2]
          show some (Obj.cells _ _ _) = some (Obj.cells _ _ _)
          congr 2
          rw [List.take_zero, List.nil_append, Nat.zero_add, List.drop_append_of_le_length (by omega), List.append_assoc]
        · show All2 _ ((cpy xs ys).flatMap K.enc) _
          unfold cpy
          rw [List.flatMap_append]
          refine all2c_mono (fun _ h => h) hUk (hus.append ?_)
          have hdr : (xs.drop ys.length).flatMap K.enc = (xs.flatMap K.enc).drop us.length := by
            rw [hlu, List.length_take]
            have key : ∀ (xs : List α) (m : Nat), m ≤ xs.length → (xs.drop m).flatMap K.enc = (xs.flatMap K.enc).drop (m * K.size) := by
              intro xs
              induction xs with
              | nil => intro m hm; simp
              | cons x xs ih =>
                intro m hm
                cases m with
                | zero => simp
                | succ m =>
                  simp only [List.drop_succ_cons, List.flatMap_cons]
                  have h1 : (K.enc x).drop ((m + 1) * K.size) = [] := List.drop_eq_nil_of_le (by rw [K.len, Nat.succ_mul]; omega)
                  rw [ih m (by simpa using hm), List.drop_append, h1, K.len, Nat.succ_mul, Nat.add_sub_cancel, List.nil_append]
            by_cases hmn : xs.length ≤ ys.length
            · rw [Nat.min_eq_left hmn, List.drop_eq_nil_of_le hmn, List.drop_eq_nil_of_le (by rw [flatMap_length]; omega)]; rfl
            · rw [Nat.min_eq_right (by omega)]; exact key xs _ (by omega)
          rw [hdr]
          exact hvs.drop _
        · show ((cpy xs ys).flatMap K.enc).length = _
          rw [flatMap_length, hcl2]
        · simp only [List.length_append, List.length_drop] at hcl ⊢
          omega
/-! #### a NaN of unknown bits, taken as this very word -/
end
/-! #### math.Min, math.Max as the machine has them -/
def mpick (neg : Bool) (win : Ordering) (x y : Nat) : Nat :=
  let a := FloatKind.f64.decode x
  let b := FloatKind.f64.decode y
  if a == .infinity neg || b == .infinity neg then FloatKind.f64.encode (.infinity neg)
  else if a.isNaN || b.isNaN then 0x7FF8000000000001
  else if a.isZero && b.isZero then (if a.neg == neg then x else y)
  else if a.order b == some win then x else y
def KV : Kd SV := ⟨1, fun s => [s], fun _ => rfl⟩
def Kn : Kd Unit := Kd.one fun _ => Vl (.slice none 0 0)
def cel {α : Type} (K : Kd α) (xs : List (List α)) (i : Nat) : List SV := (xs.take i).map (Sl K) ++ List.replicate (xs.length - i) (Vl (.slice none 0 0))
def Bany (p : Prop) : SV := ⟨fun _ _ v => ∃ b : Bool, v = .bool b ∧ (b = true → p), fun _ _ h => h⟩
section
variable {E : Env} {P : Program} {Q : Exit → Act → World → Prop} {s : St} {dst : Option Tmp} {ty : TypeId} {pos : String} {af : Array Edge} {g : Option (Nat × Bool)}
end
end Go.Sx
