/-
  Steps of a walk over the symbolic state: panics, and closures that catch them. Ours; it knows no program.
-/
import Derived.Test.YtmagcmeknclljaaSxS
import Derived.Recover
namespace Go.Sx
set_option linter.unusedVariables false
set_option linter.unusedSectionVars false
set_option linter.unusedSimpArgs false
variable [Gv]

section
variable {E : Env} {P : Program} {Q : Exit → Act → World → Prop} {s : St} {ops : Array Oper} {rest : List Oper} {o : Oper} {dst : Option Tmp} {ty : TypeId} {pos : String} {af : Array Edge} {g : Option (Nat × Bool)}

abbrev pch (tx : TypeId) (vx : Value) : List PanicEntry := [{ v := .iface tx vx, recovered := false }]
def PanE (E : Env) (e : Ending) (w' : World) : Prop := ∃ tx vx, e = .panicked (pch tx vx) ∧ Ext E.M E.w0 w'
def Fx (P : Program) (f : Nat) (A : List SV) (HA : List Res) {X : Type} (pan : Bool) (r : X → SV) (HR : X → List Res) : Prop :=
  ∀ (w : World) (U : Nat → Prop) (args : List Value), All2 (fun s v => s.R w U v) A args → (∀ q ∈ HA, q.own w U) → (HA.flatMap Res.blk).Nodup → (∀ q ∈ HA, ∀ b ∈ q.blk, ¬ U b) →
    (∀ k, U k → k < w.heap.size) → GOk w U → Calls P f args.toArray w (bif pan then PanE ⟨w, U, HA.flatMap Res.blk⟩ else PostE ⟨w, U, HA.flatMap Res.blk⟩ r HR)
theorem Fx.fn {f : Nat} {A : List SV} {HA : List Res} {X : Type} {r : X → SV} {HR : X → List Res} (h : Fx P f A HA false r HR) : Fn P f A HA r HR := h
def Pan (P : Program) (s : St) (o : Oper) : Prop := ∀ E a w U, SymAt E s a w U → ∃ tx vx w', (execOp a.eval o).run P w = .halt (.panic (.iface tx vx)) w' ∧ Ext [] w w'
def PanQ (E : Env) (Q : Exit → Act → World → Prop) (s : St) : Prop := ∀ tx vx, TX E (Q (.panic (pch tx vx))) s
def Catch (P : Program) (f : Nat) (A : List SV) (HA HR : List Res) : Prop :=
  ∀ (w : World) (U : Nat → Prop) (args : List Value) (tx : TypeId) (vx : Value), All2 (fun s v => s.R w U v) A args → (∀ q ∈ HA, q.own w U) → (HA.flatMap Res.blk).Nodup → (∀ q ∈ HA, ∀ b ∈ q.blk, ¬ U b) →
    (∀ k, U k → k < w.heap.size) → GOk w U → CallsD P f args.toArray (.panicking (pch tx vx)) w fun e u' w' => settle u' = .returning ∧ PostE ⟨w, U, HA.flatMap Res.blk⟩ (fun _ : Unit => Vl (.tuple #[])) (fun _ => HR) e w'
def Pf (v : Value) (m : Nat) : SV := ⟨fun _ _ u => ∃ a n c, v = .slice a n c ∧ u = .slice a m c, fun _ _ h => h⟩
theorem rd_cutpre {α : Type} {K : Kd α} {e' : TypeId} {v : Value} {xs ys : List α} {i : Nat} {X Hi : Operand} {Lo : Option Operand} {k2 k1 : IntKind} {hi : Int} {t e : TypeId} {z : Option Value} {bytes : Nat} (hx : ev s.L X = some (Vl v)) (hi' : s.H[i]? = some (Rw K e' v xs)) (hK : Nat.ble 1 K.size = true)
    (hlo : Lo = none ∨ ∃ Y, Lo = some Y ∧ ev s.L Y = some (Vl (.int k1 0)))
    (hh : ev s.L Hi = some (Vl (.int k2 hi))) (hc : cut xs 0 hi = some ys) (ht : P.underlying t = some (.slice e)) (he : (P.info? e).map (fun i => (i.zero, i.size, i.bytes)) = some (z, K.size, bytes)) : Rd P s ⟨dst, .slice t X Lo (some Hi) none, ty, pos, af, g⟩ (Pf v ys.length) := fun E a w U hs => by
  obtain ⟨c0, c1, c2, c3, c4⟩ := cut_len hc
  have e1 : a.eval X = v := look_ev hs hx
  have e3 : a.eval Hi = .int k2 hi := look_ev hs hh
  have hl' : Lo = none ∨ ∃ L, Lo = some L ∧ a.eval L = .int k1 0 := hlo.imp id (fun ⟨L, h1, h2⟩ => ⟨L, h1, look_ev hs h2⟩)
  clear hlo
  cases hinfo : P.info? e with
  | none => rw [hinfo] at he; simp at he
  | some inf =>
    rw [hinfo] at he; simp at he
    rcases hs.row (Nat.le_of_ble_eq_true hK) hi' with ⟨h, h'⟩ | ⟨b, cap, vs, sp, h, _, _, _, hcap, _⟩
    · subst h; subst h'
      simp only [List.length_nil] at c2 c4
      obtain rfl : hi = 0 := by omega
      refine ⟨.slice none 0 0, ⟨none, 0, 0, rfl, by rw [show ys.length = 0 from by omega]⟩, fun w' _ => ?_⟩
      rcases hl' with rfl | ⟨L, rfl, e2⟩
      · simp [execOp, Instr.sliceAt, Instr.slice, e1, e3, run_underlying ht, Instr.sliceBounds, run_sliceBound, sizeOf, typeInfo, hinfo, he.2.1]
      · simp [execOp, Instr.sliceAt, Instr.slice, e1, e2, e3, run_underlying ht, Instr.sliceBounds, run_sliceBound, sizeOf, typeInfo, hinfo, he.2.1]
    · subst h
      have h5 : hi ≤ (cap : Int) := by omega
      have hc1 : (hi.toNat : Int) = hi := Int.toNat_of_nonneg (by omega)
      refine ⟨.slice (some ⟨b, 0, none⟩) ys.length cap, ⟨_, _, _, rfl, rfl⟩, fun w' _ => ?_⟩
      have hy : ys.length = hi.toNat := by omega
      rw [hy]
      rcases hl' with rfl | ⟨L, rfl, e2⟩
      · simp [execOp, Instr.sliceAt, Instr.slice, e1, e3, run_underlying ht, Instr.sliceBounds, run_sliceBound, sizeOf, typeInfo, hinfo, he.2.1, addr_add, h5, c1]
      · simp [execOp, Instr.sliceAt, Instr.slice, e1, e2, e3, run_underlying ht, Instr.sliceBounds, run_sliceBound, sizeOf, typeInfo, hinfo, he.2.1, addr_add, h5, c1, (by omega : 0 ≤ hi)]
theorem cut_pre {α : Type} {xs ys : List α} {hi : Int} (h : cut xs 0 hi = some ys) : cut xs 0 (ys.length : Int) = some ys := by
  obtain ⟨c0, c1, c2, c3, c4⟩ := cut_len h
  have : (ys.length : Int) = hi := by omega
  rw [this]; exact h
theorem SymAt.pre {a : Act} {w : World} {U : Nat → Prop} (hs : SymAt E s a w U) {α : Type} {K : Kd α} {e : TypeId} {v : Value} {xs ys : List α} {m i d : Nat} (hd : look s.L d = some (Pf v m)) (hi : s.H[i]? = some (Rw K e v xs)) (hK : Nat.ble 1 K.size = true) (hc : cut xs 0 (m : Int) = some ys) :
    ∃ g : Gs, SymAt E { s with L := (d, Vl (Vs g)) :: s.L, H := s.H.set i (Rw K e (Vs g) ys) } a w U := by
  obtain ⟨u, hu, a', n, c, hv, hr⟩ := hs.slot d _ hd
  obtain ⟨_, _, c2, c3, _⟩ := cut_len hc
  refine ⟨(a', m, c), ?_⟩
  have hys : ys = xs.take m := by
    unfold cut at hc
    split at hc
    · cases hc; simp
    · cases hc
  have hblk : (Rw K e (Vs (a', m, c)) ys).blk = (Rw K e v xs).blk := by
    show blkOf (.slice a' m c) = blkOf v
    rw [hv]; cases a' <;> rfl
  have hre := hs.reown (w' := w) hi (Rw K e (Vs (a', m, c)) ys) hblk ?_ rfl rfl rfl (Nat.le_refl _) (fun _ _ _ => rfl)
  · exact {
      size := hre.size, defers := hre.defers, own := hre.own, nodup := hre.nodup, apart := hre.apart, base := hre.base, lt := hre.lt, from0 := hre.from0, to0 := hre.to0, ext := hre.ext, glob := hre.glob
      slot := fun k x hk => by
        simp only [look] at hk
        cases hb : Nat.beq d k with
        | true =>
          rw [hb] at hk
          simp at hk
          have := Nat.eq_of_beq_eq_true hb
          subst this
          exact ⟨u, hu, by subst hk; exact hr⟩
        | false =>
          rw [hb] at hk
          exact hre.slot k x (by simpa using hk) }
  · rcases hs.row (Nat.le_of_ble_eq_true hK) hi with ⟨h, h'⟩ | ⟨b, cap, vs, sp, h, hb, hvs, hcl, hcap, _⟩
    · subst h'
      rw [h] at hv
      cases hv
      simp only [List.length_nil] at c2
      have hm0 : m = 0 := by omega
      subst hm0
      exact .inl ⟨rfl, by rw [hys]; rfl⟩
    · rw [h] at hv
      cases hv
      have hvl : vs.length = xs.length * K.size := by rw [← hvs.length, flatMap_length]
      have hmx : m ≤ xs.length := by omega
      have hmul : m * K.size ≤ xs.length * K.size := Nat.mul_le_mul_right _ hmx
      have hfl : ys.flatMap K.enc = (xs.flatMap K.enc).take (m * K.size) := by
        rw [hys]
        have h3 : (xs.flatMap K.enc) = (xs.take m).flatMap K.enc ++ (xs.drop m).flatMap K.enc := by rw [← List.flatMap_append, List.take_append_drop]
        have h4 : ((xs.take m).flatMap K.enc).length = m * K.size := by rw [flatMap_length, List.length_take, Nat.min_eq_left hmx]
        rw [h3, ← h4, List.take_left]
      refine .inr ⟨b, m, c, vs.take (m * K.size), vs.drop (m * K.size) ++ sp, rfl, ?_, ?_, ?_, ?_, by omega⟩
      · rw [hb, ← List.append_assoc, List.take_append_drop]
        rfl
      · show All2 _ (ys.flatMap K.enc) _
        rw [hfl]; exact All2.take _ hvs
      · show (ys.flatMap K.enc).length = m * K.size
        rw [flatMap_length, hys, List.length_take, Nat.min_eq_left hmx]
      · rw [← List.append_assoc, List.take_append_drop]; exact hcl
theorem tx_pre {K' : Act → World → Prop} (d i : Nat) {α : Type} {K : Kd α} {e : TypeId} {v : Value} {xs ys : List α} {m : Nat} (hd : look s.L d = some (Pf v m)) (hi : s.H[i]? = some (Rw K e v xs)) (hK : Nat.ble 1 K.size = true) (hc : cut xs 0 (m : Int) = some ys)
    (k : ∀ g : Gs, TX E K' { s with L := (d, Vl (Vs g)) :: s.L, H := s.H.set i (Rw K e (Vs g) ys) }) : TX E K' s := fun a w ⟨U, hs⟩ => by
  obtain ⟨g, h⟩ := hs.pre hd hi hK hc
  exact k g a w ⟨U, h⟩
def ovw {α : Type} (xs : List α) (m : Nat) (ys : List α) : Option (List α) := if m + ys.length ≤ xs.length then some (xs.take m ++ ys ++ xs.drop (m + ys.length)) else none
end
/-! #### math.Min, math.Max as the machine has them -/
def mpick (neg : Bool) (win : Ordering) (x y : Nat) : Nat :=
  let a := FloatKind.f64.decode x
  let b := FloatKind.f64.decode y
  if a == .infinity neg || b == .infinity neg then FloatKind.f64.encode (.infinity neg)
  else if a.isNaN || b.isNaN then 0x7FF8000000000001
  else if a.isZero && b.isZero then (if a.neg == neg then x else y)
  else if a.order b == some win then x else y
theorem ex_pick {P : Program} {nm : String} {neg : Bool} {win : Ordering} {x y : Nat} : Runs P (Extern.MathDim.pick nm neg win #[.float .f64 x, .float .f64 y]) (.float .f64 (mpick neg win x y)) := fun w => rfl
end Go.Sx
