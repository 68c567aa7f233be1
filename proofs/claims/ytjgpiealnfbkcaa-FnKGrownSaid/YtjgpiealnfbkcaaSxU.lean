/-
  Steps of a walk over the symbolic state: panics, and closures that catch them. Ours; it knows no program.
-/
import Derived.Test.YtjgpiealnfbkcaaSxS
import Derived.Recover
import Derived.LaidEqlPtr
namespace Go.Sx
set_option linter.unusedVariables false
set_option linter.unusedSectionVars false
set_option linter.unusedSimpArgs false
variable [Gv]

section
variable {E : Env} {P : Program} {Q : Exit → Act → World → Prop} {s : St} {ops : Array Oper} {rest : List Oper} {o : Oper} {dst : Option Tmp} {ty : TypeId} {pos : String} {af : Array Edge} {g : Option (Nat × Bool)}

abbrev pch (tx : TypeId) (vx : Value) : List PanicEntry := [{ v := .iface tx vx, recovered := false }]
def PanE (E : Env) (e : Ending) (w' : World) : Prop := ∃ tx vx, e = .panicked (pch tx vx) ∧ Ext E.M E.w0 w'
def Fx (P : Program) (f : Nat) (A : List SV) (HA : List Res) {X : Type} (pan : Bool) (r : X → SV) (HR : X → List Res) : Prop :=
  ∀ (w : World) (U : Nat → Prop) (args : List Value), All2 (fun s v => s.R w U v) A args → (∀ q ∈ HA, q.own w U) → (HA.flatMap Res.blk).Nodup → (∀ q ∈ HA, ∀ b ∈ q.blk, ¬ U b) →
    (∀ k, U k → k < w.heap.size) → GOk w U → Calls P f args.toArray w (bif pan then PanE ⟨w, U, HA.flatMap Res.blk⟩ else PostE ⟨w, U, HA.flatMap Res.blk⟩ r HR)
theorem Fx.fn {f : Nat} {A : List SV} {HA : List Res} {X : Type} {r : X → SV} {HR : X → List Res} (h : Fx P f A HA false r HR) : Fn P f A HA r HR := h
def Pan (P : Program) (s : St) (o : Oper) : Prop := ∀ E a w U, SymAt E s a w U → ∃ tx vx w', (execOp a.eval o).run P w = .halt (.panic (.iface tx vx)) w' ∧ Ext [] w w'
def PanQ (E : Env) (Q : Exit → Act → World → Prop) (s : St) : Prop := ∀ tx vx, TX E (Q (.panic (pch tx vx))) s
def Catch (P : Program) (f : Nat) (A : List SV) (HA HR : List Res) : Prop :=
  ∀ (w : World) (U : Nat → Prop) (args : List Value) (tx : TypeId) (vx : Value), All2 (fun s v => s.R w U v) A args → (∀ q ∈ HA, q.own w U) → (HA.flatMap Res.blk).Nodup → (∀ q ∈ HA, ∀ b ∈ q.blk, ¬ U b) →
    (∀ k, U k → k < w.heap.size) → GOk w U → CallsD P f args.toArray (.panicking (pch tx vx)) w fun e u' w' => settle u' = .returning ∧ PostE ⟨w, U, HA.flatMap Res.blk⟩ (fun _ : Unit => Vl (.tuple #[])) (fun _ => HR) e w'
theorem imp_eq {x y : SV} (h : x = y) : Imp x y := h ▸ imp_refl
def Pf (v : Value) (m : Nat) : SV := ⟨fun _ _ u => ∃ a n c, v = .slice a n c ∧ u = .slice a m c, fun _ _ h => h⟩
theorem SymAt.pre {a : Act} {w : World} {U : Nat → Prop} (hs : SymAt E s a w U) {α : Type} {K : Kd α} {e : TypeId} {v : Value} {xs ys : List α} {m i d : Nat} (hd : look s.L d = some (Pf v m)) (hi : s.H[i]? = some (Rw K e v xs)) (hK : Nat.ble 1 K.size = true) (hc : cut xs 0 (m : Int) = some ys) :
    ∃ g : Gs, SymAt E { s with L := (d, Vl (Vs g)) :: s.L, H := s.H.set i (Rw K e (Vs g) ys) } a w U := by
  obtain ⟨u, hu, a', n, c, hv, hr⟩ := hs.slot d _ hd
  obtain ⟨_, _, c2, c3, _⟩ := cut_len hc
  refine ⟨(a', m, c), ?_⟩
  have hys : ys = xs.take m := by
    unfold cut at hc
    split at hc
    · cases hc; simp
    · cases hc
  have hblk : (Rw K e (Vs (a', m, c)) ys).blk = (Rw K e v xs).blk := by
    show blkOf (.slice a' m c) = blkOf v
    rw [hv]; cases a' <;> rfl
  have hre := hs.reown (w' := w) hi (Rw K e (Vs (a', m, c)) ys) hblk ?_ rfl rfl rfl (Nat.le_refl _) (fun _ _ _ => rfl)
  · exact {
      size := hre.size, defers := hre.defers, own := hre.own, nodup := hre.nodup, apart := hre.apart, base := hre.base, lt := hre.lt, from0 := hre.from0, to0 := hre.to0, ext := hre.ext, glob := hre.glob
      slot := fun k x hk => by
        simp only [look] at hk
        cases hb : Nat.beq d k with
        | true =>
          rw [hb] at hk
          simp at hk
          have := Nat.eq_of_beq_eq_true hb
          subst this
          exact ⟨u, hu, by subst hk; exact hr⟩
        | false =>
          rw [hb] at hk
          exact hre.slot k x (by simpa using hk) }
  · rcases hs.row (Nat.le_of_ble_eq_true hK) hi with ⟨h, h'⟩ | ⟨b, cap, vs, sp, h, hb, hvs, hcl, hcap, _⟩
    · subst h'
      rw [h] at hv
      cases hv
      simp only [List.length_nil] at c2
      have hm0 : m = 0 := by omega
      subst hm0
      exact .inl ⟨rfl, by rw [hys]; rfl⟩
    · rw [h] at hv
      cases hv
      have hvl : vs.length = xs.length * K.size := by rw [← hvs.length, flatMap_length]
      have hmx : m ≤ xs.length := by omega
      have hmul : m * K.size ≤ xs.length * K.size := Nat.mul_le_mul_right _ hmx
      have hfl : ys.flatMap K.enc = (xs.flatMap K.enc).take (m * K.size) := by
        rw [hys]
        have h3 : (xs.flatMap K.enc) = (xs.take m).flatMap K.enc ++ (xs.drop m).flatMap K.enc := by rw [← List.flatMap_append, List.take_append_drop]
        have h4 : ((xs.take m).flatMap K.enc).length = m * K.size := by rw [flatMap_length, List.length_take, Nat.min_eq_left hmx]
        rw [h3, ← h4, List.take_left]
      refine .inr ⟨b, m, c, vs.take (m * K.size), vs.drop (m * K.size) ++ sp, rfl, ?_, ?_, ?_, ?_, by omega⟩
      · rw [hb, ← List.append_assoc, List.take_append_drop]
        rfl
      · show All2 _ (ys.flatMap K.enc) _
        rw [hfl]; exact All2.take _ hvs
      · show (ys.flatMap K.enc).length = m * K.size
        rw [flatMap_length, hys, List.length_take, Nat.min_eq_left hmx]
      · rw [← List.append_assoc, List.take_append_drop]; exact hcl
def ovw {α : Type} (xs : List α) (m : Nat) (ys : List α) : Option (List α) := if m + ys.length ≤ xs.length then some (xs.take m ++ ys ++ xs.drop (m + ys.length)) else none
def Cs {α : Type} (P : Program) (s : St) (Y : Operand) (K : Kd α) (ys : List α) : Prop := ∀ E a w U, SymAt E s a w U → ∃ (sb : Option Addr) (sc : Nat), a.eval Y = .slice sb ys.length sc ∧
  ∀ m : Nat, ∃ us : List Value, (Builtin.firstCells K.size (Nat.min ys.length m) (.slice sb ys.length sc)).run P w = .ok us.toArray w ∧ All2 (fun s v => s.C w U v) ((ys.take m).flatMap K.enc) us
end
/-! #### math.Min, math.Max as the machine has them -/
def mpick (neg : Bool) (win : Ordering) (x y : Nat) : Nat :=
  let a := FloatKind.f64.decode x
  let b := FloatKind.f64.decode y
  if a == .infinity neg || b == .infinity neg then FloatKind.f64.encode (.infinity neg)
  else if a.isNaN || b.isNaN then 0x7FF8000000000001
  else if a.isZero && b.isZero then (if a.neg == neg then x else y)
  else if a.order b == some win then x else y
theorem ex_pick {P : Program} {nm : String} {neg : Bool} {win : Ordering} {x y : Nat} : Runs P (Extern.MathDim.pick nm neg win #[.float .f64 x, .float .f64 y]) (.float .f64 (mpick neg win x y)) := fun w => rfl
/-! #### rows of raw cells; nil or not nil, as it may be; loops that are known to end -/
def KV : Kd SV := ⟨1, fun s => [s], fun _ => rfl⟩
def Kn : Kd Unit := Kd.one fun _ => Vl (.slice none 0 0)
def cel {α : Type} (K : Kd α) (xs : List (List α)) (i : Nat) : List SV := (xs.take i).map (Sl K) ++ List.replicate (xs.length - i) (Vl (.slice none 0 0))
def Bany (p : Prop) : SV := ⟨fun _ _ v => ∃ b : Bool, v = .bool b ∧ (b = true → p), fun _ _ h => h⟩
section
variable {E : Env} {P : Program} {Q : Exit → Act → World → Prop} {s : St} {dst : Option Tmp} {ty : TypeId} {pos : String} {af : Array Edge} {g : Option (Nat × Bool)}
def Sc {α : Type} (K : Kd α) (xs : List α) : SV := ⟨fun w U v => (∃ a, v = .slice a xs.length xs.length) ∧ (Sl K xs).R w U v, fun h1 h2 ⟨h, h'⟩ => ⟨h, (Sl K xs).mono h1 h2 h'⟩⟩
def apdc {α : Type} (b : Nat) (xs ys : List α) : Option (List α) := if ys.length = 0 then none else apd b xs ys
theorem tx_perm {E : Env} {K : Act → World → Prop} {H' : List Res} (hp : s.H.Perm H') (k : TX E K { s with H := H' }) : TX E K s := fun a w ⟨U, hs⟩ => k a w ⟨U, hs.perm hp⟩
theorem tx_drop {E : Env} {K : Act → World → Prop} {C H' : List Res} (hp : s.H.Perm (C ++ H')) (k : TX E K { s with H := H' }) : TX E K s := fun a w ⟨U, hs⟩ => by
  have h := hs.perm hp
  have hnd : ((C ++ H').flatMap Res.blk).Nodup := h.nodup
  rw [List.flatMap_append, List.nodup_append] at hnd
  exact k a w ⟨U, { h with
    own := fun r hr => h.own r (List.mem_append_right C hr)
    nodup := hnd.2.1
    apart := fun r hr => h.apart r (List.mem_append_right C hr)
    base := fun r hr => h.base r (List.mem_append_right C hr) }⟩
theorem tsL_look {L : List (Nat × SV)} : ∀ {ts : List (Nat × SV × SV)} {k : Nat} {x : SV}, look (tsL L ts) k = some x → (∃ p ∈ ts, p.1 = k ∧ p.2.2 = x) ∨ look L k = some x
  | [], k, x, h => .inr h
  | (t, y, z) :: r, k, x, h => by
    simp only [tsL, look] at h
    cases hb : Nat.beq t k with
    | true => rw [hb] at h; simp at h; exact .inl ⟨(t, y, z), by simp, Nat.eq_of_beq_eq_true hb, h⟩
    | false =>
      rw [hb] at h
      rcases tsL_look (by simpa using h) with ⟨p, hp, h'⟩ | h'
      · exact .inl ⟨p, List.mem_cons_of_mem _ hp, h'⟩
      · exact .inr h'
theorem frz_chunk {C H' : List Res} (hp : s.H.Perm (C ++ H')) (ts : List (Nat × SV × SV))
    (hts : ∀ p ∈ ts, look s.L p.1 = some p.2.1 ∧ ∀ (w : World) (U' : Nat → Prop) (v : Value), (∀ q ∈ C, q.own w U') → (∀ q ∈ C, ∀ b ∈ q.blk, U' b) → p.2.1.R w U' v → p.2.2.R w U' v) :
    FrzTo s { s with L := tsL s.L ts, H := H' } := fun E a w U hs => by
  have h := hs.perm hp
  have hnd : ((C ++ H').flatMap Res.blk).Nodup := h.nodup
  rw [List.flatMap_append, List.nodup_append] at hnd
  obtain ⟨hn1, hn2, hdis⟩ := hnd
  have hU : ∀ k, U k → U k ∨ k ∈ C.flatMap Res.blk := fun k hk => .inl hk
  have hC : ∀ k, k ∈ C.flatMap Res.blk → ∃ q ∈ C, k ∈ q.blk := fun k hk => List.mem_flatMap.1 hk
  have hown : ∀ q ∈ C, q.own w (fun k => U k ∨ k ∈ C.flatMap Res.blk) := fun q hq => Res.own_mono hU (fun _ _ => rfl) (fun _ _ => rfl) (h.own q (List.mem_append_left H' hq))
  have hblk : ∀ q ∈ C, ∀ b ∈ q.blk, U b ∨ b ∈ C.flatMap Res.blk := fun q hq b hb => .inr (List.mem_flatMap.2 ⟨q, hq, hb⟩)
  refine ⟨fun k => U k ∨ k ∈ C.flatMap Res.blk, hU, {
    size := h.size, defers := h.defers
    slot := fun k x hk => ?_
    own := fun q hq => Res.own_mono hU (fun _ _ => rfl) (fun _ _ => rfl) (h.own q (List.mem_append_right C hq))
    nodup := hn2
    apart := fun q hq b hb hu => ?_
    base := fun q hq => h.base q (List.mem_append_right C hq)
    lt := fun k hk => ?_
    from0 := fun k hk => ?_
    to0 := fun k hk => .inl (h.to0 k hk)
    ext := h.ext
    glob := h.glob.mono hU (fun _ _ => rfl) }⟩
  · rcases tsL_look hk with ⟨p, hp', rfl, rfl⟩ | hk'
    · obtain ⟨h1, h2⟩ := hts p hp'
      obtain ⟨v, hv, hr⟩ := h.slot p.1 p.2.1 h1
      exact ⟨v, hv, h2 w _ v hown hblk (p.2.1.mono hU (fun _ _ => rfl) hr)⟩
    · obtain ⟨v, hv, hr⟩ := h.slot k x hk'
      exact ⟨v, hv, x.mono hU (fun _ _ => rfl) hr⟩
  · rcases hu with hu | hu
    · exact h.apart q (List.mem_append_right C hq) b hb hu
    · exact hdis b hu b (List.mem_flatMap.2 ⟨q, hq, hb⟩) rfl
  · rcases hk with hk | hk
    · exact h.lt k hk
    · obtain ⟨q, hq, hb⟩ := hC k hk
      exact Res.lt (h.own q (List.mem_append_left H' hq)) k hb
  · rcases hk with hk | hk
    · exact h.from0 k hk
    · obtain ⟨q, hq, hb⟩ := hC k hk
      rcases h.base q (List.mem_append_left H' hq) k hb with e | e
      · exact .inr (.inl e)
      · exact .inr (.inr e)
def TsP (L : List (Nat × SV)) (q : Addr) (cs : List SV) : List (Nat × SV × SV) → Prop
  | [] => True
  | (t, y, z) :: r => (look L t = some y ∧ ∃ o, y = Vl (.pointer (some (q.add o))) ∧ z = Pt (cs.drop o)) ∧ TsP L q cs r
def Rvw (v : Value) (size lo m : Nat) : SV := ⟨fun _ _ u => (v = .slice none 0 0 ∧ u = .slice none 0 0 ∧ lo = 0 ∧ m = 0) ∨ ∃ b n c o c', v = .slice (some ⟨b, 0, none⟩) n c ∧ u = .slice (some ⟨b, o, none⟩) m c' ∧ m ≤ c' ∧ (m = 0 ∨ o = lo * size), fun _ _ h => h⟩
def idv {α : Type} (xs : List α) (lo m : Nat) (i : Int) : Option α := if 0 ≤ i ∧ i < m then idx xs ((lo : Int) + i) else none
def vct (m : Nat) (lo hi : Int) : Option Nat := if 0 ≤ lo ∧ lo ≤ hi ∧ hi ≤ m then some (hi - lo).toNat else none
end
end Go.Sx
