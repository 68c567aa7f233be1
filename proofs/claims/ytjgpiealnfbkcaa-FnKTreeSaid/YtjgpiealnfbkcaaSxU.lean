/-
  Steps of a walk over the symbolic state: panics, and closures that catch them. Ours; it knows no program.
-/
import Derived.Test.YtjgpiealnfbkcaaSxS
import Derived.Recover
import Derived.LaidEqlPtr
namespace Go.Sx
set_option linter.unusedVariables false
set_option linter.unusedSectionVars false
set_option linter.unusedSimpArgs false
variable [Gv]

section
variable {E : Env} {P : Program} {Q : Exit → Act → World → Prop} {s : St} {ops : Array Oper} {rest : List Oper} {o : Oper} {dst : Option Tmp} {ty : TypeId} {pos : String} {af : Array Edge} {g : Option (Nat × Bool)}

abbrev pch (tx : TypeId) (vx : Value) : List PanicEntry := [{ v := .iface tx vx, recovered := false }]
def PanE (E : Env) (e : Ending) (w' : World) : Prop := ∃ tx vx, e = .panicked (pch tx vx) ∧ Ext E.M E.w0 w'
def Fx (P : Program) (f : Nat) (A : List SV) (HA : List Res) {X : Type} (pan : Bool) (r : X → SV) (HR : X → List Res) : Prop :=
  ∀ (w : World) (U : Nat → Prop) (args : List Value), All2 (fun s v => s.R w U v) A args → (∀ q ∈ HA, q.own w U) → (HA.flatMap Res.blk).Nodup → (∀ q ∈ HA, ∀ b ∈ q.blk, ¬ U b) →
    (∀ k, U k → k < w.heap.size) → GOk w U → Calls P f args.toArray w (bif pan then PanE ⟨w, U, HA.flatMap Res.blk⟩ else PostE ⟨w, U, HA.flatMap Res.blk⟩ r HR)
theorem Fx.fn {f : Nat} {A : List SV} {HA : List Res} {X : Type} {r : X → SV} {HR : X → List Res} (h : Fx P f A HA false r HR) : Fn P f A HA r HR := h
def Pan (P : Program) (s : St) (o : Oper) : Prop := ∀ E a w U, SymAt E s a w U → ∃ tx vx w', (execOp a.eval o).run P w = .halt (.panic (.iface tx vx)) w' ∧ Ext [] w w'
def PanQ (E : Env) (Q : Exit → Act → World → Prop) (s : St) : Prop := ∀ tx vx, TX E (Q (.panic (pch tx vx))) s
def Catch (P : Program) (f : Nat) (A : List SV) (HA HR : List Res) : Prop :=
  ∀ (w : World) (U : Nat → Prop) (args : List Value) (tx : TypeId) (vx : Value), All2 (fun s v => s.R w U v) A args → (∀ q ∈ HA, q.own w U) → (HA.flatMap Res.blk).Nodup → (∀ q ∈ HA, ∀ b ∈ q.blk, ¬ U b) →
    (∀ k, U k → k < w.heap.size) → GOk w U → CallsD P f args.toArray (.panicking (pch tx vx)) w fun e u' w' => settle u' = .returning ∧ PostE ⟨w, U, HA.flatMap Res.blk⟩ (fun _ : Unit => Vl (.tuple #[])) (fun _ => HR) e w'
theorem imp_eq {x y : SV} (h : x = y) : Imp x y := h ▸ imp_refl
def Pf (v : Value) (m : Nat) : SV := ⟨fun _ _ u => ∃ a n c, v = .slice a n c ∧ u = .slice a m c, fun _ _ h => h⟩
theorem SymAt.pre {a : Act} {w : World} {U : Nat → Prop} (hs : SymAt E s a w U) {α : Type} {K : Kd α} {e : TypeId} {v : Value} {xs ys : List α} {m i d : Nat} (hd : look s.L d = some (Pf v m)) (hi : s.H[i]? = some (Rw K e v xs)) (hK : Nat.ble 1 K.size = true) (hc : cut xs 0 (m : Int) = some ys) :
    ∃ g : Gs, SymAt E { s with L := (d, Vl (Vs g)) :: s.L, H := s.H.set i (Rw K e (Vs g) ys) } a w U := by
  obtain ⟨u, hu, a', n, c, hv, hr⟩ := hs.slot d _ hd
  obtain ⟨_, _, c2, c3, _⟩ := cut_len hc
  refine ⟨(a', m, c), ?_⟩
  have hys : ys = xs.take m := by
    unfold cut at hc
    split at hc
    · cases hc; simp
    · cases hc
  have hblk : (Rw K e (Vs (a', m, c)) ys).blk = (Rw K e v xs).blk := by
    show blkOf (.slice a' m c) = blkOf v
    rw [hv]; cases a' <;> rfl
  have hre := hs.reown (w' := w) hi (Rw K e (Vs (a', m, c)) ys) hblk ?_ rfl rfl rfl (Nat.le_refl _) (fun _ _ _ => rfl)
  · exact {
      size := hre.size, defers := hre.defers, own := hre.own, nodup := hre.nodup, apart := hre.apart, base := hre.base, lt := hre.lt, from0 := hre.from0, to0 := hre.to0, ext := hre.ext, glob := hre.glob
      slot := fun k x hk => by
        simp only [look] at hk
        cases hb : Nat.beq d k with
        | true =>
          rw [hb] at hk
          simp at hk
          have := Nat.eq_of_beq_eq_true hb
          subst this
          exact ⟨u, hu, by subst hk; exact hr⟩
        | false =>
          rw [hb] at hk
          exact hre.slot k x (by simpa using hk) }
  · rcases hs.row (Nat.le_of_ble_eq_true hK) hi with ⟨h, h'⟩ | ⟨b, cap, vs, sp, h, hb, hvs, hcl, hcap, _⟩
    · subst h'
      rw [h] at hv
      cases hv
      simp only [List.length_nil] at c2
      have hm0 : m = 0 := by omega
      subst hm0
      exact .inl ⟨rfl, by rw [hys]; rfl⟩
    · rw [h] at hv
      cases hv
      have hvl : vs.length = xs.length * K.size := by rw [← hvs.length, flatMap_length]
      have hmx : m ≤ xs.length := by omega
      have hmul : m * K.size ≤ xs.length * K.size := Nat.mul_le_mul_right _ hmx
      have hfl : ys.flatMap K.enc = (xs.flatMap K.enc).take (m * K.size) := by
        rw [hys]
        have h3 : (xs.flatMap K.enc) = (xs.take m).flatMap K.enc ++ (xs.drop m).flatMap K.enc := by rw [← List.flatMap_append, List.take_append_drop]
        have h4 : ((xs.take m).flatMap K.enc).length = m * K.size := by rw [flatMap_length, List.length_take, Nat.min_eq_left hmx]
        rw [h3, ← h4, List.take_left]
      refine .inr ⟨b, m, c, vs.take (m * K.size), vs.drop (m * K.size) ++ sp, rfl, ?_, ?_, ?_, ?_, by omega⟩
      · rw [hb, ← List.append_assoc, List.take_append_drop]
        rfl
      · show All2 _ (ys.flatMap K.enc) _
        rw [hfl]; exact All2.take _ hvs
      · show (ys.flatMap K.enc).length = m * K.size
        rw [flatMap_length, hys, List.length_take, Nat.min_eq_left hmx]
      · rw [← List.append_assoc, List.take_append_drop]; exact hcl
def ovw {α : Type} (xs : List α) (m : Nat) (ys : List α) : Option (List α) := if m + ys.length ≤ xs.length then some (xs.take m ++ ys ++ xs.drop (m + ys.length)) else none
def Cs {α : Type} (P : Program) (s : St) (Y : Operand) (K : Kd α) (ys : List α) : Prop := ∀ E a w U, SymAt E s a w U → ∃ (sb : Option Addr) (sc : Nat), a.eval Y = .slice sb ys.length sc ∧
  ∀ m : Nat, ∃ us : List Value, (Builtin.firstCells K.size (Nat.min ys.length m) (.slice sb ys.length sc)).run P w = .ok us.toArray w ∧ All2 (fun s v => s.C w U v) ((ys.take m).flatMap K.enc) us
end
/-! #### math.Min, math.Max as the machine has them -/
def mpick (neg : Bool) (win : Ordering) (x y : Nat) : Nat :=
  let a := FloatKind.f64.decode x
  let b := FloatKind.f64.decode y
  if a == .infinity neg || b == .infinity neg then FloatKind.f64.encode (.infinity neg)
  else if a.isNaN || b.isNaN then 0x7FF8000000000001
  else if a.isZero && b.isZero then (if a.neg == neg then x else y)
  else if a.order b == some win then x else y
theorem ex_pick {P : Program} {nm : String} {neg : Bool} {win : Ordering} {x y : Nat} : Runs P (Extern.MathDim.pick nm neg win #[.float .f64 x, .float .f64 y]) (.float .f64 (mpick neg win x y)) := fun w => rfl
/-! #### rows of raw cells; nil or not nil, as it may be; loops that are known to end -/
def KV : Kd SV := ⟨1, fun s => [s], fun _ => rfl⟩
def Kn : Kd Unit := Kd.one fun _ => Vl (.slice none 0 0)
def cel {α : Type} (K : Kd α) (xs : List (List α)) (i : Nat) : List SV := (xs.take i).map (Sl K) ++ List.replicate (xs.length - i) (Vl (.slice none 0 0))
def Bany (p : Prop) : SV := ⟨fun _ _ v => ∃ b : Bool, v = .bool b ∧ (b = true → p), fun _ _ h => h⟩
section
variable {E : Env} {P : Program} {Q : Exit → Act → World → Prop} {s : St} {dst : Option Tmp} {ty : TypeId} {pos : String} {af : Array Edge} {g : Option (Nat × Bool)}
def Sc {α : Type} (K : Kd α) (xs : List α) : SV := ⟨fun w U v => (∃ a, v = .slice a xs.length xs.length) ∧ (Sl K xs).R w U v, fun h1 h2 ⟨h, h'⟩ => ⟨h, (Sl K xs).mono h1 h2 h'⟩⟩
def apdc {α : Type} (b : Nat) (xs ys : List α) : Option (List α) := if ys.length = 0 then none else apd b xs ys
def TsP (L : List (Nat × SV)) (q : Addr) (cs : List SV) : List (Nat × SV × SV) → Prop
  | [] => True
  | (t, y, z) :: r => (look L t = some y ∧ ∃ o, y = Vl (.pointer (some (q.add o))) ∧ z = Pt (cs.drop o)) ∧ TsP L q cs r
def Rvw (v : Value) (size lo m : Nat) : SV := ⟨fun _ _ u => (v = .slice none 0 0 ∧ u = .slice none 0 0 ∧ lo = 0 ∧ m = 0) ∨ ∃ b n c o c', v = .slice (some ⟨b, 0, none⟩) n c ∧ u = .slice (some ⟨b, o, none⟩) m c' ∧ m ≤ c' ∧ (m = 0 ∨ o = lo * size), fun _ _ h => h⟩
theorem lv_rv (v : Value) (size lo m : Nat) : Lv (Rvw v size lo m) [Rvw v size lo m] := fun w U u hu => ⟨[u], by
  rcases hu with ⟨_, e, _⟩ | ⟨_, _, _, _, _, _, e, _⟩ <;> rw [e] <;> rfl, ⟨hu, by rcases hu with ⟨_, e, _⟩ | ⟨_, _, _, _, _, _, e, _⟩ <;> rw [e] <;> rfl⟩, trivial⟩
def idv {α : Type} (xs : List α) (lo m : Nat) (i : Int) : Option α := if 0 ≤ i ∧ i < m then idx xs ((lo : Int) + i) else none
theorem idv_some {α : Type} {xs : List α} {lo m : Nat} {i : Int} {x : α} (h : idv xs lo m i = some x) : (0 ≤ i ∧ i < m) ∧ idx xs ((lo : Int) + i) = some x := by
  unfold idv at h
  split at h
  · exact ⟨by assumption, h⟩
  · cases h
theorem rd_vlen {v : Value} {size lo m : Nat} {X : Operand} {t e : TypeId} (hx : ev s.L X = some (Rvw v size lo m)) (ht : P.underlying t = some (.slice e)) :
    Rd P s ⟨dst, .call { callee := .builtin .len, args := #[X], argTypes := #[t] }, ty, pos, af, g⟩ (Vl (.int .i64 m)) := fun E a w U hs => by
  have : ∃ b c, a.eval X = .slice b m c := by
    rcases look_ev hs hx with ⟨_, e, _, e'⟩ | ⟨_, _, _, _, _, _, e, _⟩
    · exact ⟨_, _, by rw [e, e']⟩
    · exact ⟨_, _, e⟩
  obtain ⟨b, c, hv⟩ := this
  exact ⟨_, rfl, fun w' _ => by simp [execOp, resolve, invoke, builtin, Builtin.len_, hv, run_underlying ht, goInt]⟩
theorem rd_vat {α : Type} {K : Kd α} {e' : TypeId} {v : Value} {xs : List α} {x : α} {lo n m : Nat} {X I : Operand} {k : IntKind} {i : Int} {t e : TypeId} {z : Option Value} {bytes : Nat} (hx : ev s.L X = some (Rvw v K.size lo n)) (hh : s.H[m]? = some (Rw K e' v xs)) (hK : Nat.ble 1 K.size = true)
    (hi : ev s.L I = some (Vl (.int k i))) (hg : idv xs lo n i = some x) (ht : P.underlying t = some (.slice e)) (he : (P.info? e).map (fun i => (i.zero, i.size, i.bytes)) = some (z, K.size, bytes)) :
    Rd P s ⟨dst, .indexAddr t X I, ty, pos, af, g⟩ (Pr v (((lo : Int) + i).toNat * K.size)) := fun E a w U hs => by
  have e2 : a.eval I = .int k i := look_ev hs hi
  obtain ⟨⟨h0, h1⟩, h2⟩ := idv_some hg
  have hR := look_ev hs hx
  rcases hR with ⟨_, _, _, h'⟩ | ⟨b, n', c, o, c', hv, e1, hc, ho⟩
  · omega
  · cases hinfo : P.info? e with
    | none => rw [hinfo] at he; simp at he
    | some inf =>
      rw [hinfo] at he
      simp at he
      have ho' : o = lo * K.size := by
        rcases ho with h | h
        · omega
        · exact h
      subst ho'
      have hlo : ((lo : Int) + i).toNat = lo + i.toNat := by omega
      refine ⟨.pointer (some ⟨b, ((lo : Int) + i).toNat * K.size, none⟩), ⟨b, _, _, hv, rfl⟩, fun w' _ => ?_⟩
      simp [execOp, Instr.indexAt, asIntOf, e1, e2, run_underlying ht, h0, h1, sizeOf, typeInfo, hinfo, he.2.1, addr_add]
      rw [hlo, Nat.add_mul]
def vct (m : Nat) (lo hi : Int) : Option Nat := if 0 ≤ lo ∧ lo ≤ hi ∧ hi ≤ m then some (hi - lo).toNat else none
theorem rd_vcut {v : Value} {size l n n' : Nat} {X Lo Hi : Operand} {k1 k2 : IntKind} {lo hi : Int} {t e : TypeId} {z : Option Value} {bytes : Nat} (hx : ev s.L X = some (Rvw v size l n)) (hl : ev s.L Lo = some (Vl (.int k1 lo))) (hh : ev s.L Hi = some (Vl (.int k2 hi)))
    (hc : vct n lo hi = some n') (ht : P.underlying t = some (.slice e)) (he : (P.info? e).map (fun i => (i.zero, i.size, i.bytes)) = some (z, size, bytes)) : Rd P s ⟨dst, .slice t X (some Lo) (some Hi) none, ty, pos, af, g⟩ (Rvw v size (l + lo.toNat) n') := fun E a w U hs => by
  unfold vct at hc
  split at hc
  case isFalse => cases hc
  rename_i hb
  cases hc
  have e2 : a.eval Lo = .int k1 lo := look_ev hs hl
  have e3 : a.eval Hi = .int k2 hi := look_ev hs hh
  cases hinfo : P.info? e with
  | none => rw [hinfo] at he; simp at he
  | some inf =>
    rw [hinfo] at he; simp at he
    rcases look_ev hs hx with ⟨hv, e1, rfl, rfl⟩ | ⟨b, n'', c, o, c', hv, e1, hcap, ho⟩
    · obtain rfl : lo = 0 := by omega
      obtain rfl : hi = 0 := by omega
      refine ⟨.slice none 0 0, .inl ⟨hv, rfl, by simp, by simp⟩, fun w' _ => ?_⟩
      simp [execOp, Instr.sliceAt, Instr.slice, e1, e2, e3, run_underlying ht, Instr.sliceBounds, run_sliceBound, sizeOf, typeInfo, hinfo, he.2.1]
    · obtain ⟨p, rfl⟩ := Int.eq_ofNat_of_zero_le hb.1
      obtain ⟨q, rfl⟩ := Int.eq_ofNat_of_zero_le (show 0 ≤ hi by omega)
      have h5 : (q : Int) ≤ (c' : Int) := by omega
      have h6 : (p : Int) ≤ (q : Int) := by omega
      have h7 : ((q : Int) - (p : Int)).toNat = q - p := by omega
      rw [h7]
      refine ⟨.slice (if c' = p then some ⟨b, o, none⟩ else some ⟨b, o + p * size, none⟩) (q - p) (c' - p), .inr ⟨b, n'', c, if c' = p then o else o + p * size, c' - p, hv, ?_, by omega, ?_⟩, fun w' _ => ?_⟩
      · split <;> rfl
      · by_cases hcl : c' = p
        · left; omega
        · by_cases hz : q - p = 0
          · exact .inl hz
          · right
            rw [if_neg hcl]
            have ho' : o = l * size := by
              rcases ho with h | h
              · omega
              · exact h
            rw [ho', Int.toNat_natCast, Nat.add_mul]
      · simp [execOp, Instr.sliceAt, Instr.slice, e1, e2, e3, run_underlying ht, Instr.sliceBounds, run_sliceBound, sizeOf, typeInfo, hinfo, he.2.1, addr_add, h5, h6]
theorem tx_view {K' : Act → World → Prop} (t i : Nat) {α : Type} {K : Kd α} {e : TypeId} {v : Value} {xs : List α} (ht : look s.L t = some (Vl v)) (hi : s.H[i]? = some (Rw K e v xs)) (hK : Nat.ble 1 K.size = true)
    (k : TX E K' { s with L := (t, Rvw v K.size 0 xs.length) :: s.L }) : TX E K' s := fun a w ⟨U, hs⟩ => by
  refine k a w ⟨U, { hs with
    slot := fun k z hk => by
      simp only [look] at hk
      by_cases ek : t = k
      · subst ek
        have : Nat.beq t t = true := by simp
        rw [this] at hk; simp at hk; subst hk
        obtain ⟨u, hu, e1⟩ := hs.slot t _ ht
        have e1 : u = v := e1
        subst e1
        refine ⟨u, hu, ?_⟩
        rcases hs.row (Nat.le_of_ble_eq_true hK) hi with ⟨h, h'⟩ | ⟨b, cap, vs, sp, h, _, _, _, hcap, _⟩
        · exact .inl ⟨h, h, rfl, by rw [h']; rfl⟩
        · exact .inr ⟨b, xs.length, cap, 0, cap, h, h, hcap, .inr (by simp)⟩
      · have hb' : Nat.beq t k = false := by
          cases h' : Nat.beq t k with
          | false => rfl
          | true => exact absurd (Nat.eq_of_beq_eq_true h') ek
        rw [hb'] at hk
        exact hs.slot k z hk }⟩
theorem tx_loopg {E : Env} {Q : Exit → Act → World → Prop} {c : Code} {X Y Gh : Type} {F : Nat → X → Option Y} {G : Nat → (X → Option Y) → X → Option Y} {k : Nat} {x : X} {gh : Gh} {y : Y} (J : X → Gh → St) (Z : Y → Exit → Act → World → Prop)
    (h0 : ∀ x, F 0 x = none) (hG : ∀ k x, F (k + 1) x = G k (F k) x)
    (body : ∀ k (R : X → Option Y) (K : Y → Act → World → Prop), (∀ x gh y, R x = some y → TX E (K y) (J x gh)) → ∀ x gh y, G k R x = some y → CX E P c (Exit.then (K y) (Z y)) (J x gh))
    (hy : F k x = some y) (hs : TX E (fun a w => Sym E (J x gh) a w) s) (hz : ∀ e a w, Z y e a w → Q e a w) : TX E (LoopIn P c Q) s :=
  by
  have key : ∀ k x gh y, F k x = some y → TX E (LoopIn P c (Z y)) (J x gh) := by
    intro k
    induction k with
    | zero => intro x gh y h; rw [h0] at h; cases h
    | succ k ih =>
      intro x gh y h a w hs
      exact loopIn_round (body k (F k) (fun y => LoopIn P c (Z y)) (fun x gh y h => ih x gh y h) x gh y (by rw [← hG]; exact h) a w hs)
  intro a w h b l cs
  obtain ⟨e, a', w', q, r⟩ := key k x gh y hy a w (hs a w h) b l cs
  exact ⟨e, a', w', hz _ _ _ q, r⟩
end
end Go.Sx
