/-
  Steps of a walk over the symbolic state: panics, and closures that catch them. Ours; it knows no program.
-/
import Derived.Test.YtmagcmeknclljaaGreatSxS
import Derived.Recover
namespace Go.Sx
set_option linter.unusedVariables false
set_option linter.unusedSectionVars false
set_option linter.unusedSimpArgs false
variable [Gv]

section
variable {E : Env} {P : Program} {Q : Exit → Act → World → Prop} {s : St} {ops : Array Oper} {rest : List Oper} {o : Oper} {dst : Option Tmp} {ty : TypeId} {pos : String} {af : Array Edge} {g : Option (Nat × Bool)}

abbrev pch (tx : TypeId) (vx : Value) : List PanicEntry := [{ v := .iface tx vx, recovered := false }]
def PanE (E : Env) (e : Ending) (w' : World) : Prop := ∃ tx vx, e = .panicked (pch tx vx) ∧ Ext E.M E.w0 w'
def Fx (P : Program) (f : Nat) (A : List SV) (HA : List Res) {X : Type} (pan : Bool) (r : X → SV) (HR : X → List Res) : Prop :=
  ∀ (w : World) (U : Nat → Prop) (args : List Value), All2 (fun s v => s.R w U v) A args → (∀ q ∈ HA, q.own w U) → (HA.flatMap Res.blk).Nodup → (∀ q ∈ HA, ∀ b ∈ q.blk, ¬ U b) →
    (∀ k, U k → k < w.heap.size) → GOk w U → Calls P f args.toArray w (bif pan then PanE ⟨w, U, HA.flatMap Res.blk⟩ else PostE ⟨w, U, HA.flatMap Res.blk⟩ r HR)
theorem Fx.fn {f : Nat} {A : List SV} {HA : List Res} {X : Type} {r : X → SV} {HR : X → List Res} (h : Fx P f A HA false r HR) : Fn P f A HA r HR := h
def Pan (P : Program) (s : St) (o : Oper) : Prop := ∀ E a w U, SymAt E s a w U → ∃ tx vx w', (execOp a.eval o).run P w = .halt (.panic (.iface tx vx)) w' ∧ Ext [] w w'
def PanQ (E : Env) (Q : Exit → Act → World → Prop) (s : St) : Prop := ∀ tx vx, TX E (Q (.panic (pch tx vx))) s
def Catch (P : Program) (f : Nat) (A : List SV) (HA HR : List Res) : Prop :=
  ∀ (w : World) (U : Nat → Prop) (args : List Value) (tx : TypeId) (vx : Value), All2 (fun s v => s.R w U v) A args → (∀ q ∈ HA, q.own w U) → (HA.flatMap Res.blk).Nodup → (∀ q ∈ HA, ∀ b ∈ q.blk, ¬ U b) →
    (∀ k, U k → k < w.heap.size) → GOk w U → CallsD P f args.toArray (.panicking (pch tx vx)) w fun e u' w' => settle u' = .returning ∧ PostE ⟨w, U, HA.flatMap Res.blk⟩ (fun _ : Unit => Vl (.tuple #[])) (fun _ => HR) e w'
def Pf (v : Value) (m : Nat) : SV := ⟨fun _ _ u => ∃ a n c, v = .slice a n c ∧ u = .slice a m c, fun _ _ h => h⟩
def ovw {α : Type} (xs : List α) (m : Nat) (ys : List α) : Option (List α) := if m + ys.length ≤ xs.length then some (xs.take m ++ ys ++ xs.drop (m + ys.length)) else none
def Cs {α : Type} (P : Program) (s : St) (Y : Operand) (K : Kd α) (ys : List α) : Prop := ∀ E a w U, SymAt E s a w U → ∃ (sb : Option Addr) (sc : Nat), a.eval Y = .slice sb ys.length sc ∧
  ∀ m : Nat, ∃ us : List Value, (Builtin.firstCells K.size (Nat.min ys.length m) (.slice sb ys.length sc)).run P w = .ok us.toArray w ∧ All2 (fun s v => s.C w U v) ((ys.take m).flatMap K.enc) us
end
/-! #### math.Min, math.Max as the machine has them -/
def mpick (neg : Bool) (win : Ordering) (x y : Nat) : Nat :=
  let a := FloatKind.f64.decode x
  let b := FloatKind.f64.decode y
  if a == .infinity neg || b == .infinity neg then FloatKind.f64.encode (.infinity neg)
  else if a.isNaN || b.isNaN then 0x7FF8000000000001
  else if a.isZero && b.isZero then (if a.neg == neg then x else y)
  else if a.order b == some win then x else y
def KV : Kd SV := ⟨1, fun s => [s], fun _ => rfl⟩
def Kn : Kd Unit := Kd.one fun _ => Vl (.slice none 0 0)
def cel {α : Type} (K : Kd α) (xs : List (List α)) (i : Nat) : List SV := (xs.take i).map (Sl K) ++ List.replicate (xs.length - i) (Vl (.slice none 0 0))
theorem flatMap_one {α β : Type} (f : α → β) : ∀ xs : List α, xs.flatMap (fun x => [f x]) = xs.map f
  | [] => rfl
  | x :: xs => by rw [List.flatMap_cons, flatMap_one f xs]; rfl
theorem cel_zero {α : Type} {K : Kd α} {e : TypeId} {v : Value} {us : List Unit} {xs : List (List α)} (h : us.length = xs.length) : Rw Kn e v us = Rw KV e v (cel K xs 0) := by
  unfold Rw
  have h1 : us.flatMap Kn.enc = us.map fun _ => Vl (.slice none 0 0) := flatMap_one _ us
  have h2 : (cel K xs 0).flatMap KV.enc = (cel K xs 0).map fun s => s := flatMap_one _ _
  rw [h1, h2]
  have h3 : (us.map fun _ => Vl (.slice none 0 0)) = List.replicate xs.length (Vl (.slice none 0 0)) := by rw [← h, List.map_const']
  rw [h3]
  simp [cel, KV, Kn, Kd.one]
theorem cel_end {α : Type} {K : Kd α} {e : TypeId} {v : Value} {xs : List (List α)} : Rw KV e v (cel K xs xs.length) = Rw (Kl K) e v xs := by
  unfold Rw
  have h1 : xs.flatMap (Kl K).enc = xs.map (Sl K) := flatMap_one _ xs
  have h2 : (cel K xs xs.length).flatMap KV.enc = (cel K xs xs.length).map fun s => s := flatMap_one _ _
  rw [h1, h2]
  simp [cel, KV, Kl, Kd.one]
theorem cel_length {α : Type} {K : Kd α} {xs : List (List α)} {i : Nat} (h : i ≤ xs.length) : (cel K xs i).length = xs.length := by
  unfold cel; simp; omega
theorem cel_at {α : Type} {K : Kd α} {xs : List (List α)} {i : Nat} (h : i < xs.length) : (cel K xs i)[i]? = some (Vl (.slice none 0 0)) := by
  unfold cel
  rw [List.getElem?_append_right (by simp; omega), List.getElem?_replicate, if_pos (by simp; omega)]
theorem cel_set {α : Type} {K : Kd α} {xs : List (List α)} {i : Nat} {x : List α} (h : xs[i]? = some x) : (cel K xs i).set i (Sl K x) = cel K xs (i + 1) := by
  obtain ⟨hi, rfl⟩ := List.getElem?_eq_some_iff.1 h
  apply List.ext_getElem?
  intro j
  unfold cel
  rw [List.getElem?_set]
  by_cases hj : i = j
  · subst hj
    rw [if_pos rfl, if_pos (by simp; omega), List.getElem?_append_left (by simp; omega)]
    simp [List.getElem?_take, hi]
  · rw [if_neg hj]
    rcases Nat.lt_or_ge j i with hlt | hge
    · rw [List.getElem?_append_left (by simp; omega), List.getElem?_append_left (by simp; omega)]
      simp [List.getElem?_take, hlt, show j < i + 1 by omega]
    · rw [List.getElem?_append_right (by simp; omega), List.getElem?_append_right (by simp; omega)]
      simp [List.getElem?_replicate]
      have e1 : min i xs.length = i := by omega
      have e2 : min (i + 1) xs.length = i + 1 := by omega
      rw [e1, e2]
      have : j - i < xs.length - i ↔ j - (i + 1) < xs.length - (i + 1) := by omega
      simp only [this]
theorem iadd_succ {i : Nat} (h : i ≤ 35184372088832) : iadd .i64 (i : Int) 1 = ((i + 1 : Nat) : Int) := by
  have : iadd .i64 (i : Int) 1 = (i : Int) + 1 := by
    show IntKind.wrap .i64 ((i : Int) + 1) = _
    simp only [IntKind.wrap, IntKind.signed, IntKind.bits]
    have h1 : ((i : Int) + 1) % (2 ^ 64 : Int) = (i : Int) + 1 := Int.emod_eq_of_lt (by omega) (by omega)
    simp only [h1]
    rw [if_neg (by simp; omega)]
  rw [this]; rfl
theorem mk_len {α : Type} {z : α} {n : Nat} (h : n ≤ 35184372088832) : mk 8 z (n : Int) (n : Int) = some (List.replicate n z) := by
  unfold mk; rw [if_pos ⟨by omega, by omega, by omega, by omega⟩]; simp
theorem cpy_all {α : Type} {z : α} {xs : List α} : cpy (List.replicate xs.length z) xs = xs := by
  unfold cpy; simp
theorem idx_of {α : Type} {xs : List α} {i : Nat} {x : α} (h : xs[i]? = some x) : idx xs (i : Int) = some x := by
  unfold idx; rw [if_pos (by omega)]; simpa using h
theorem frz0_all {v : Value} {x : SV} : ∀ cs : List SV, All2 (Frz v x) cs cs
  | [] => trivial
  | _ :: cs => ⟨.inl (.inl rfl), frz0_all cs⟩
theorem frzL_set {v : Value} {x : SV} : ∀ {cs : List SV} {i : Nat}, cs[i]? = some (Vl v) → FrzL v x cs (cs.set i x)
  | [], _, h => by simp at h
  | c :: cs, 0, h => by
    simp at h; subst h
    exact ⟨.inl (.inr (.inl ⟨rfl, rfl⟩)), frz0_all cs⟩
  | c :: cs, i + 1, h => ⟨.inl (.inl rfl), frzL_set (by simpa using h)⟩
theorem cel_cs {e : TypeId} {v : Value} {cs : List SV} : (Rw KV e v cs).cs = cs := by
  show cs.flatMap KV.enc = cs
  rw [show cs.flatMap KV.enc = cs.map fun s => s from flatMap_one _ cs, List.map_id']
theorem frzL_cel {α : Type} {K : Kd α} {xs : List (List α)} {i : Nat} {x : List α} {v : Value} {e e' : TypeId} {u u' : Value} (h : xs[i]? = some x) :
    FrzL v (Sl K x) (Rw KV e u ((cel K xs i).set (i : Int).toNat (Vl v))).cs (Rw KV e' u' (cel K xs (i + 1))).cs := by
  obtain ⟨hi, _⟩ := List.getElem?_eq_some_iff.1 h
  rw [cel_cs, cel_cs, ← cel_set h, Int.toNat_natCast]
  have := frzL_set (v := v) (x := Sl K x) (cs := (cel K xs i).set i (Vl v)) (i := i) (by rw [List.getElem?_set_self (by rw [cel_length (Nat.le_of_lt hi)]; exact hi)])
  rw [List.set_set] at this
  exact this
theorem cel_nil {α : Type} {K : Kd α} {xs : List (List α)} {i : Nat} {v : Value} {e : TypeId} {y : SV} (hi : i < xs.length) : (Rw KV e v ((cel K xs i).set (i : Int).toNat y)).cs[i]? = some y := by
  rw [cel_cs, Int.toNat_natCast, List.getElem?_set_self (by rw [cel_length (Nat.le_of_lt hi)]; exact hi)]
theorem cel_put {α : Type} {K : Kd α} {xs : List (List α)} {i : Nat} {x : List α} {v : Value} {e : TypeId} {y : SV} (h : xs[i]? = some x) :
    [{ Rw KV e v ((cel K xs i).set (i : Int).toNat y) with cs := (Rw KV e v ((cel K xs i).set (i : Int).toNat y)).cs.set i (Sl K x) }] = [Rw KV e v (cel K xs (i + 1))] := by
  have h1 : (Rw KV e v ((cel K xs i).set (i : Int).toNat y)).cs.set i (Sl K x) = (Rw KV e v (cel K xs (i + 1))).cs := by
    rw [cel_cs, cel_cs, ← cel_set h, Int.toNat_natCast, List.set_set]
  rw [h1]; rfl
def Bany (p : Prop) : SV := ⟨fun _ _ v => ∃ b : Bool, v = .bool b ∧ (b = true → p), fun _ _ h => h⟩
section
variable {E : Env} {P : Program} {Q : Exit → Act → World → Prop} {s : St} {dst : Option Tmp} {ty : TypeId} {pos : String} {af : Array Edge} {g : Option (Nat × Bool)}
theorem rd_nilany {op : BinOp} {tx t2 : TypeId} {X Y : Operand} {α : Type} {K : Kd α} {xs : List α} {y : Value}
    (hx : ev s.L X = some (Sl K xs)) (hy : ev s.L Y = some (Vl y))
    (h0 : ∀ n c w, (eqGuard op tx X Y (.slice none n c) y).run P w = .ok () w) (h1 : ∀ q n c w, (eqGuard op tx X Y (.slice (some q) n c) y).run P w = .ok () w)
    (h2 : ∀ n c w, (binOp op tx (.slice none n c) y).run P w = .ok (.bool true) w) (h3 : ∀ q n c w, (binOp op tx (.slice (some q) n c) y).run P w = .ok (.bool false) w) :
    Rd P s ⟨dst, .binOp op tx X Y t2, ty, pos, af, g⟩ (Bany (xs = [])) := fun E a w U hs => by
  obtain ⟨q, c, e1, _, e3⟩ := look_ev hs hx
  have e2 : a.eval Y = y := look_ev hs hy
  cases q with
  | none => exact ⟨.bool true, ⟨true, rfl, fun _ => by
      by_cases hn : xs = []
      · exact hn
      · obtain ⟨_, _, h, _⟩ := e3 hn; cases h⟩, fun w' _ => by simp [execOp, e1, e2, h0, h2]⟩
  | some q => exact ⟨.bool false, ⟨false, rfl, fun h => by cases h⟩, fun w' _ => by simp [execOp, e1, e2, h1, h3]⟩
theorem tx_anybool {K' : Act → World → Prop} (t : Nat) {p : Prop} (ht : look s.L t = some (Bany p)) (k : ∀ b, (b = true → p) → TX E K' { s with L := (t, Vl (.bool b)) :: s.L }) : TX E K' s := fun a w ⟨U, hs⟩ => by
  obtain ⟨v, hv, b, e, hp⟩ := hs.slot t _ ht
  refine k b hp a w ⟨U, { hs with
    slot := fun k z hk => by
      simp only [look] at hk
      by_cases ek : t = k
      · subst ek
        have : Nat.beq t t = true := by simp
        rw [this] at hk; simp at hk; subst hk
        exact ⟨v, hv, e⟩
      · have hb' : Nat.beq t k = false := by
          cases h' : Nat.beq t k with
          | false => rfl
          | true => exact absurd (Nat.eq_of_beq_eq_true h') ek
        rw [hb'] at hk
        exact hs.slot k z hk }⟩
theorem cxupto {c : Code} (J : Nat → St) (N : Nat) (h : ∀ i, i ≤ N → ∀ K : Act → World → Prop, (i < N → TX E K (J (i + 1))) → CX E P c (Exit.then K Q) (J i)) : CX E P (.loop c) Q (J 0) := by
  have key : ∀ n i, N - i = n → i ≤ N → TX E (LoopIn P c Q) (J i) := by
    intro n
    induction n with
    | zero => intro i hn hi; exact tx_round (h i hi _ fun hlt => absurd hlt (by omega))
    | succ n ih => intro i hn hi; exact tx_round (h i hi _ fun hlt => ih (i + 1) (by omega) hlt)
  exact tx_loop (key N 0 rfl (Nat.zero_le _))
end
end Go.Sx
