/-
  A symbolic state for walks: slots that hold typed values, memory of the call's own, and what a step does to them. Ours; it knows no program.
-/
import Derived.WalkKit
import Derived.WalkLawsBesides
import Derived.Deep.QuietTactic
import Derived.BigQuiet
namespace Go.Sx
set_option linter.unusedVariables false
set_option linter.unusedSectionVars false
set_option linter.unusedSimpArgs false

/-- elementwise -/
def All2 {α β : Type} (R : α → β → Prop) : List α → List β → Prop
  | [], [] => True
  | a :: l, b :: m => R a b ∧ All2 R l m
  | _, _ => False

theorem All2.mono {α β : Type} {R R' : α → β → Prop} (h : ∀ a b, R a b → R' a b) : ∀ {l : List α} {m : List β}, All2 R l m → All2 R' l m
  | [], [], _ => trivial
  | _ :: _, _ :: _, ⟨x, y⟩ => ⟨h _ _ x, All2.mono h y⟩
  | [], _ :: _, x => x.elim
  | _ :: _, [], x => x.elim

theorem All2.length {α β : Type} {R : α → β → Prop} : ∀ {l : List α} {m : List β}, All2 R l m → l.length = m.length
  | [], [], _ => rfl
  | _ :: _, _ :: _, ⟨_, y⟩ => by simp [All2.length y]
  | [], _ :: _, x => x.elim
  | _ :: _, [], x => x.elim

theorem All2.get {α β : Type} {R : α → β → Prop} : ∀ {l : List α} {m : List β}, All2 R l m → ∀ {j : Nat} {a : α}, l[j]? = some a → ∃ b, m[j]? = some b ∧ R a b
  | [], _, _, _, _, h => by simp at h
  | _ :: _, _ :: _, ⟨x, _⟩, 0, _, h => by simp at h; subst h; exact ⟨_, rfl, x⟩
  | _ :: _, _ :: _, ⟨_, y⟩, j + 1, a, h => by
    have := All2.get y (j := j) (a := a) (by simpa using h)
    simpa using this
  | _ :: _, [], x, _, _, _ => x.elim

theorem All2.append {α β : Type} {R : α → β → Prop} : ∀ {l : List α} {m : List β} {l' : List α} {m' : List β}, All2 R l m → All2 R l' m' → All2 R (l ++ l') (m ++ m')
  | [], [], _, _, _, h => h
  | _ :: _, _ :: _, _, _, ⟨x, y⟩, h => ⟨x, All2.append y h⟩
  | [], _ :: _, _, _, x, _ => x.elim
  | _ :: _, [], _, _, x, _ => x.elim

theorem All2.set {α β : Type} {R : α → β → Prop} : ∀ {l : List α} {m : List β}, All2 R l m → ∀ {j : Nat} {a : α} {b : β}, R a b → All2 R (l.set j a) (m.set j b)
  | [], [], _, _, _, _, _ => trivial
  | _ :: _, _ :: _, ⟨_, y⟩, 0, _, _, h => ⟨h, y⟩
  | _ :: _, _ :: _, ⟨x, y⟩, j + 1, _, _, h => ⟨x, All2.set y h⟩
  | [], _ :: _, x, _, _, _, _ => x.elim
  | _ :: _, [], x, _, _, _, _ => x.elim

theorem All2.take {α β : Type} {R : α → β → Prop} : ∀ (o : Nat) {l : List α} {m : List β}, All2 R l m → All2 R (l.take o) (m.take o)
  | 0, _, _, _ => by simp [All2]
  | _ + 1, [], [], _ => by simp [All2]
  | o + 1, _ :: _, _ :: _, ⟨x, y⟩ => ⟨x, All2.take o y⟩
  | _ + 1, [], _ :: _, x => x.elim
  | _ + 1, _ :: _, [], x => x.elim

theorem All2.drop {α β : Type} {R : α → β → Prop} : ∀ (o : Nat) {l : List α} {m : List β}, All2 R l m → All2 R (l.drop o) (m.drop o)
  | 0, _, _, h => h
  | _ + 1, [], [], _ => by simp [All2]
  | o + 1, _ :: _, _ :: _, ⟨x, y⟩ => All2.drop o y
  | _ + 1, [], _ :: _, x => x.elim
  | _ + 1, _ :: _, [], x => x.elim

/-- What a value is, in a world, over memory that nobody writes ('U': blocks). -/
structure SV where
  R : World → (Nat → Prop) → Value → Prop
  mono : ∀ {w w' : World} {U U' : Nat → Prop} {v : Value}, (∀ k, U k → U' k) → (∀ k, U k → w'.heap[k]? = w.heap[k]?) → R w U v → R w' U' v

/-- the same of one cell -/
def SV.C (s : SV) (w : World) (U : Nat → Prop) (v : Value) : Prop := s.R w U v ∧ v.oneCell' = true
theorem SV.C_mono (s : SV) {w w' : World} {U U' : Nat → Prop} {v : Value} (h1 : ∀ k, U k → U' k) (h2 : ∀ k, U k → w'.heap[k]? = w.heap[k]?) (h : s.C w U v) : s.C w' U' v := ⟨s.mono h1 h2 h.1, h.2⟩

/-- this very value -/
def Vl (u : Value) : SV := ⟨fun _ _ v => v = u, fun _ _ h => h⟩

theorem all2_mono {w w' : World} {U U' : Nat → Prop} {l : List SV} {vs : List Value} (h1 : ∀ k, U k → U' k) (h2 : ∀ k, U k → w'.heap[k]? = w.heap[k]?)
    (h : All2 (fun s v => s.R w U v) l vs) : All2 (fun s v => s.R w' U' v) l vs := All2.mono (fun s v h => s.mono h1 h2 h) h
theorem all2c_mono {w w' : World} {U U' : Nat → Prop} {l : List SV} {vs : List Value} (h1 : ∀ k, U k → U' k) (h2 : ∀ k, U k → w'.heap[k]? = w.heap[k]?)
    (h : All2 (fun s v => s.C w U v) l vs) : All2 (fun s v => s.C w' U' v) l vs := All2.mono (fun s v h => s.C_mono h1 h2 h) h

/-- a struct or an array by value -/
def Ag (l : List SV) : SV := ⟨fun w U v => ∃ vs : List Value, v = .agg ⟨vs⟩ ∧ All2 (fun s v => s.C w U v) l vs,
  fun h1 h2 ⟨vs, e, h⟩ => ⟨vs, e, all2c_mono h1 h2 h⟩⟩
/-- several results -/
def Tu (l : List SV) : SV := ⟨fun w U v => ∃ vs : List Value, v = .tuple ⟨vs⟩ ∧ All2 (fun s v => s.R w U v) l vs,
  fun h1 h2 ⟨vs, e, h⟩ => ⟨vs, e, all2_mono h1 h2 h⟩⟩
/-- an interface value of a known type -/
def If (t : TypeId) (s : SV) : SV := ⟨fun w U v => ∃ u, v = .iface t u ∧ s.R w U u, fun h1 h2 ⟨u, e, h⟩ => ⟨u, e, s.mono h1 h2 h⟩⟩

/-- A kind of elements: so many cells each. -/
structure Kd (α : Type) where
  size : Nat
  enc : α → List SV
  len : ∀ x, (enc x).length = size

def Kd.one {α : Type} (f : α → SV) : Kd α := ⟨1, fun x => [f x], fun _ => rfl⟩
def Kf : Kd Nat := Kd.one fun x => Vl (.float .f64 x)
def Ki (k : IntKind) : Kd Int := Kd.one fun x => Vl (.int k x)
def Kb : Kd Bool := Kd.one fun x => Vl (.bool x)
def Ks : Kd ByteArray := Kd.one fun x => Vl (.string x)

/-- the cells from an offset on, in memory that nobody writes -/
def Cells (w : World) (U : Nat → Prop) (b off : Nat) (l : List SV) : Prop := ∀ j s, l[j]? = some s → ∃ v, w.cell? ⟨b, off + j, none⟩ = some v ∧ s.C w U v

theorem cell?_same {w w' : World} {b o : Nat} (h : w'.heap[b]? = w.heap[b]?) : w'.cell? ⟨b, o, none⟩ = w.cell? ⟨b, o, none⟩ := by
  simp [World.cell?, h]

theorem Cells.mono {w w' : World} {U U' : Nat → Prop} {b off : Nat} {l : List SV} (hb : U b) (h1 : ∀ k, U k → U' k) (h2 : ∀ k, U k → w'.heap[k]? = w.heap[k]?)
    (h : Cells w U b off l) : Cells w' U' b off l := fun j s hj => by
  obtain ⟨v, hv, hs⟩ := h j s hj
  exact ⟨v, by rw [cell?_same (h2 b hb)]; exact hv, s.C_mono h1 h2 hs⟩

/-- a slice over memory that nobody writes, which reads as xs -/
def Sl {α : Type} (K : Kd α) (xs : List α) : SV := ⟨fun w U v => ∃ a c, v = .slice a xs.length c ∧ xs.length ≤ c ∧
    (xs ≠ [] → ∃ b off, a = some ⟨b, off, none⟩ ∧ U b ∧ ∀ i x, xs[i]? = some x → Cells w U b (off + i * K.size) (K.enc x)),
  fun h1 h2 ⟨a, c, e, hc, h⟩ => ⟨a, c, e, hc, fun hn => by
    obtain ⟨b, off, ea, hb, hx⟩ := h hn
    exact ⟨b, off, ea, h1 _ hb, fun i x hi => (hx i x hi).mono hb h1 h2⟩⟩⟩

/-- a slice of slices: elements of kind 'Sl K' -/
def Kl {α : Type} (K : Kd α) : Kd (List α) := Kd.one (Sl K)

/-- the address of some cells in memory that nobody writes -/
def Pt (l : List SV) : SV := ⟨fun w U v => ∃ b off, v = .pointer (some ⟨b, off, none⟩) ∧ U b ∧ Cells w U b off l,
  fun h1 h2 ⟨b, off, e, hb, h⟩ => ⟨b, off, e, h1 _ hb, h.mono hb h1 h2⟩⟩

/-! ### what the call owns -/
structure Res where
  v : Value
  cs : List SV
  E : TypeId
  row : Option Nat

def blkOf : Value → List Nat
  | .pointer (some a) => [a.block]
  | .slice (some a) _ _ => [a.block]
  | _ => []
def Res.blk (r : Res) : List Nat := blkOf r.v

def Res.own (r : Res) (w : World) (U : Nat → Prop) : Prop :=
  match r.row with
  | none => ∃ b vs, r.v = .pointer (some ⟨b, 0, none⟩) ∧ w.heap[b]? = some (.cells ⟨vs⟩ r.E (0, 0)) ∧ All2 (fun s v => s.C w U v) r.cs vs
  | some size => (r.v = .slice none 0 0 ∧ r.cs = []) ∨
    ∃ b n cap vs sp, r.v = .slice (some ⟨b, 0, none⟩) n cap ∧ w.heap[b]? = some (.cells ⟨vs ++ sp⟩ r.E (0, 0)) ∧ All2 (fun s v => s.C w U v) r.cs vs ∧
      r.cs.length = n * size ∧ (vs ++ sp).length = cap * size ∧ n ≤ cap

theorem Res.own_mono {r : Res} {w w' : World} {U U' : Nat → Prop} (h1 : ∀ k, U k → U' k) (h2 : ∀ k, U k → w'.heap[k]? = w.heap[k]?)
    (h3 : ∀ b ∈ r.blk, w'.heap[b]? = w.heap[b]?) (h : r.own w U) : r.own w' U' := by
  unfold Res.own at *
  split at h
  · obtain ⟨b, vs, e, hb, hc⟩ := h
    exact ⟨b, vs, e, by rw [h3 b (by simp [Res.blk, e, blkOf])]; exact hb, all2c_mono h1 h2 hc⟩
  · rcases h with h | ⟨b, n, cap, vs, sp, e, hb, hc, r1, r2, r3⟩
    · exact .inl h
    · exact .inr ⟨b, n, cap, vs, sp, e, by rw [h3 b (by simp [Res.blk, e, blkOf])]; exact hb, all2c_mono h1 h2 hc, r1, r2, r3⟩

theorem Res.lt {r : Res} {w : World} {U : Nat → Prop} (h : r.own w U) : ∀ b ∈ r.blk, b < w.heap.size := by
  intro b hb
  have key : ∀ {b : Nat} {o : Obj}, w.heap[b]? = some o → b < w.heap.size := fun {b o} h => by
    rcases Nat.lt_or_ge b w.heap.size with h' | h'
    · exact h'
    · simp [Array.getElem?_eq_none h'] at h
  unfold Res.own at h
  split at h
  · obtain ⟨b', vs, e, hb', hc⟩ := h
    simp [Res.blk, e, blkOf] at hb; subst hb; exact key hb'
  · rcases h with h | ⟨b', n, cap, vs, sp, e, hb', hc, r1, r2⟩
    · simp [Res.blk, h.1, blkOf] at hb
    · simp [Res.blk, e, blkOf] at hb; subst hb; exact key hb'

/-! ### the state -/
def look : List (Nat × SV) → Nat → Option SV
  | [], _ => none
  | (i, s) :: r, k => bif Nat.beq i k then some s else look r k

def ev (L : List (Nat × SV)) : Operand → Option SV
  | .tmp t => look L t
  | .const v => some (Vl v)
  | .global g => some (Vl (.pointer (some ⟨g, 0, none⟩)))
  | .func f => some (Vl (.func (.func f) #[] #[]))

/-- blocks below the first world's end, but those of M, are as they were -/
structure Ext (M : List Nat) (w w' : World) : Prop where
  os : w'.os = w.os
  tape : w'.tape = w.tape
  output : w'.output = w.output
  size : w.heap.size ≤ w'.heap.size
  block : ∀ k, k < w.heap.size → k ∉ M → w'.heap[k]? = w.heap[k]?

theorem Ext.refl (M : List Nat) (w : World) : Ext M w w := ⟨rfl, rfl, rfl, Nat.le_refl _, fun _ _ _ => rfl⟩
theorem Ext.trans {M : List Nat} {a b c : World} (h : Ext M a b) (k : Ext M b c) : Ext M a c :=
  ⟨k.os.trans h.os, k.tape.trans h.tape, k.output.trans h.output, Nat.le_trans h.size k.size, fun i hi hm => (k.block i (Nat.lt_of_lt_of_le hi h.size) hm).trans (h.block i hi hm)⟩
theorem Ext.below {w w' : World} (h : Ext [] w w') : Go.RowKit.Below w.heap.size w w' :=
  ⟨h.os, h.tape, h.output, h.size, fun k hk => h.block k hk (by simp)⟩

/-- package variables that nobody writes: what their cells hold (none, unless a program's own text says so) -/
class Gv where
  l : List (Nat × List SV)
instance (priority := low) gv0 : Gv := ⟨[]⟩
def GOk [Gv] (w : World) (U : Nat → Prop) : Prop := ∀ p ∈ Gv.l, U p.1 ∧ Cells w U p.1 0 p.2
theorem GOk.mono [Gv] {w w' : World} {U U' : Nat → Prop} (h1 : ∀ k, U k → U' k) (h2 : ∀ k, U k → w'.heap[k]? = w.heap[k]?) (h : GOk w U) : GOk w' U' := fun p hp =>
  ⟨h1 _ (h p hp).1, (h p hp).2.mono (h p hp).1 h1 h2⟩
theorem gok0 {w : World} {U : Nat → Prop} : @GOk gv0 w U := fun _ h => by cases h

structure Env where
  w0 : World
  U0 : Nat → Prop
  M : List Nat

structure St where
  n : Nat
  D : List Deferred
  L : List (Nat × SV)
  H : List Res

variable [Gv]
structure SymAt (E : Env) (s : St) (a : Act) (w : World) (U : Nat → Prop) : Prop where
  size : a.tmps.size = s.n
  defers : a.defers = s.D
  slot : ∀ k x, look s.L k = some x → ∃ v, a.tmps[k]? = some v ∧ x.R w U v
  own : ∀ r ∈ s.H, r.own w U
  nodup : (s.H.flatMap Res.blk).Nodup
  apart : ∀ r ∈ s.H, ∀ b ∈ r.blk, ¬ U b
  base : ∀ r ∈ s.H, ∀ b ∈ r.blk, E.w0.heap.size ≤ b ∨ b ∈ E.M
  lt : ∀ k, U k → k < w.heap.size
  from0 : ∀ k, U k → E.U0 k ∨ E.w0.heap.size ≤ k ∨ k ∈ E.M
  to0 : ∀ k, E.U0 k → U k
  ext : Ext E.M E.w0 w
  glob : GOk w U

def Sym (E : Env) (s : St) (a : Act) (w : World) : Prop := ∃ U, SymAt E s a w U

def St.put (s : St) (d : Nat) (x : SV) : St := { s with L := (d, x) :: s.L }
def St.putO (s : St) (d : Option Nat) (x : SV) : St := match d with | some d => s.put d x | none => s

theorem look_ev {E : Env} {s : St} {a : Act} {w : World} {U : Nat → Prop} (h : SymAt E s a w U) {X : Operand} {x : SV} (hx : ev s.L X = some x) : x.R w U (a.eval X) := by
  cases X with
  | tmp t =>
    obtain ⟨v, hv, hr⟩ := h.slot t x hx
    have : a.eval (.tmp t) = v := by simp [Act.eval, hv]
    rw [this]; exact hr
  | const v => simp [ev] at hx; subst hx; rfl
  | global g => simp [ev] at hx; subst hx; rfl
  | func f => simp [ev] at hx; subst hx; rfl

/-- the world goes on, the frame stays: memory that is known stays as it was -/
theorem SymAt.world {E : Env} {s : St} {a : Act} {w w' : World} {U : Nat → Prop} (h : SymAt E s a w U) (hs : ∀ k, k < w.heap.size → w'.heap[k]? = w.heap[k]?)
    (hsz : w.heap.size ≤ w'.heap.size) (ho : w'.os = w.os) (ht : w'.tape = w.tape) (hout : w'.output = w.output) : SymAt E s a w' U where
  size := h.size
  defers := h.defers
  slot := fun k x hk => by
    obtain ⟨v, hv, hr⟩ := h.slot k x hk
    exact ⟨v, hv, x.mono (fun _ h => h) (fun k hk => hs k (h.lt k hk)) hr⟩
  own := fun r hr => (Res.own_mono (fun _ h => h) (fun k hk => hs k (h.lt k hk)) (fun b hb => hs b (Res.lt (h.own r hr) b hb)) (h.own r hr))
  nodup := h.nodup
  apart := h.apart
  base := h.base
  lt := fun k hk => Nat.lt_of_lt_of_le (h.lt k hk) hsz
  from0 := h.from0
  to0 := h.to0
  ext := h.ext.trans ⟨ho, ht, hout, hsz, fun k hk _ => hs k hk⟩
  glob := h.glob.mono (fun _ h => h) (fun k hk => hs k (h.lt k hk))

theorem put_get {a : Act} {d k : Nat} {v : Value} (hd : d < a.tmps.size) : (a.put (some d) v).tmps[k]? = if d = k then some v else a.tmps[k]? := by
  simp only [Act.put]
  rw [Array.getElem?_setIfInBounds]
  simp only [hd, if_true]

theorem SymAt.put {E : Env} {s : St} {a : Act} {w : World} {U : Nat → Prop} (h : SymAt E s a w U) {d : Nat} {x : SV} {v : Value} (hd : Nat.ble (d + 1) s.n = true) (hx : x.R w U v) :
    SymAt E (s.put d x) (a.put (some d) v) w U := by
  have hd' : d < a.tmps.size := by rw [h.size]; exact Nat.le_of_ble_eq_true hd
  exact {
    size := by simp [Act.put, h.size, St.put]
    defers := h.defers
    slot := fun k y hk => by
      simp only [St.put, look] at hk
      rw [put_get hd']
      by_cases e : d = k
      · subst e
        have : Nat.beq d d = true := by simp
        rw [this] at hk
        simp at hk; subst hk
        exact ⟨v, by simp, hx⟩
      · have : Nat.beq d k = false := by cases h' : Nat.beq d k with
          | false => rfl
          | true => exact absurd (Nat.eq_of_beq_eq_true h') e
        rw [this] at hk
        rw [if_neg e]
        exact h.slot k y hk
    own := h.own, nodup := h.nodup, apart := h.apart, base := h.base, lt := h.lt, from0 := h.from0, to0 := h.to0, ext := h.ext, glob := h.glob }

/-- what is known may be forgotten -/
def Sub : List (Nat × SV) → List (Nat × SV) → Prop
  | [], _ => True
  | (k, x) :: r, L => look L k = some x ∧ Sub r L

theorem Sub.look {L L' : List (Nat × SV)} (h : Sub L' L) : ∀ {k : Nat} {x : SV}, Sx.look L' k = some x → Sx.look L k = some x := by
  induction L' with
  | nil => intro k x hk; simp [Sx.look] at hk
  | cons p r ih =>
    obtain ⟨i, y⟩ := p
    intro k x hk
    simp only [Sx.look] at hk
    by_cases e : i = k
    · subst e
      have : Nat.beq i i = true := by simp
      rw [this] at hk; simp at hk; subst hk
      exact h.1
    · have : Nat.beq i k = false := by cases h' : Nat.beq i k with
        | false => rfl
        | true => exact absurd (Nat.eq_of_beq_eq_true h') e
      rw [this] at hk
      exact ih h.2 hk

theorem Sym.sub {E : Env} {s : St} {a : Act} {w : World} (h : Sym E s a w) {L' : List (Nat × SV)} (hL : Sub L' s.L) : Sym E { s with L := L' } a w := by
  obtain ⟨U, h⟩ := h
  exact ⟨U, { h with slot := fun k x hk => h.slot k x (hL.look hk) }⟩

end Go.Sx
