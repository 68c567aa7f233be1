/-
  Steps of a walk over the symbolic state: codes, regions, operations that only read. Ours; it knows no program.
-/
import Derived.Test.YtjgpiealnfbkcaaSxA
namespace Go.Sx
set_option linter.unusedVariables false
set_option linter.unusedSectionVars false
set_option linter.unusedSimpArgs false
variable [Gv]

def TX (E : Env) (K : Act → World → Prop) (s : St) : Prop := ∀ a w, Sym E s a w → K a w
abbrev SX (E : Env) (P : Program) (ops : Array Oper) (Q : Exit → Act → World → Prop) (rest : List Oper) (s : St) : Prop := TX E (wpList P ops Q rest) s
abbrev CX (E : Env) (P : Program) (c : Code) (Q : Exit → Act → World → Prop) (s : St) : Prop := TX E (c.wp P Q) s
def TQ (E : Env) (KQ : Act → World → (Nat → Prop) → Prop) (s : St) : Prop := ∀ a w U, SymAt E s a w U → KQ a w U
def QX (E : Env) (P : Program) (ops : Array Oper) (KQ : Act → World → (Nat → Prop) → Prop) (rest : List Oper) (s : St) : Prop :=
  TQ E (fun a w U => wpQuiet P ops (fun w' => Ext [] w w') (fun a' => KQ a' w U) rest a) s
def After (K : Act → World → Prop) (a : Act) (w : World) (U : Nat → Prop) : Prop := ∀ w', Ext [] w w' → K a w'

theorem bind_some {α β : Type} {x : Option α} {f : α → Option β} {y : β} (h : (x >>= f) = some y) : ∃ a, x = some a ∧ f a = some y := by
  cases x with
  | none => cases h
  | some a => exact ⟨a, rfl, h⟩
def br {α : Type} (b : Bool) (x y : α) : α := match b with | true => x | false => y
theorem br_t {α : Type} {b : Bool} {x y : α} (h : b = true) : br b x y = x := by subst h; rfl
theorem br_f {α : Type} {b : Bool} {x y : α} (h : b = false) : br b x y = y := by subst h; rfl

theorem br_cases {α : Type} {b : Bool} {x y : Option α} {z : α} (h : br b x y = some z) : (b = true ∧ x = some z) ∨ (b = false ∧ y = some z) := by
  cases b
  · exact .inr ⟨rfl, h⟩
  · exact .inl ⟨rfl, h⟩
theorem beq_tt {b : Bool} (h : b = true) : (b == true) = true := by subst h; rfl
theorem beq_tf {b : Bool} (h : b = true) : (b == false) = false := by subst h; rfl
theorem beq_ft {b : Bool} (h : b = false) : (b == true) = false := by subst h; rfl
theorem beq_ff {b : Bool} (h : b = false) : (b == false) = true := by subst h; rfl
theorem sub_nil {L : List (Nat × SV)} : Sub [] L := trivial
theorem sub_cons {k : Nat} {x : SV} {r L : List (Nat × SV)} (h : look L k = some x) (h' : Sub r L) : Sub ((k, x) :: r) L := ⟨h, h'⟩
theorem addr_add_add (a : Addr) (n m : Nat) : (a.add n).add m = a.add (n + m) := by
  unfold Addr.add
  by_cases h1 : n = 0
  · subst h1; simp
  · by_cases h2 : m = 0
    · subst h2; simp
    · simp [h1, h2, Nat.add_assoc]
theorem info_size {P : Program} {t : TypeId} {z : Option Value} {n b : Nat} (h : (P.info? t).map (fun i => (i.zero, i.size, i.bytes)) = some (z, n, b)) : ∃ i, P.info? t = some i ∧ i.size = n := by
  cases hi : P.info? t with
  | none => rw [hi] at h; simp at h
  | some i => rw [hi] at h; simp at h; exact ⟨i, rfl, h.2.1⟩
theorem all_of {α : Type} {p : α → Bool} {l : List α} (h : l.all p = true) : ∀ f ∈ l, p f = true := List.all_eq_true.1 h

section codes
variable {E : Env} {P : Program} {Q : Exit → Act → World → Prop} {s : St}

theorem cx_seq {x y : Code} (h : ∀ K : Act → World → Prop, (∀ a w, y.wp P Q a w → K a w) → CX E P x (Exit.then K Q) s) : CX E P (.seq x y) Q s :=
  fun a w hs => wp_seq_k fun K hK => h K hK a w hs
theorem cx_join {x y : Code} {X : Type} (J : X → St) (ok : X → Prop) (h2 : ∀ v, ok v → CX E P y Q (J v))
    (h1 : ∀ K : Act → World → Prop, (∀ v, ok v → TX E K (J v)) → CX E P x (Exit.then K Q) s) : CX E P (.seq x y) Q s :=
  fun a w hs => wp_seq_k fun K hK => h1 K (fun v hv a w hs => hK a w (h2 v hv a w hs)) a w hs
theorem cx_skip (h : TX E (Q .normal) s) : CX E P .skip Q s := fun a w hs => wp_skip (h a w hs)
theorem cx_exit {id : Nat} (h : TX E (Q (.exit id)) s) : CX E P (.exit id) Q s := fun a w hs => wp_exit (h a w hs)
theorem cx_retc (h : TX E (Q .ret) s) : CX E P .ret Q s := fun a w hs => wp_ret (h a w hs)
theorem cx_block {id : Nat} {c : Code} (h : CX E P c (Exit.inBlock id Q) s) : CX E P (.block id c) Q s := fun a w hs => wp_block (h a w hs)
theorem cx_cond {c : Operand} {x y : Code} {b : Bool} (hb : ev s.L c = some (Vl (.bool b))) (ht : b = true → CX E P x Q s) (hf : b = false → CX E P y Q s) :
    CX E P (.cond c x y) Q s := fun a w hs => by
  obtain ⟨U, h⟩ := hs
  have e : a.eval c = .bool b := look_ev h hb
  exact wp_cond_split e (fun h1 => ht h1 a w ⟨U, h⟩) (fun h1 => hf h1 a w ⟨U, h⟩)
theorem tx_k {y : Code} {K : Act → World → Prop} (hK : ∀ a w, y.wp P Q a w → K a w) (h : CX E P y Q s) : TX E K s := fun a w hs => hK a w (h a w hs)
def Zx (E : Env) (e0 : Exit) (s : St) (e : Exit) (a : Act) (w : World) : Prop := e = e0 ∧ Sym E s a w
def LoopIn (P : Program) (c : Code) (Q : Exit → Act → World → Prop) (a : Act) (w : World) : Prop :=
  ∀ (b : Frame) (k : List Item) (cs : List Frame), ∃ e a' w', Q e a' w' ∧ Arrives P (lone (b.at a (.code c :: .inLoop c :: k)) cs w) b k cs e a' w'

theorem loopIn_loop {c : Code} {a : Act} {w : World} (h : LoopIn P c Q a w) : (Code.loop c).wp P Q a w := fun b k cs =>
  let ⟨e, a', w', q, r⟩ := h b k cs
  ⟨e, a', w', q, .of_steps (.one step_loop) r⟩

theorem loopIn_round {c : Code} {a : Act} {w : World} (h : c.wp P (Exit.then (LoopIn P c Q) Q) a w) : LoopIn P c Q a w := by
  intro b k cs
  obtain ⟨e, a₁, w₁, hq, harr⟩ := h b (.inLoop c :: k) cs
  cases e with
  | normal =>
    obtain ⟨e₂, a₂, w₂, hq₂, harr₂⟩ := hq b k cs
    exact ⟨e₂, a₂, w₂, hq₂, .of_steps (Steps.trans harr (.one step_inLoop)) harr₂⟩
  | exit id => exact ⟨_, a₁, w₁, hq, .pass (x := .inLoop c) rfl (fun _ _ => .inl (by simp)) harr⟩
  | goto l => exact ⟨_, a₁, w₁, hq, .pass (x := .inLoop c) rfl (fun _ _ => .inl (by simp)) harr⟩
  | ret => exact ⟨_, a₁, w₁, hq, .pass (x := .inLoop c) rfl (fun _ _ => .inl (by simp)) harr⟩
  | panic ch => exact ⟨_, a₁, w₁, hq, .pass (x := .inLoop c) rfl (fun _ _ => .inl (by simp)) harr⟩
  | outgrown => exact ⟨_, a₁, w₁, hq, .pass (x := .inLoop c) rfl (fun _ _ => .inl (by simp)) harr⟩

theorem cx_cond_t {c : Operand} {x y : Code} {b : Bool} (hb : ev s.L c = some (Vl (.bool b))) (h : b = true) (k : CX E P x Q s) : CX E P (.cond c x y) Q s :=
  cx_cond hb (fun _ => k) (fun h' => by rw [h] at h'; cases h')
theorem cx_cond_f {c : Operand} {x y : Code} {b : Bool} (hb : ev s.L c = some (Vl (.bool b))) (h : b = false) (k : CX E P y Q s) : CX E P (.cond c x y) Q s :=
  cx_cond hb (fun h' => by rw [h] at h'; cases h') (fun _ => k)

end codes

section regions
variable {E : Env} {P : Program} {Q : Exit → Act → World → Prop} {s : St} {ops : Array Oper} {rest : List Oper} {o : Oper}

theorem cx_region {id : Nat} {l : List Oper} (h : SX E P l.toArray Q l s) : CX E P (.region id l.toArray false) Q s := fun a w hs => wp_region_lit (h a w hs)
theorem sx_nil (h : TX E (Q .normal) s) : SX E P ops Q [] s := fun a w hs => wpList_nil (h a w hs)

theorem cx_draw {id : Nat} {l : List Oper} (hm : P.follows .mixedOrders = true) (hB : Region.lexB .any l.toArray = true) (h : QX E P l.toArray (After (Q .normal)) l s) :
    CX E P (.region id l.toArray true) Q s := fun a w ⟨U, hs⟩ => by
  refine wp_region_quiet (C := fun w' => Ext [] w w') hm hB ⟨rfl, rfl, rfl, Nat.le_refl _, fun _ _ _ => rfl⟩ ?_
  simpa [After] using h a w U hs
theorem qx_nil {K : Act → World → Prop} (h : TX E K s) : QX E P ops (After K) [] s := fun a w U hs =>
  wpQuiet_nil fun w' hw' => h a w' ⟨U, hs.world (fun k hk => hw'.block k hk (by simp)) hw'.size hw'.os hw'.tape hw'.output⟩
theorem sx_cut {l1 l2 : List Oper} {X : Type} (J : X → St) (ok : X → Prop) (h2 : ∀ v, ok v → SX E P ops Q l2 (J v))
    (h1 : ∀ K : Act → World → Prop, (∀ v, ok v → TX E K (J v)) → SX E P ops (Exit.then K Q) l1 s) : SX E P ops Q (l1 ++ l2) s := by
  have key : ∀ (l1 : List Oper) a w, wpList P ops (Exit.then (wpList P ops Q l2) Q) l1 a w → wpList P ops Q (l1 ++ l2) a w := by
    intro l1
    induction l1 with
    | nil => intro a w h; exact h
    | cons o l ih =>
      intro a w h
      have hl : LetsOut (Exit.then (wpList P ops Q l2) Q) → LetsOut Q := fun ⟨a, w, h⟩ => ⟨a, w, h⟩
      simp only [List.cons_append, wpList] at h ⊢
      split
      · rename_i hw
        rw [if_pos hw] at h
        rcases h with h | ⟨h, h'⟩
        · left
          unfold Oper.wp at h ⊢
          generalize (execOp a.eval o).run P w = r at *
          cases r with
          | ok n w' =>
            cases n <;> simp only [Oper.upon] at h ⊢ <;> first | exact ih _ _ h | exact h.elim | skip
            case enter f args => exact h.mono fun e w'' q => by
                                  cases e with
                                  | returned v => exact ih _ _ q
                                  | panicked c => exact q
                                  | outgrown => exact hl q
            case row r args => exact h.mono fun v w'' q => ih _ _ q
          | halt x w' => cases x <;> simp only [Oper.upon] at h ⊢ <;> first | exact h | exact h.elim
        · exact .inr ⟨h, hl h'⟩
      · rename_i hw
        rw [if_neg hw] at h
        exact ih _ _ h
  intro a w hs
  refine key l1 a w ?_
  exact h1 (wpList P ops Q l2) (fun v hv a w hs => h2 v hv a w hs) a w hs

theorem sx_cutn (n : Nat) {X : Type} (J : X → St) (ok : X → Prop) (h2 : ∀ v, ok v → SX E P ops Q (rest.drop n) (J v))
    (h1 : ∀ K : Act → World → Prop, (∀ v, ok v → TX E K (J v)) → SX E P ops (Exit.then K Q) (rest.take n) s) : SX E P ops Q rest s := by
  have := sx_cut (l1 := rest.take n) (l2 := rest.drop n) J ok h2 h1
  rwa [List.take_append_drop] at this
def Wt (ops : Array Oper) (s : St) (o : Oper) (b : Bool) : Prop := ∀ E a w U, SymAt E s a w U → Region.wanted o (yielded ops a.tmps) = b
theorem wt_none (h : o.guard = none) : Wt ops s o true := fun _ _ _ _ _ => by simp [Region.wanted, h]
theorem wt_guard {j d : Nat} {want b : Bool} (h : o.guard = some (j, want)) (hd : (ops[j]?).bind (·.dst) = some d) (hl : look s.L d = some (Vl (.bool b))) : Wt ops s o (b == want) :=
  fun E a w U hs => by
    obtain ⟨v, hv, hr⟩ := hs.slot d _ hl
    have hr' : v = .bool b := hr
    subst hr'
    simp [Region.wanted, h, yielded, hd, hv]
theorem wt_is {b c : Bool} (h : Wt ops s o b) (e : b = c) : Wt ops s o c := e ▸ h

def Same (w w' : World) : Prop := ∀ k, k < w.heap.size → w'.heap[k]? = w.heap[k]?
def Rd (P : Program) (s : St) (o : Oper) (x : SV) : Prop :=
  ∀ E a w U, SymAt E s a w U → ∃ v, x.R w U v ∧ ∀ w', Same w w' → (execOp a.eval o).run P w' = .ok (.value v) w'

theorem sx_rd {d : Nat} {x : SV} (hr : Rd P s o x) (hd : o.dst = some d) (hn : Nat.ble (d + 1) s.n = true) (hw : Wt ops s o true) (k : SX E P ops Q rest (s.put d x)) :
    SX E P ops Q (o :: rest) s := fun a w ⟨U, hs⟩ => by
  refine wpList_step fun K hK => ?_
  rw [if_pos (hw E a w U hs)]
  obtain ⟨v, hx, hrun⟩ := hr E a w U hs
  unfold Oper.wp
  rw [hrun w (fun _ _ => rfl)]
  show K (a.put o.dst v) w
  rw [hd]
  exact hK _ _ (k _ _ ⟨U, hs.put hn hx⟩)
theorem sx_skip {d : Nat} (hd : o.dst = some d) (hn : Nat.ble (d + 1) s.n = true) (hw : Wt ops s o false) (k : SX E P ops Q rest (s.put d (Vl undef))) :
    SX E P ops Q (o :: rest) s := fun a w ⟨U, hs⟩ => by
  refine wpList_step fun K hK => ?_
  rw [if_neg (by rw [hw E a w U hs]; simp), hd]
  exact hK _ _ (k _ _ ⟨U, hs.put hn rfl⟩)
theorem qx_rd {K : Act → World → (Nat → Prop) → Prop} {d : Nat} {x : SV} (hr : Rd P s o x) (hd : o.dst = some d) (hn : Nat.ble (d + 1) s.n = true) (hw : Wt ops s o true)
    (k : QX E P ops K rest (s.put d x)) : QX E P ops K (o :: rest) s := fun a w U hs => by
  refine wpQuiet_step fun K' hK => ?_
  rw [if_pos (hw E a w U hs)]
  obtain ⟨v, hx, hrun⟩ := hr E a w U hs
  refine ⟨v, fun w' hw' => ?_, ?_⟩
  · unfold Oper.quietAt
    rw [hrun w' (fun k hk => hw'.block k hk (by simp))]
    exact ⟨rfl, rfl⟩
  · rw [hd]
    exact hK _ (k _ _ _ (hs.put hn hx))
end regions

section reads
variable {P : Program} {s : St} {d : Option Tmp} {ty : TypeId} {pos : String} {af : Array Edge} {g : Option (Nat × Bool)}

theorem rd_move {X : Operand} {x : SV} (hx : ev s.L X = some x) : Rd P s ⟨d, .move X, ty, pos, af, g⟩ x := fun E a w U hs =>
  ⟨_, look_ev hs hx, fun w' _ => rfl⟩
theorem rd_assign {X : Operand} {x : SV} (hx : ev s.L X = some x) : Rd P s ⟨d, .assign X, ty, pos, af, g⟩ x := fun E a w U hs =>
  ⟨_, look_ev hs hx, fun w' _ => rfl⟩
theorem rd_pick_true {C X Y : Operand} {x : SV} {b : Bool} (hc : ev s.L C = some (Vl (.bool b))) (hb : b = true) (hx : ev s.L X = some x) : Rd P s ⟨d, .pick C X Y, ty, pos, af, g⟩ x := fun E a w U hs => by
  have e : a.eval C = .bool true := hb ▸ look_ev hs hc
  exact ⟨_, look_ev hs hx, fun w' _ => by simp [execOp, e, asBool]⟩
theorem rd_pick_false {C X Y : Operand} {x : SV} {b : Bool} (hc : ev s.L C = some (Vl (.bool b))) (hb : b = false) (hx : ev s.L Y = some x) : Rd P s ⟨d, .pick C X Y, ty, pos, af, g⟩ x := fun E a w U hs => by
  have e : a.eval C = .bool false := hb ▸ look_ev hs hc
  exact ⟨_, look_ev hs hx, fun w' _ => by simp [execOp, e, asBool]⟩

def Runs {α : Type} (P : Program) (e : Sem α) (v : α) : Prop := ∀ w, e.run P w = .ok v w

theorem rd_bin {op : BinOp} {tx t2 : TypeId} {X Y : Operand} {x y v : Value} (hx : ev s.L X = some (Vl x)) (hy : ev s.L Y = some (Vl y))
    (hg : Runs P (eqGuard op tx X Y x y) ()) (hr : Runs P (binOp op tx x y) v) : Rd P s ⟨d, .binOp op tx X Y t2, ty, pos, af, g⟩ (Vl v) := fun E a w U hs => by
  have e1 : a.eval X = x := look_ev hs hx
  have e2 : a.eval Y = y := look_ev hs hy
  refine ⟨v, rfl, fun w' _ => ?_⟩
  simp [execOp, e1, e2, hg w', hr w']
theorem rd_un {op : UnOp} {tx : TypeId} {X : Operand} {x v : Value} (hx : ev s.L X = some (Vl x)) (hr : Runs P (Op.unary op x) v) : Rd P s ⟨d, .unOp op tx X, ty, pos, af, g⟩ (Vl v) := fun E a w U hs => by
  have e1 : a.eval X = x := look_ev hs hx
  exact ⟨v, rfl, fun w' _ => by simp [execOp, e1, hr w']⟩
theorem rd_extract {X : Operand} {l : List SV} {i : Nat} {x : SV} (hx : ev s.L X = some (Tu l)) (hi : l[i]? = some x) : Rd P s ⟨d, .extract X i, ty, pos, af, g⟩ x := fun E a w U hs => by
  obtain ⟨vs, e, h⟩ := look_ev hs hx
  obtain ⟨v, hv, hr⟩ := h.get hi
  exact ⟨v, hr, fun w' _ => by simp [execOp, e, Instr.extract, hv]⟩
theorem rd_iface {t : TypeId} {X : Operand} {x : SV} (hx : ev s.L X = some x) (hu : ∃ u, P.underlying t = some u ∧ (∀ ms, u ≠ .interface ms)) : Rd P s ⟨d, .makeInterface t X, ty, pos, af, g⟩ (If t x) := fun E a w U hs => by
  obtain ⟨u, hu, hn⟩ := hu
  refine ⟨.iface t (a.eval X), ⟨_, rfl, look_ev hs hx⟩, fun w' _ => ?_⟩
  cases u <;> first | (exact absurd rfl (hn _)) | simp [execOp, Instr.makeInterface, run_underlying hu]
theorem rd_len {α : Type} {K : Kd α} {xs : List α} {X : Operand} {t e : TypeId} (hx : ev s.L X = some (Sl K xs)) (ht : P.underlying t = some (.slice e)) :
    Rd P s ⟨d, .call { callee := .builtin .len, args := #[X], argTypes := #[t] }, ty, pos, af, g⟩ (Vl (.int .i64 xs.length)) := fun E a w U hs => by
  obtain ⟨b, c, e1, _⟩ := look_ev hs hx
  exact ⟨_, rfl, fun w' _ => by simp [execOp, resolve, invoke, builtin, Builtin.len_, e1, run_underlying ht, goInt]⟩

def idx {α : Type} (xs : List α) (i : Int) : Option α := if 0 ≤ i then xs[i.toNat]? else none
theorem idx_some {α : Type} {xs : List α} {i : Int} {x : α} (h : idx xs i = some x) : 0 ≤ i ∧ i < xs.length ∧ xs[i.toNat]? = some x := by
  unfold idx at h
  split at h
  · rename_i h0
    have := (List.getElem?_eq_some_iff.1 h).1
    exact ⟨h0, by omega, h⟩
  · cases h

theorem rd_at {α : Type} {K : Kd α} {xs : List α} {x : α} {X I : Operand} {k : IntKind} {i : Int} {t e : TypeId} {z : Option Value} {bytes : Nat} (hx : ev s.L X = some (Sl K xs)) (hi : ev s.L I = some (Vl (.int k i)))
    (hg : idx xs i = some x) (ht : P.underlying t = some (.slice e)) (he : (P.info? e).map (fun i => (i.zero, i.size, i.bytes)) = some (z, K.size, bytes)) :
    Rd P s ⟨d, .indexAddr t X I, ty, pos, af, g⟩ (Pt (K.enc x)) := fun E a w U hs => by
  obtain ⟨b, c, e1, hc, hb⟩ := look_ev hs hx
  have e2 : a.eval I = .int k i := look_ev hs hi
  obtain ⟨h0, h1, h2⟩ := idx_some hg
  obtain ⟨blk, off, rfl, hU, hcells⟩ := hb (by rintro rfl; simp at h1; omega)
  cases hinfo : P.info? e with
  | none => rw [hinfo] at he; simp at he
  | some inf =>
    rw [hinfo] at he
    simp at he
    refine ⟨.pointer (some (Addr.add ⟨blk, off, none⟩ (i.toNat * K.size))), ?_, fun w' _ => ?_⟩
    · refine ⟨blk, off + i.toNat * K.size, ?_, hU, hcells _ _ h2⟩
      unfold Addr.add
      split
      · rename_i h; simp [h]
      · rfl
    · simp [execOp, Instr.indexAt, asIntOf, e1, e2, run_underlying ht, h0, h1, sizeOf, typeInfo, hinfo, he.2.1]

end reads
end Go.Sx
