/-
  Steps of a walk over the symbolic state: joins and loops with values that are not told, deferred closures that have nothing to catch, rows frozen where a cell holds them. Ours; it knows no program.
-/
import Derived.Test.YtjgpiealnfbkcaaSxM
namespace Go.Sx
set_option linter.unusedVariables false
set_option linter.unusedSectionVars false
set_option linter.unusedSimpArgs false
variable [Gv]

/-! #### some of the memory, in another order -/
def PickAt (H : List Res) : List Nat → List Res → Prop
  | [], [] => True
  | i :: is, r :: rs => H[i]? = some r ∧ PickAt H is rs
  | _, _ => False

theorem pick_mem {H : List Res} : ∀ {is : List Nat} {H' : List Res}, PickAt H is H' → ∀ q ∈ H', ∃ i ∈ is, H[i]? = some q
  | [], [], _, q, hq => by cases hq
  | i :: is, r :: rs, ⟨h, h'⟩, q, hq => by
    rcases List.mem_cons.1 hq with e | e
    · subst e; exact ⟨i, by simp, h⟩
    · obtain ⟨j, hj, hq⟩ := pick_mem h' q e
      exact ⟨j, List.mem_cons_of_mem _ hj, hq⟩
  | [], _ :: _, h, _, _ => h.elim
  | _ :: _, [], h, _, _ => h.elim

theorem pick_nodup {H : List Res} (h : (H.flatMap Res.blk).Nodup) : ∀ {is : List Nat} {H' : List Res}, is.Nodup → PickAt H is H' → (H'.flatMap Res.blk).Nodup
  | [], [], _, _ => by simp
  | i :: is, r :: rs, hn, ⟨hi, h'⟩ => by
    rw [List.nodup_cons] at hn
    rw [List.flatMap_cons, List.nodup_append]
    refine ⟨?_, pick_nodup h hn.2 h', fun b hb c hc e => ?_⟩
    · have hm := List.mem_of_getElem? hi
      have : (r.blk).Sublist (H.flatMap Res.blk) := by
        obtain ⟨l1, l2, rfl⟩ := List.append_of_mem hm
        rw [List.flatMap_append, List.flatMap_cons]
        exact (List.sublist_append_left _ _).trans (List.sublist_append_right _ _)
      exact this.nodup h
    · subst e
      obtain ⟨q, hq, hbq⟩ := List.mem_flatMap.1 hc
      obtain ⟨j, hj, hjq⟩ := pick_mem h' q hq
      have := nodup_unique h hi hjq hb hbq
      subst this
      exact hn.1 hj
  | [], _ :: _, _, h => h.elim
  | _ :: _, [], _, h => h.elim

section
variable {E : Env} {P : Program} {s : St}

theorem SymAt.pick {a : Act} {w : World} {U : Nat → Prop} (h : SymAt E s a w U) {L' : List (Nat × SV)} {H' : List Res} (is : List Nat) (hL : Sub L' s.L) (hn : is.Nodup) (hp : PickAt s.H is H') : SymAt E { s with L := L', H := H' } a w U :=
  have hmem : ∀ q ∈ H', q ∈ s.H := fun q hq => by
    obtain ⟨i, _, hi⟩ := pick_mem hp q hq
    exact List.mem_of_getElem? hi
  { size := h.size, defers := h.defers
    slot := fun k x hk => h.slot k x (hL.look hk)
    own := fun q hq => h.own q (hmem q hq)
    nodup := pick_nodup h.nodup hn hp
    apart := fun q hq => h.apart q (hmem q hq)
    base := fun q hq => h.base q (hmem q hq)
    lt := h.lt, from0 := h.from0, to0 := h.to0, ext := h.ext, glob := h.glob }

theorem sym_pick {a : Act} {w : World} (h : Sym E s a w) {L' : List (Nat × SV)} {H' : List Res} (is : List Nat) (hL : Sub L' s.L) (hn : is.Nodup) (hp : PickAt s.H is H') : Sym E { s with L := L', H := H' } a w := by
  obtain ⟨U, h⟩ := h
  exact ⟨U, h.pick is hL hn hp⟩
theorem tx_pick {K' : Act → World → Prop} {L' : List (Nat × SV)} {H' : List Res} (is : List Nat) (hL : Sub L' s.L) (hn : is.Nodup) (hp : PickAt s.H is H') (k : TX E K' { s with L := L', H := H' }) : TX E K' s :=
  fun a w hs => k a w (sym_pick hs is hL hn hp)
theorem pick_nil {H : List Res} : PickAt H [] [] := trivial
theorem pick_cons {H : List Res} {i : Nat} {is : List Nat} {r : Res} {rs : List Res} (h : H[i]? = some r) (h' : PickAt H is rs) : PickAt H (i :: is) (r :: rs) := ⟨h, h'⟩

/-! #### loops with values that are not told -/
variable {Q : Exit → Act → World → Prop}
def Zg (E : Env) (e0 : Exit) {Gh : Type} (S : Gh → St) (e : Exit) (a : Act) (w : World) : Prop := e = e0 ∧ ∃ gh, Sym E (S gh) a w
theorem zg_out {e0 : Exit} {Gh : Type} {S : Gh → St} (h : ∀ gh, TX E (Q e0) (S gh)) : ∀ e a w, Zg E e0 S e a w → Q e a w := fun e a w ⟨he, gh, hs⟩ => he ▸ h gh a w hs
theorem cx_loopg {c : Code} {X Y Gh : Type} {F : Nat → X → Option Y} {G : Nat → (X → Option Y) → X → Option Y} {k : Nat} {x : X} {gh : Gh} {y : Y} (J : X → Gh → St) (Z : Y → Exit → Act → World → Prop)
    (h0 : ∀ x, F 0 x = none) (hG : ∀ k x, F (k + 1) x = G k (F k) x)
    (body : ∀ k (R : X → Option Y) (K : Y → Act → World → Prop), (∀ x gh y, R x = some y → TX E (K y) (J x gh)) → ∀ x gh y, G k R x = some y → CX E P c (Exit.then (K y) (Z y)) (J x gh))
    (hy : F k x = some y) (hs : TX E (fun a w => Sym E (J x gh) a w) s) (hz : ∀ e a w, Z y e a w → Q e a w) : CX E P (.loop c) Q s :=
  by
  have key : ∀ k x gh y, F k x = some y → TX E (LoopIn P c (Z y)) (J x gh) := by
    intro k
    induction k with
    | zero => intro x gh y h; rw [h0] at h; cases h
    | succ k ih =>
      intro x gh y h a w hs
      exact loopIn_round (body k (F k) (fun y => LoopIn P c (Z y)) (fun x gh y h => ih x gh y h) x gh y (by rw [← hG]; exact h) a w hs)
  intro a w h
  exact wp_mono (loopIn_loop (key k x gh y hy a w (hs a w h))) hz

theorem tx_zend {e0 : Exit} {Gh : Type} {S : Gh → St} (gh : Gh) {L' : List (Nat × SV)} {H' : List Res} (hS : S gh = { s with L := L', H := H' }) (is : List Nat) (hL : Sub L' s.L) (hn : is.Nodup) (hp : PickAt s.H is H') : TX E (Zg E e0 S e0) s :=
  fun a w hs => ⟨rfl, gh, hS ▸ sym_pick hs is hL hn hp⟩
theorem tx_to {S : St} {L' : List (Nat × SV)} {H' : List Res} (hS : S = { s with L := L', H := H' }) (is : List Nat) (hL : Sub L' s.L) (hn : is.Nodup) (hp : PickAt s.H is H') : TX E (fun a w => Sym E S a w) s :=
  fun a w hs => hS ▸ sym_pick hs is hL hn hp

/-! #### a row frozen where cells hold it -/
def Frz0 (v : Value) (x : SV) : SV → SV → Prop := fun y z => y = z ∨ (y = Vl v ∧ z = x) ∨ ∃ t, y = If t (Vl v) ∧ z = If t x
def Frz (v : Value) (x : SV) : SV → SV → Prop := fun y z => Frz0 v x y z ∨ ∃ l m, y = Ag l ∧ z = Ag m ∧ All2 (Frz0 v x) l m
def FrzL (v : Value) (x : SV) : List SV → List SV → Prop := fun l m => All2 (Frz v x) l m
def FrzS (v : Value) (x : SV) : List (Nat × SV) → List (Nat × SV) → Prop := fun l m => All2 (fun p q => p.1 = q.1 ∧ Frz v x p.2 q.2) l m
def FrzH (v : Value) (x : SV) : List Res → List Res → Prop := fun l m => All2 (fun p q => p.v = q.v ∧ p.E = q.E ∧ p.row = q.row ∧ FrzL v x p.cs q.cs) l m

theorem row_sl {α : Type} {K : Kd α} {e : TypeId} {v : Value} {xs : List α} {w : World} {U : Nat → Prop} (hK : 0 < K.size) (h : (Rw K e v xs).own w U) (hb : ∀ b ∈ blkOf v, U b) : (Sl K xs).R w U v := by
  rcases own_rw hK h with ⟨h1, rfl⟩ | ⟨b, cap, vs, sp, h1, h2, h3, h4, h5⟩
  · exact ⟨none, 0, h1, by simp, fun h => absurd rfl h⟩
  · refine ⟨some ⟨b, 0, none⟩, cap, h1, h5, fun _ => ⟨b, 0, rfl, hb b (by rw [h1]; simp [blkOf]), fun i x hi j y hj => ?_⟩⟩
    obtain ⟨z, hz, hR⟩ := h3.get (flatMap_get K hi hj)
    refine ⟨z, ?_, hR⟩
    have hlt : i * K.size + j < vs.length := (List.getElem?_eq_some_iff.1 hz).1
    simp [World.cell?, h2, List.getElem?_append_left hlt, hz]

theorem frz_look {v : Value} {x : SV} : ∀ {l m : List (Nat × SV)}, FrzS v x l m → ∀ {k : Nat} {z : SV}, look m k = some z → ∃ y, look l k = some y ∧ Frz v x y z
  | [], [], _, k, z, h => by simp [look] at h
  | (i, y) :: l, (j, z') :: m, ⟨⟨e, hf⟩, h'⟩, k, z, h => by
    simp only at e
    subst e
    simp only [look] at h ⊢
    cases hb : Nat.beq i k with
    | true => rw [hb] at h; simp at h; subst h; exact ⟨y, by simp, hf⟩
    | false => rw [hb] at h; simpa using frz_look h' h
  | [], _ :: _, h, _, _, _ => h.elim
  | _ :: _, [], h, _, _, _ => h.elim

theorem SymAt.frzx {a : Act} {w : World} {U : Nat → Prop} (h : SymAt E s a w U) {i : Nat} {r : Res} {v : Value} {x : SV} (hv : r.v = v) (hi : s.H[i]? = some r) (hx : ∀ U' : Nat → Prop, r.own w U' → (∀ b ∈ r.blk, U' b) → x.R w U' v ∧ v.oneCell' = true) {L' : List (Nat × SV)} {H' : List Res}
    (hL : FrzS v x s.L L') (hH : FrzH v x (s.H.eraseIdx i) H') : ∃ U', (∀ k, U k → U' k) ∧ SymAt E { s with L := L', H := H' } a w U' := by
  obtain ⟨U', h', hU, hb, ho⟩ := h.freeze hi
  obtain ⟨hsl, hone⟩ := hx U' ho hb
  have hF : ∀ {y z : SV}, Frz v x y z → ∀ {u : Value}, y.R w U' u → z.R w U' u := by
    have h0 : ∀ {y z : SV}, Frz0 v x y z → ∀ {u : Value}, y.R w U' u → z.R w U' u := by
      intro y z hf u hu
      rcases hf with e | ⟨e1, e2⟩ | ⟨t, e1, e2⟩
      · rwa [← e]
      · subst e1; subst e2
        have : u = v := hu
        rw [this]; exact hsl
      · subst e1; subst e2
        obtain ⟨u', rfl, hu⟩ := hu
        have : u' = v := hu
        exact ⟨u', rfl, by rw [this]; exact hsl⟩
    intro y z hf u hu
    rcases hf with hf | ⟨l, m, rfl, rfl, hlm⟩
    · exact h0 hf hu
    · obtain ⟨vs, e, hv⟩ := hu
      refine ⟨vs, e, ?_⟩
      have key : ∀ {l m : List SV} {vs : List Value}, All2 (Frz0 v x) l m → All2 (fun s v => s.C w U' v) l vs → All2 (fun s v => s.C w U' v) m vs := by
        intro l
        induction l with
        | nil => intro m vs hf hv; cases m with | nil => exact hv | cons _ _ => exact hf.elim
        | cons y l ih =>
          intro m vs hf hv
          cases m with
          | nil => exact hf.elim
          | cons z m =>
            cases vs with
            | nil => exact hv.elim
            | cons u vs => exact ⟨⟨h0 hf.1 hv.1.1, hv.1.2⟩, ih hf.2 hv.2⟩
      exact key hlm hv
  have hcs : ∀ {l m : List SV} {vs : List Value}, FrzL v x l m → All2 (fun s v => s.C w U' v) l vs → All2 (fun s v => s.C w U' v) m vs := by
    intro l
    induction l with
    | nil => intro m vs hf hv; cases m with | nil => exact hv | cons _ _ => exact hf.elim
    | cons y l ih =>
      intro m vs hf hv
      cases m with
      | nil => exact hf.elim
      | cons z m =>
        cases vs with
        | nil => exact hv.elim
        | cons u vs => exact ⟨⟨hF hf.1 hv.1.1, hv.1.2⟩, ih hf.2 hv.2⟩
  have hblk : ∀ {l m : List Res}, FrzH v x l m → l.flatMap Res.blk = m.flatMap Res.blk ∧ ∀ q ∈ m, ∃ p ∈ l, p.blk = q.blk ∧ (p.own w U' → q.own w U') := by
    intro l
    induction l with
    | nil => intro m hf; cases m with | nil => exact ⟨rfl, by simp⟩ | cons _ _ => exact hf.elim
    | cons p l ih =>
      intro m hf
      cases m with
      | nil => exact hf.elim
      | cons q m =>
        obtain ⟨⟨e1, e2, e3, e4⟩, hf'⟩ := hf
        obtain ⟨i1, i2⟩ := ih hf'
        have hpq : p.blk = q.blk := by simp [Res.blk, e1]
        refine ⟨by rw [List.flatMap_cons, List.flatMap_cons, i1, hpq], fun x hx => ?_⟩
        rcases List.mem_cons.1 hx with e | e
        · subst e
          refine ⟨p, by simp, hpq, fun ho => ?_⟩
          unfold Res.own at ho ⊢
          have hlen : p.cs.length = x.cs.length := e4.length
          rw [← e1, ← e2, ← e3]
          split
          · rename_i hr
            rw [hr] at ho
            obtain ⟨b, vs, h1, h2, h3⟩ := ho
            exact ⟨b, vs, h1, h2, hcs e4 h3⟩
          · rename_i sz hr
            rw [hr] at ho
            rcases ho with ⟨h1, h2⟩ | ⟨b, n, cap, vs, sp, h1, h2, h3, h4, h5, h6⟩
            · exact .inl ⟨h1, List.length_eq_zero_iff.1 (by rw [← hlen, h2]; rfl)⟩
            · exact .inr ⟨b, n, cap, vs, sp, h1, h2, hcs e4 h3, by rw [← hlen]; exact h4, h5, h6⟩
        · obtain ⟨p', hp', h'⟩ := i2 x e
          exact ⟨p', List.mem_cons_of_mem _ hp', h'⟩
  obtain ⟨hb1, hb2⟩ := hblk hH
  exact ⟨U', hU, {
    size := h'.size, defers := h'.defers
    slot := fun k z hk => by
      obtain ⟨y, hy, hf⟩ := frz_look hL hk
      obtain ⟨u, hu, hR⟩ := h'.slot k y hy
      exact ⟨u, hu, hF hf hR⟩
    own := fun q hq => by
      obtain ⟨p, hp, _, ho⟩ := hb2 q hq
      exact ho (h'.own p hp)
    nodup := by
      show (H'.flatMap Res.blk).Nodup
      rw [← hb1]; exact h'.nodup
    apart := fun q hq b hbq => by
      obtain ⟨p, hp, e, _⟩ := hb2 q hq
      exact h'.apart p hp b (by rw [e]; exact hbq)
    base := fun q hq b hbq => by
      obtain ⟨p, hp, e, _⟩ := hb2 q hq
      exact h'.base p hp b (by rw [e]; exact hbq)
    lt := h'.lt, from0 := h'.from0, to0 := h'.to0, ext := h'.ext, glob := h'.glob }⟩
theorem SymAt.frz {a : Act} {w : World} {U : Nat → Prop} (h : SymAt E s a w U) {i : Nat} {α : Type} {K : Kd α} {e : TypeId} {v : Value} {xs : List α} (hK : 0 < K.size) (hi : s.H[i]? = some (Rw K e v xs)) {L' : List (Nat × SV)} {H' : List Res}
    (hL : FrzS v (Sl K xs) s.L L') (hH : FrzH v (Sl K xs) (s.H.eraseIdx i) H') : ∃ U', (∀ k, U k → U' k) ∧ SymAt E { s with L := L', H := H' } a w U' :=
  h.frzx rfl hi (fun U' ho hb => by
    have hsl : (Sl K xs).R w U' v := row_sl hK ho hb
    refine ⟨hsl, ?_⟩
    obtain ⟨a, c, e, _⟩ := hsl
    rw [e]; rfl) hL hH
theorem frz_same {v : Value} {x y : SV} : Frz v x y y := .inl (.inl rfl)
theorem frz_it {v : Value} {x : SV} : Frz v x (Vl v) x := .inl (.inr (.inl ⟨rfl, rfl⟩))
theorem frzL_refl {v : Value} {x : SV} : ∀ {l : List SV}, FrzL v x l l
  | [] => trivial
  | _ :: _ => ⟨frz_same, frzL_refl⟩
theorem frzS_refl {v : Value} {x : SV} : ∀ {l : List (Nat × SV)}, FrzS v x l l
  | [] => trivial
  | _ :: _ => ⟨⟨rfl, frz_same⟩, frzS_refl⟩
theorem frzH_refl {v : Value} {x : SV} : ∀ {l : List Res}, FrzH v x l l
  | [] => trivial
  | _ :: _ => ⟨⟨rfl, rfl, rfl, frzL_refl⟩, frzH_refl⟩
theorem frzH_cons {v : Value} {x : SV} {p q : Res} {l m : List Res} (h1 : p.v = q.v) (h2 : p.E = q.E) (h3 : p.row = q.row) (h4 : FrzL v x p.cs q.cs) (h : FrzH v x l m) : FrzH v x (p :: l) (q :: m) := ⟨⟨h1, h2, h3, h4⟩, h⟩
theorem frzL_cons {v : Value} {x y z : SV} {l m : List SV} (h : Frz v x y z) (h' : FrzL v x l m) : FrzL v x (y :: l) (z :: m) := ⟨h, h'⟩

def Idle (P : Program) (f n : Nat) : Prop := ∀ (vs : List Value) (w : World), vs.length = n → CallsD P f ⟨vs⟩ .returning w fun e u' w' => e = .returned (.tuple #[]) ∧ u' = .returning ∧ w' = w

theorem fnD_of {f : Nat} {fn : Func} {c : Code} {n : Nat} {A : List SV} {HA : List Res} {X : Type} {r : X → SV} {HR : X → List Res} (hf : P.funcs[f]? = some fn) (hb : fn.body = some c) (hn : fn.ntmps = n)
    (hle : Nat.ble A.length n = true) (h : ∀ E : Env, E.M = HA.flatMap Res.blk → CX E P c (bodyPostD P fn (PostE E r HR)) ⟨n, [], parL 0 A, HA⟩) : Fn P f A HA r HR :=
  fun w U args hA ho hnd hap hlt hg => by
    subst hn
    exact calls_of_wp_defers hf hb (h ⟨w, U, HA.flatMap Res.blk⟩ rfl _ _ (sym_enter (P := P) hA ho hnd hap hlt hg (Nat.le_of_ble_eq_true hle)))

theorem tx_leave {fn : Func} {R : Ending → World → Prop} {e : Exit} (he : e = .ret ∨ e = .normal) {f : Nat} {us : List Value} {n : Nat} {fn' : Func} (hD : s.D = [⟨.fn (.func f) ⟨us⟩, #[]⟩]) (hi : Idle P f n) (hul : us.length = n) (hf : P.funcs[f]? = some fn')
    (hn : (fn'.name == "runtime.NumGoroutine") = false) (hb : fn'.body.isNone = false) (h : TX E (bodyPost P fn R e) { s with D := [] }) : TX E (bodyPostD P fn R e) s := fun a w ⟨U, hs⟩ => by
  have h0 := h { a with defers := [] } w ⟨U, { size := hs.size, defers := rfl, slot := hs.slot, own := hs.own, nodup := hs.nodup, apart := hs.apart, base := hs.base, lt := hs.lt, from0 := hs.from0, to0 := hs.to0, ext := hs.ext, glob := hs.glob }⟩
  have hn' : ¬ fn'.name = "runtime.NumGoroutine" := by simpa using hn
  have hb' : ¬ fn'.body = none := fun e => by rw [e] at hb; cases hb
  have hinv : (invoke (.fn (.func f) ⟨us⟩) #[]).run P w = .ok (.enter f ⟨us⟩) w := by
    simp [invoke, callFunc, hf, hn', hb']
  have key : ∃ v, (results fn a.tmps).run P w = .ok v w ∧ R (.returned v) w := by
    rcases he with rfl | rfl
    · obtain ⟨_, v, h1, h2⟩ := h0; exact ⟨v, h1, h2⟩
    · obtain ⟨_, v, h1, h2⟩ := h0; exact ⟨v, h1, h2⟩
  have goal : Leaves P fn a.tmps R a.defers .returning w := by
    rw [hs.defers, hD]
    refine leaves_cons (by simp) hinv ((hi us w hul).mono ?_)
    rintro e' u' w' ⟨rfl, rfl, rfl⟩
    exact key
  rcases he with rfl | rfl
  · exact goal
  · exact goal

variable {dst : Option Tmp} {ty : TypeId} {pos : String} {af : Array Edge} {g : Option (Nat × Bool)}
theorem rd_mkfunc {f : Nat} {Xs : List Operand} {us : List Value} (hc : evs s.L Xs = some (us.map Vl)) : Rd P s ⟨dst, .makeFunc (.func f) #[] ⟨Xs⟩, ty, pos, af, g⟩ (Vl (.func (.func f) #[] ⟨us⟩)) := fun E a w U hs => by
  have h := all2_vl_eq _ _ (evs_all2 hs hc)
  refine ⟨_, rfl, fun w' _ => ?_⟩
  have : (⟨Xs⟩ : Array Operand).map a.eval = ⟨us⟩ := by
    rw [← h]; simp
  simp [execOp, Instr.makeFunc, this]
theorem ox_defer {X : Operand} {ts : Array TypeId} {f : Nat} {us : List Value} (hx : ev s.L X = some (Vl (.func (.func f) #[] ⟨us⟩))) (hd : dst = none) :
    OX E P ⟨dst, .defer { callee := .value X, args := #[], argTypes := ts }, ty, pos, af, g⟩ 0 (fun _ : Unit => { s with D := ⟨.fn (.func f) ⟨us⟩, #[]⟩ :: s.D }) s := fun Q a w U hs K k => by
  have e1 : a.eval X = .func (.func f) #[] ⟨us⟩ := look_ev hs hx
  unfold Oper.wp
  have hrun : (execOp a.eval ⟨dst, .defer { callee := .value X, args := #[], argTypes := ts }, ty, pos, af, g⟩).run P w = .ok (.defer ⟨.fn (.func f) ⟨us⟩, #[]⟩) w := by
    simp [execOp, resolve, e1, Deferred.ofValue]
  rw [hrun]
  show K ({ a with defers := _ :: a.defers }.put dst undef) w
  rw [hd]
  exact k () _ _ ⟨U, { size := hs.size, defers := by simp [Act.put, hs.defers], slot := hs.slot, own := hs.own, nodup := hs.nodup, apart := hs.apart, base := hs.base, lt := hs.lt, from0 := hs.from0, to0 := hs.to0, ext := hs.ext, glob := hs.glob }⟩ (fun _ => Ext.refl _ _) (fun h => by cases h)
end
end Go.Sx
