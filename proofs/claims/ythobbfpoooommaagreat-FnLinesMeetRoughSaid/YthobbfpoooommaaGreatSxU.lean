/-
  Steps of a walk over the symbolic state: panics, and closures that catch them. Ours; it knows no program.
-/
import Derived.Test.YthobbfpoooommaaGreatSxS
import Derived.Recover
import Derived.LaidEqlPtr
namespace Go.Sx
set_option linter.unusedVariables false
set_option linter.unusedSectionVars false
set_option linter.unusedSimpArgs false
variable [Gv]

section
variable {E : Env} {P : Program} {Q : Exit → Act → World → Prop} {s : St} {ops : Array Oper} {rest : List Oper} {o : Oper} {dst : Option Tmp} {ty : TypeId} {pos : String} {af : Array Edge} {g : Option (Nat × Bool)}

abbrev pch (tx : TypeId) (vx : Value) : List PanicEntry := [{ v := .iface tx vx, recovered := false }]
def PanE (E : Env) (e : Ending) (w' : World) : Prop := ∃ tx vx, e = .panicked (pch tx vx) ∧ Ext E.M E.w0 w'
def Fx (P : Program) (f : Nat) (A : List SV) (HA : List Res) {X : Type} (pan : Bool) (r : X → SV) (HR : X → List Res) : Prop :=
  ∀ (w : World) (U : Nat → Prop) (args : List Value), All2 (fun s v => s.R w U v) A args → (∀ q ∈ HA, q.own w U) → (HA.flatMap Res.blk).Nodup → (∀ q ∈ HA, ∀ b ∈ q.blk, ¬ U b) →
    (∀ k, U k → k < w.heap.size) → GOk w U → Calls P f args.toArray w (bif pan then PanE ⟨w, U, HA.flatMap Res.blk⟩ else PostE ⟨w, U, HA.flatMap Res.blk⟩ r HR)
theorem Fx.fn {f : Nat} {A : List SV} {HA : List Res} {X : Type} {r : X → SV} {HR : X → List Res} (h : Fx P f A HA false r HR) : Fn P f A HA r HR := h
def Pan (P : Program) (s : St) (o : Oper) : Prop := ∀ E a w U, SymAt E s a w U → ∃ tx vx w', (execOp a.eval o).run P w = .halt (.panic (.iface tx vx)) w' ∧ Ext [] w w'
def PanQ (E : Env) (Q : Exit → Act → World → Prop) (s : St) : Prop := ∀ tx vx, TX E (Q (.panic (pch tx vx))) s
def Catch (P : Program) (f : Nat) (A : List SV) (HA HR : List Res) : Prop :=
  ∀ (w : World) (U : Nat → Prop) (args : List Value) (tx : TypeId) (vx : Value), All2 (fun s v => s.R w U v) A args → (∀ q ∈ HA, q.own w U) → (HA.flatMap Res.blk).Nodup → (∀ q ∈ HA, ∀ b ∈ q.blk, ¬ U b) →
    (∀ k, U k → k < w.heap.size) → GOk w U → CallsD P f args.toArray (.panicking (pch tx vx)) w fun e u' w' => settle u' = .returning ∧ PostE ⟨w, U, HA.flatMap Res.blk⟩ (fun _ : Unit => Vl (.tuple #[])) (fun _ => HR) e w'
def Pf (v : Value) (m : Nat) : SV := ⟨fun _ _ u => ∃ a n c, v = .slice a n c ∧ u = .slice a m c, fun _ _ h => h⟩
def ovw {α : Type} (xs : List α) (m : Nat) (ys : List α) : Option (List α) := if m + ys.length ≤ xs.length then some (xs.take m ++ ys ++ xs.drop (m + ys.length)) else none
def Cs {α : Type} (P : Program) (s : St) (Y : Operand) (K : Kd α) (ys : List α) : Prop := ∀ E a w U, SymAt E s a w U → ∃ (sb : Option Addr) (sc : Nat), a.eval Y = .slice sb ys.length sc ∧
  ∀ m : Nat, ∃ us : List Value, (Builtin.firstCells K.size (Nat.min ys.length m) (.slice sb ys.length sc)).run P w = .ok us.toArray w ∧ All2 (fun s v => s.C w U v) ((ys.take m).flatMap K.enc) us
end
/-! #### math.Min, math.Max as the machine has them -/
def mpick (neg : Bool) (win : Ordering) (x y : Nat) : Nat :=
  let a := FloatKind.f64.decode x
  let b := FloatKind.f64.decode y
  if a == .infinity neg || b == .infinity neg then FloatKind.f64.encode (.infinity neg)
  else if a.isNaN || b.isNaN then 0x7FF8000000000001
  else if a.isZero && b.isZero then (if a.neg == neg then x else y)
  else if a.order b == some win then x else y
def KV : Kd SV := ⟨1, fun s => [s], fun _ => rfl⟩
def Kn : Kd Unit := Kd.one fun _ => Vl (.slice none 0 0)
def cel {α : Type} (K : Kd α) (xs : List (List α)) (i : Nat) : List SV := (xs.take i).map (Sl K) ++ List.replicate (xs.length - i) (Vl (.slice none 0 0))
def Bany (p : Prop) : SV := ⟨fun _ _ v => ∃ b : Bool, v = .bool b ∧ (b = true → p), fun _ _ h => h⟩
section
variable {E : Env} {P : Program} {Q : Exit → Act → World → Prop} {s : St} {dst : Option Tmp} {ty : TypeId} {pos : String} {af : Array Edge} {g : Option (Nat × Bool)}
theorem inv_any5 {t : TypeId} {name : String} {f : Nat} {x : SV} (h : ∀ v a b c d e w', (callMethod (.iface t v) name #[a, b, c, d, e]).run P w' = .ok (.enter f #[v, a, b, c, d, e]) w') : Inv P t name 5 f x x := fun w U v hv =>
  ⟨v, hv, fun l hl w' => by
    obtain _ | ⟨a, _ | ⟨b, _ | ⟨c, _ | ⟨d, _ | ⟨e, _ | ⟨g, l⟩⟩⟩⟩⟩⟩ := l <;> simp at hl
    exact h v a b c d e w'⟩
/-! #### a list whose memory ends where it ends -/
def Sc {α : Type} (K : Kd α) (xs : List α) : SV := ⟨fun w U v => (∃ a, v = .slice a xs.length xs.length) ∧ (Sl K xs).R w U v, fun h1 h2 ⟨h, h'⟩ => ⟨h, (Sl K xs).mono h1 h2 h'⟩⟩
theorem rd_cutm {α : Type} {K : Kd α} {xs ys : List α} {X Hi Mx : Operand} {k2 k3 : IntKind} {hi : Int} {t e : TypeId} {z : Option Value} {bytes : Nat} (hx : ev s.L X = some (Sl K xs)) (hh : ev s.L Hi = some (Vl (.int k2 hi))) (hm : ev s.L Mx = some (Vl (.int k3 hi)))
    (hc : cut xs 0 hi = some ys) (ht : P.underlying t = some (.slice e)) (he : (P.info? e).map (fun i => (i.zero, i.size, i.bytes)) = some (z, K.size, bytes)) : Rd P s ⟨dst, .slice t X none (some Hi) (some Mx), ty, pos, af, g⟩ (Sc K ys) := fun E a w U hs => by
  unfold cut at hc
  split at hc
  case isFalse => cases hc
  rename_i hb
  cases hc
  obtain ⟨n, rfl⟩ := Int.eq_ofNat_of_zero_le hb.2.1
  simp only [Int.toNat_natCast]
  have hR := look_ev hs hx
  obtain ⟨b, c, e1, hcap, _⟩ := look_ev hs hx
  rw [e1] at hR
  have e3 : a.eval Hi = .int k2 (n : Int) := look_ev hs hh
  have e4 : a.eval Mx = .int k3 (n : Int) := look_ev hs hm
  have hlen : ((xs.take n).drop 0).length = n := by simp; omega
  cases hinfo : P.info? e with
  | none => rw [hinfo] at he; simp at he
  | some inf =>
    rw [hinfo] at he; simp at he
    have h5 : (n : Int) ≤ (c : Int) := by omega
    have key : (Sl K ((xs.take n).drop 0)).R w U (.slice (if n = 0 then b else b.map (·.add (0 * K.size))) n n) := by
      obtain ⟨a', c', e2, _, hx'⟩ := hR
      simp at e2
      obtain ⟨rfl, rfl⟩ := e2
      refine ⟨_, n, by rw [hlen], by rw [hlen]; exact Nat.le_refl _, fun hne => ?_⟩
      have hxs : xs ≠ [] := by rintro rfl; simp at hne
      have h0 : n ≠ 0 := by
        intro h0
        rw [h0] at hne
        simp at hne
      obtain ⟨b', off, rfl, hb', hx''⟩ := hx' hxs
      refine ⟨b', off, by simp [h0, Addr.add], hb', fun i x hi' => ?_⟩
      refine hx'' i x ?_
      simp only [List.drop_zero, List.getElem?_take] at hi'
      split at hi'
      · exact hi'
      · cases hi'
    refine ⟨_, ⟨⟨_, by show _ = Value.slice _ ((xs.take n).drop 0).length ((xs.take n).drop 0).length; rw [hlen]⟩, key⟩, fun w' _ => ?_⟩
    simp [execOp, Instr.sliceAt, Instr.slice, e1, e3, e4, run_underlying ht, Instr.sliceBounds, run_sliceBound, h5, sizeOf, typeInfo, hinfo, he.2.1]
theorem sl_cells {α : Type} {K : Kd α} {xs : List α} {w : World} {U : Nat → Prop} {a : Option Addr} {c : Nat} (h : (Sl K xs).R w U (.slice a xs.length c)) (hne : xs ≠ []) :
    ∃ b off vs, a = some ⟨b, off, none⟩ ∧ vs.length = xs.length * K.size ∧ All2 (fun s v => s.C w U v) (xs.flatMap K.enc) vs ∧ ∀ j v, vs[j]? = some v → w.cell? ⟨b, off + j, none⟩ = some v := by
  obtain ⟨a', c', e, _, hx⟩ := h
  simp at e
  obtain ⟨rfl, rfl⟩ := e
  obtain ⟨b, off, rfl, hb, hx'⟩ := hx hne
  have hc := cells_flat (K := K) (w := w) (U := U) (b := b) (xs := xs) (off := off) hx'
  have key : ∀ (l : List SV) (off : Nat), Cells w U b off l → ∃ vs, All2 (fun s v => s.C w U v) l vs ∧ ∀ j v, vs[j]? = some v → w.cell? ⟨b, off + j, none⟩ = some v := by
    intro l
    induction l with
    | nil => intro off _; exact ⟨[], trivial, fun j v h => by simp at h⟩
    | cons s l ih =>
      intro off h
      obtain ⟨v, hv, hs⟩ := h 0 s rfl
      obtain ⟨vs, h1, h2⟩ := ih (off + 1) (fun j s' hj => by
        have := h (j + 1) s' (by simpa using hj)
        rwa [show off + 1 + j = off + (j + 1) from by omega])
      refine ⟨v :: vs, ⟨hs, h1⟩, fun j u hj => ?_⟩
      cases j with
      | zero => simp at hj; subst hj; exact hv
      | succ j =>
        have := h2 j u (by simpa using hj)
        rwa [show off + (j + 1) = off + 1 + j from by omega]
  obtain ⟨vs, h1, h2⟩ := key _ _ hc
  exact ⟨b, off, vs, rfl, by rw [← h1.length, flatMap_length], h1, h2⟩
def apdc {α : Type} (b : Nat) (xs ys : List α) : Option (List α) := if ys.length = 0 then none else apd b xs ys
theorem ox_appendc {d : Nat} {t tx e : TypeId} {X Y : Operand} {α : Type} {K : Kd α} {xs ys zs : List α} {zv : Value} {bytes : Nat} (hx : ev s.L X = some (Sc K xs)) (hy : Sr P s tx Y K ys)
    (ha : apdc bytes xs ys = some zs) (ht : P.underlying t = some (.slice e)) (hz : (P.info? e).map (fun i => (i.zero, i.size, i.bytes)) = some (some zv, K.size, bytes)) (hzs : zv.cells.size = K.size) (hd : dst = some d) (hn : Nat.ble (d + 1) s.n = true) :
    OX E P ⟨dst, .call { callee := .builtin .append, args := #[X, Y], argTypes := #[t, tx] }, ty, pos, af, g⟩ 1 (fun g : Gs => { s with L := (d, Vl (Vs g)) :: s.L, H := Rw K e (Vs g) zs :: s.H }) s := fun Q a w U hs K' k => by
  obtain ⟨⟨base, hbase⟩, hR⟩ := look_ev hs hx
  obtain ⟨news, hsrc, hnew⟩ := hy E a w U hs
  unfold apdc at ha
  split at ha
  case isTrue => cases ha
  rename_i hne
  unfold apd at ha
  split at ha
  case isFalse => cases ha
  rename_i hbd
  cases ha
  obtain ⟨hbd1, hbd2⟩ := hbd
  cases hinfo : P.info? e with
  | none => rw [hinfo] at hz; simp at hz
  | some inf =>
    rw [hinfo] at hz; simp at hz
    obtain ⟨hz1, hz2, hz3⟩ := hz
    have hlnew : news.length = ys.length * K.size := by rw [hsrc.newsLen]
    have hUw : ∀ k, U k → k < w.heap.size := hs.lt
    have hlt : xs.length < xs.length + ys.length := by omega
    have holds : ∃ olds, (Builtin.firstCells inf.size xs.length (.slice base xs.length xs.length)).run P w.drew = .ok olds.toArray w.drew ∧ All2 (fun s v => s.C w U v) (xs.flatMap K.enc) olds := by
      by_cases hxs : xs = []
      · subst hxs
        refine ⟨[], ?_, trivial⟩
        cases base with
        | none => exact run_firstCells_none (P := P) (w := w.drew) inf.size 0 0 0
        | some b => exact run_firstCells_some (P := P) w.drew inf.size 0 b 0 0 [] (by simp) (fun j v h => by simp at h)
      · rw [hbase] at hR
        obtain ⟨b, off, vs, rfl, h1, h2, h3⟩ := sl_cells hR hxs
        exact ⟨vs, run_firstCells_some (P := P) w.drew inf.size xs.length _ _ _ vs (by rw [h1, hz2]) (fun j v hj => by
          rw [addr_add]; exact h3 j v hj), h2⟩
    obtain ⟨olds, hf, hold⟩ := holds
    have hfit : Builtin.nextslicecap (xs.length + ys.length) xs.length * inf.bytes ≤ 281474976710656 := growslice_fits hlt (by rw [hz3]; exact hbd1)
    have hrun := run_append_grow_src (P := P) w t tx ty e inf zv ht hinfo hz1 base xs.length xs.length olds hf (a.eval Y) ys.length news (by rw [hz2]; exact hsrc) hlt (by omega) hfit
    unfold Oper.wp
    have hexec : ∀ {u : Value} {w' : World}, (Builtin.append_ #[t, tx] ty #[.slice base xs.length xs.length, a.eval Y]).run P w = .ok u w' →
        (execOp a.eval ⟨dst, .call { callee := .builtin .append, args := #[X, Y], argTypes := #[t, tx] }, ty, pos, af, g⟩).run P w = .ok (.value u) w' := by
      intro u w' h
      simp [execOp, resolve, invoke, builtin, hbase, h]
    rw [hexec hrun]
    show K' (a.put dst _) _
    rw [hd]
    have hge := grownCap_ge w (xs.length + ys.length) xs.length e
    have hlo : olds.length = xs.length * K.size := by rw [← hold.length, flatMap_length]
    have hsd : SymAt E s a w.drew U := hs.world (fun _ _ => rfl) (Nat.le_refl _) rfl rfl rfl
    have hsw := hsd.own_new (Rw K e (.slice (some ⟨w.heap.size, 0, none⟩) (xs.length + ys.length) (grownCap w (xs.length + ys.length) xs.length e)) (xs ++ ys))
      ((olds ++ news).toArray ++ Builtin.zeroCells zv.cells (grownCap w (xs.length + ys.length) xs.length e - (xs.length + ys.length))) e (by simp [rw_blk, blkOf])
      (.inr ⟨w.heap.size, xs.length + ys.length, grownCap w (xs.length + ys.length) xs.length e, olds ++ news, (Builtin.zeroCells zv.cells (grownCap w (xs.length + ys.length) xs.length e - (xs.length + ys.length))).toList, rfl, by
          simp only [show w.drew.heap = w.heap from rfl, Array.getElem?_push, if_true]
          show some (Obj.cells _ _ _) = some (Obj.cells _ _ _)
          congr 2
          apply Array.ext'
          simp, by
          show All2 _ ((xs ++ ys).flatMap K.enc) _
          rw [List.flatMap_append]
          exact all2_new (w := w.drew) _ hUw (all2c_mono (w := w) (fun _ h => h) (fun _ _ => rfl) (hold.append hnew)), by
          show ((xs ++ ys).flatMap K.enc).length = _
          rw [flatMap_length, List.length_append], by
          simp only [List.length_append, Array.length_toList, size_zeroCells, hzs, hlo, hlnew]
          rw [← Nat.add_mul, ← Nat.add_mul]
          congr 1
          omega, hge⟩)
    exact k (some ⟨w.heap.size, 0, none⟩, xs.length + ys.length, grownCap w (xs.length + ys.length) xs.length e) _ _ ⟨U, hsw.put hn rfl⟩ (fun h => by cases h) (fun _ => hs.varExt (Ext.trans (b := w.drew) ⟨rfl, rfl, rfl, Nat.le_refl _, fun _ _ _ => rfl⟩ (ext_push w.drew _)))
theorem tx_ret4 {fn : Func} {X : Type} {r : X → SV} {HR : X → List Res} {rv rv' rv'' rv3 : ResultVar} {y z z' z3 : SV} (hres : fn.results = #[rv, rv', rv'', rv3]) (hD : s.D = []) (x : X) (h : Rv P s rv y) (h' : Rv P s rv' z) (h'' : Rv P s rv'' z') (h3 : Rv P s rv3 z3) (hx : r x = Tu [y, z, z', z3]) (hH : Keep (HR x) s.H) :
    TX E (bodyPost P fn (PostE E r HR) .ret) s := fun a w ⟨U, hs⟩ => by
  obtain ⟨v, hv, hrun⟩ := h E a w U hs
  obtain ⟨u, hu, hrun'⟩ := h' E a w U hs
  obtain ⟨u', hu', hrun''⟩ := h'' E a w U hs
  obtain ⟨u3, hu3, hrun3⟩ := h3 E a w U hs
  refine bodyPost_ret (v := .tuple #[v, u, u', u3]) ?_ (by rw [hs.defers, hD]) (post_of_sym hs x (by rw [hx]; exact ⟨[v, u, u', u3], rfl, hv, hu, hu', hu3, trivial⟩) hH)
  have : (results fn a.tmps).run P w = ((resOf a rv).run P w).andThen fun v w => ((resOf a rv').run P w).andThen fun u w => ((resOf a rv'').run P w).andThen fun u' w => ((resOf a rv3).run P w).andThen fun u3 w => .ok (.tuple #[v, u, u', u3]) w := by
    cases rv <;> cases rv' <;> cases rv'' <;> cases rv3 <;> simp [results, hres, resOf, andThen_assoc]
  rw [this, hrun]; simp [hrun', hrun'', hrun3]
theorem rd_ptr_ne {X Y : Operand} {tx te t2 : TypeId} {i j : Nat} {r r' : Res} {p q : Addr} (hx : ev s.L X = some (Vl (.pointer (some p)))) (hy : ev s.L Y = some (Vl (.pointer (some q)))) (hi : AtRes s i r p p 0) (hj : AtRes s j r' q q 0) (hij : Nat.beq i j = false)
    (ht : P.underlying tx = some (.pointer te)) (hz : (P.info? te).map (fun i => Nat.ble 1 i.size) = some true) : Rd P s ⟨dst, .binOp .eql tx X Y t2, ty, pos, af, g⟩ (Vl (.bool false)) := fun E a w U hs => by
  have e1 : a.eval X = .pointer (some p) := look_ev hs hx
  have e2 : a.eval Y = .pointer (some q) := look_ev hs hy
  obtain ⟨b, vs, rfl, _, hb, _, hl⟩ := atRes_spec hs hi
  obtain ⟨b', vs', rfl, _, hb', _, hl'⟩ := atRes_spec hs hj
  have hne : b ≠ b' := by
    intro e
    subst e
    have hij' : i ≠ j := fun e => by rw [e] at hij; simp at hij
    have hnd := hs.nodup
    obtain ⟨hi1, hi2, _, _⟩ := hi
    obtain ⟨hj1, hj2, _, _⟩ := hj
    have key : ∀ (l : List Res) (i j : Nat), i ≠ j → l[i]? = some r → l[j]? = some r' → ¬ (l.flatMap Res.blk).Nodup := by
      intro l
      induction l with
      | nil => intro i j _ h; simp at h
      | cons x l ih =>
        intro i j hij h h' hn
        rw [List.flatMap_cons, List.nodup_append] at hn
        cases i with
        | zero =>
          cases j with
          | zero => exact hij rfl
          | succ j =>
            simp at h h'
            subst h
            exact hn.2.2 b (by simp [Res.blk, hi2, blkOf]) b (List.mem_flatMap.2 ⟨r', List.mem_of_getElem? h', by simp [Res.blk, hj2, blkOf]⟩) rfl
        | succ i =>
          cases j with
          | zero =>
            simp at h h'
            subst h'
            exact hn.2.2 b (by simp [Res.blk, hj2, blkOf]) b (List.mem_flatMap.2 ⟨r, List.mem_of_getElem? h, by simp [Res.blk, hi2, blkOf]⟩) rfl
          | succ j => exact ih i j (fun e => hij (by rw [e])) (by simpa using h) (by simpa using h') hn.2.1
    exact key s.H i j hij' hi1 hj1 hnd
  cases hinfo : P.info? te with
  | none => rw [hinfo] at hz; cases hz
  | some inf =>
    rw [hinfo] at hz
    have hz' : 1 ≤ inf.size := by simpa using hz
    refine ⟨_, rfl, fun w' hw' => ?_⟩
    have hr := run_eql_ptr_other (P := P) w' (a := ⟨b, 0, none⟩) (b := ⟨b', 0, none⟩) ht hinfo (by omega) (fun e => hne (by injection e)) (by rw [hw' b hl]; exact hb) (by rw [hw' b' hl']; exact hb')
    have hg : (eqGuard .eql tx X Y (.pointer (some ⟨b, 0, none⟩)) (.pointer (some ⟨b', 0, none⟩))).run P w' = .ok () w' := by simp [eqGuard]
    simp [execOp, e1, e2, hr, hg]
theorem tsL_look {L : List (Nat × SV)} : ∀ {ts : List (Nat × SV × SV)} {k : Nat} {x : SV}, look (tsL L ts) k = some x → (∃ p ∈ ts, p.1 = k ∧ p.2.2 = x) ∨ look L k = some x
  | [], k, x, h => .inr h
  | (t, y, z) :: r, k, x, h => by
    simp only [tsL, look] at h
    cases hb : Nat.beq t k with
    | true => rw [hb] at h; simp at h; exact .inl ⟨(t, y, z), by simp, Nat.eq_of_beq_eq_true hb, h⟩
    | false =>
      rw [hb] at h
      rcases tsL_look (by simpa using h) with ⟨p, hp, h'⟩ | h'
      · exact .inl ⟨p, List.mem_cons_of_mem _ hp, h'⟩
      · exact .inr h'
theorem frz_chunk {C H' : List Res} (hp : s.H.Perm (C ++ H')) (ts : List (Nat × SV × SV))
    (hts : ∀ p ∈ ts, look s.L p.1 = some p.2.1 ∧ ∀ (w : World) (U' : Nat → Prop) (v : Value), (∀ q ∈ C, q.own w U') → (∀ q ∈ C, ∀ b ∈ q.blk, U' b) → p.2.1.R w U' v → p.2.2.R w U' v) :
    FrzTo s { s with L := tsL s.L ts, H := H' } := fun E a w U hs => by
  have h := hs.perm hp
  have hnd : ((C ++ H').flatMap Res.blk).Nodup := h.nodup
  rw [List.flatMap_append, List.nodup_append] at hnd
  obtain ⟨hn1, hn2, hdis⟩ := hnd
  have hU : ∀ k, U k → U k ∨ k ∈ C.flatMap Res.blk := fun k hk => .inl hk
  have hC : ∀ k, k ∈ C.flatMap Res.blk → ∃ q ∈ C, k ∈ q.blk := fun k hk => List.mem_flatMap.1 hk
  have hown : ∀ q ∈ C, q.own w (fun k => U k ∨ k ∈ C.flatMap Res.blk) := fun q hq => Res.own_mono hU (fun _ _ => rfl) (fun _ _ => rfl) (h.own q (List.mem_append_left H' hq))
  have hblk : ∀ q ∈ C, ∀ b ∈ q.blk, U b ∨ b ∈ C.flatMap Res.blk := fun q hq b hb => .inr (List.mem_flatMap.2 ⟨q, hq, hb⟩)
  refine ⟨fun k => U k ∨ k ∈ C.flatMap Res.blk, hU, {
    size := h.size, defers := h.defers
    slot := fun k x hk => ?_
    own := fun q hq => Res.own_mono hU (fun _ _ => rfl) (fun _ _ => rfl) (h.own q (List.mem_append_right C hq))
    nodup := hn2
    apart := fun q hq b hb hu => ?_
    base := fun q hq => h.base q (List.mem_append_right C hq)
    lt := fun k hk => ?_
    from0 := fun k hk => ?_
    to0 := fun k hk => .inl (h.to0 k hk)
    ext := h.ext
    glob := h.glob.mono hU (fun _ _ => rfl) }⟩
  · rcases tsL_look hk with ⟨p, hp', rfl, rfl⟩ | hk'
    · obtain ⟨h1, h2⟩ := hts p hp'
      obtain ⟨v, hv, hr⟩ := h.slot p.1 p.2.1 h1
      exact ⟨v, hv, h2 w _ v hown hblk (p.2.1.mono hU (fun _ _ => rfl) hr)⟩
    · obtain ⟨v, hv, hr⟩ := h.slot k x hk'
      exact ⟨v, hv, x.mono hU (fun _ _ => rfl) hr⟩
  · rcases hu with hu | hu
    · exact h.apart q (List.mem_append_right C hq) b hb hu
    · exact hdis b hu b (List.mem_flatMap.2 ⟨q, hq, hb⟩) rfl
  · rcases hk with hk | hk
    · exact h.lt k hk
    · obtain ⟨q, hq, hb⟩ := hC k hk
      exact Res.lt (h.own q (List.mem_append_left H' hq)) k hb
  · rcases hk with hk | hk
    · exact h.from0 k hk
    · obtain ⟨q, hq, hb⟩ := hC k hk
      rcases h.base q (List.mem_append_left H' hq) k hb with e | e
      · exact .inr (.inl e)
      · exact .inr (.inr e)
def TsP (L : List (Nat × SV)) (q : Addr) (cs : List SV) : List (Nat × SV × SV) → Prop
  | [] => True
  | (t, y, z) :: r => (look L t = some y ∧ ∃ o, y = Vl (.pointer (some (q.add o))) ∧ z = Pt (cs.drop o)) ∧ TsP L q cs r
theorem tsP_mem {L : List (Nat × SV)} {q : Addr} {cs : List SV} : ∀ {ts : List (Nat × SV × SV)}, TsP L q cs ts → ∀ p ∈ ts, look L p.1 = some p.2.1 ∧ ∃ o, p.2.1 = Vl (.pointer (some (q.add o))) ∧ p.2.2 = Pt (cs.drop o)
  | [], _, p, hp => by cases hp
  | (t, y, z) :: r, ⟨h, h'⟩, p, hp => by
    rcases List.mem_cons.1 hp with rfl | hp
    · exact h
    · exact tsP_mem h' p hp
theorem frz_varx (i : Nat) (ts : List (Nat × SV × SV)) {q : Addr} {cs : List SV} {e : TypeId} (hi : s.H[i]? = some ⟨.pointer (some q), cs, e, none⟩) (hts : TsP s.L q cs ts) {H' : List Res} (hH : s.H.eraseIdx i = H') :
    FrzTo s { s with L := tsL s.L ts, H := H' } := by
  subst hH
  refine frz_chunk (C := [⟨.pointer (some q), cs, e, none⟩]) (perm_erase hi) ts fun p hp => ?_
  obtain ⟨h1, o, h2, h3⟩ := tsP_mem hts p hp
  refine ⟨h1, fun w U' v ho hb hv => ?_⟩
  rw [h2] at hv
  rw [h3]
  obtain ⟨b, vs, e1, e2, e3⟩ := ho _ (List.mem_singleton.2 rfl)
  have hq : q = ⟨b, 0, none⟩ := by simpa using e1
  subst hq
  have hv' : v = .pointer (some ((⟨b, 0, none⟩ : Addr).add o)) := hv
  rw [addr_add, Nat.zero_add] at hv'
  refine ⟨b, o, hv', hb _ (List.mem_singleton.2 rfl) b (by simp [Res.blk, blkOf]), fun j y hj => ?_⟩
  rw [List.getElem?_drop] at hj
  obtain ⟨z, hz, hR⟩ := e3.get hj
  exact ⟨z, by simp [World.cell?, e2, hz], hR⟩
theorem rd_cut_pt {α : Type} {K : Kd α} (N : Nat) (xs : List α) {ys : List α} {l : List SV} {X Hi : Operand} {k2 : IntKind} {hi : Int} {t e : TypeId} {z : Option Value} {bytes : Nat} (hx : ev s.L X = some (Pt l)) (hN : Nat.beq xs.length N = true) (hl : l.take (xs.length * K.size) = xs.flatMap K.enc)
    (hh : ev s.L Hi = some (Vl (.int k2 hi))) (hc : cut xs 0 hi = some ys) (ht : P.underlying t = some (.array N e)) (he : (P.info? e).map (fun i => (i.zero, i.size, i.bytes)) = some (z, K.size, bytes)) :
    Rd P s ⟨dst, .slice t X none (some Hi) none, ty, pos, af, g⟩ (Sl K ys) := fun E a w U hs => by
  have hN' : xs.length = N := Nat.eq_of_beq_eq_true hN
  unfold cut at hc
  split at hc
  case isFalse => cases hc
  rename_i hb
  cases hc
  obtain ⟨n, rfl⟩ := Int.eq_ofNat_of_zero_le hb.2.1
  simp only [Int.toNat_natCast]
  obtain ⟨b, off, e1, hU, hC⟩ := look_ev hs hx
  have e3 : a.eval Hi = .int k2 (n : Int) := look_ev hs hh
  have hn : n ≤ xs.length := by omega
  cases hinfo : P.info? e with
  | none => rw [hinfo] at he; simp at he
  | some inf =>
    rw [hinfo] at he; simp at he
    have hn' : (n : Int) ≤ (N : Int) := by omega
    refine ⟨.slice (some ⟨b, off, none⟩) n N, ⟨some ⟨b, off, none⟩, N, by simp; omega, by simp; omega, fun _ => ⟨b, off, rfl, hU, fun i x hi j y hj => ?_⟩⟩, fun w' _ => ?_⟩
    · have hi' : xs[i]? = some x := by
        simp only [Int.toNat_zero, List.drop_zero, List.getElem?_take] at hi
        split at hi
        · exact hi
        · cases hi
      have h1 := flatMap_get K hi' hj
      rw [← hl, List.getElem?_take] at h1
      split at h1
      · have := hC _ _ h1
        rwa [show off + i * K.size + j = off + (i * K.size + j) from by omega]
      · cases h1
    · simp [execOp, Instr.sliceAt, Instr.sureAddr, e1, e3, run_underlying ht, Instr.sliceBounds, run_sliceBound, sizeOf, typeInfo, hinfo, hn', addr_add]
      try (intro _; simp [Addr.add])
def Rvw (v : Value) (size lo m : Nat) : SV := ⟨fun _ _ u => (v = .slice none 0 0 ∧ u = .slice none 0 0 ∧ lo = 0 ∧ m = 0) ∨ ∃ b n c o c', v = .slice (some ⟨b, 0, none⟩) n c ∧ u = .slice (some ⟨b, o, none⟩) m c' ∧ m ≤ c' ∧ (m = 0 ∨ o = lo * size), fun _ _ h => h⟩
def idv {α : Type} (xs : List α) (lo m : Nat) (i : Int) : Option α := if 0 ≤ i ∧ i < m then idx xs ((lo : Int) + i) else none
def vct (m : Nat) (lo hi : Int) : Option Nat := if 0 ≤ lo ∧ lo ≤ hi ∧ hi ≤ m then some (hi - lo).toNat else none
end
end Go.Sx
