/-
  From a law's row to a statement on plain data: the arguments opened, the row shut. Ours; it knows no program.
-/
import Derived.Test.YtjgpiealnfbkcaaSxH
import Derived.ProofKit
import Derived.OpenShut
import Derived.Deep.Slices
import Derived.Carry
import Derived.SizedLaws
namespace Go.Sx
open Go.ChangeShapes Go.WideShapes Go.ChangeAt Go.RowKit
set_option linter.unusedVariables false
set_option linter.unusedSectionVars false
set_option linter.unusedSimpArgs false
variable [Gv]

def Old (w : World) : Nat → Prop := fun k => k < w.heap.size

def Opn (P : Program) (t : TypeId) {α : Type} (enc : α → List SV) (G : α → Prop) : Prop :=
  ∀ {H : Type} (te : TypeId × Value → H) (w : World) (fuel : Nat) (cs : List Value) (x : DataW H × List MemPlace), DataW.trod te P w 0 (fun _ => true) true fuel t cs = some x →
    ∃ a, G a ∧ All2 (fun s v => s.C w (Old w) v) (enc a) cs

section
variable {P : Program} {t : TypeId}
theorem opn_flt (ht : P.underlying t = some (.float .f64)) : Opn P t (fun x : Nat => [Vl (.float .f64 x)]) (fun x => x < 18446744073709551616) := fun te w fuel cs x h => by
  cases fuel with
  | zero => simp [DataW.trod] at h
  | succ n =>
    match cs with
    | [] => simp [DataW.trod, ht] at h
    | [.float k b] =>
      simp only [DataW.trod, ht] at h
      split at h
      · rename_i hc
        obtain ⟨rfl, hw⟩ := hc
        exact ⟨b, by simpa [Lit.wf] using hw, ⟨rfl, rfl⟩, trivial⟩
      · cases h
    | [.bool _] | [.int _ _] | [.complex _ _ _] | [.string _] | [.pointer _] | [.slice _ _ _] | [.map _] | [.chan _] | [.nilIface] | [.iface _ _] | [.nilFunc] | [.func _ _ _] | [.agg _] | [.tuple _] => simp [DataW.trod, ht] at h
    | _ :: _ :: _ => simp [DataW.trod, ht] at h
theorem opn_bool (ht : P.underlying t = some .bool) : Opn P t (fun x : Bool => [Vl (.bool x)]) (fun _ => True) := fun te w fuel cs x h => by
  cases fuel with
  | zero => simp [DataW.trod] at h
  | succ n =>
    match cs with
    | [] => simp [DataW.trod, ht] at h
    | [.bool b] => exact ⟨b, trivial, ⟨rfl, rfl⟩, trivial⟩
    | [.int _ _] | [.float _ _] | [.complex _ _ _] | [.string _] | [.pointer _] | [.slice _ _ _] | [.map _] | [.chan _] | [.nilIface] | [.iface _ _] | [.nilFunc] | [.func _ _ _] | [.agg _] | [.tuple _] => simp [DataW.trod, ht] at h
    | _ :: _ :: _ => simp [DataW.trod, ht] at h

theorem cells?_get {w : World} {a : Addr} {n : Nat} {cs : List Value} (h : w.cells? 0 a n = some cs) : cs.length = n ∧ ∀ j v, cs[j]? = some v → w.cell? (a.add j) = some v := by
  unfold World.cells? at h
  rw [if_pos (Nat.zero_le _)] at h
  have key : ∀ (l : List Nat) (cs : List Value), (l.mapM fun i => w.cell? (a.add i)) = some cs → cs.length = l.length ∧ ∀ (j i : Nat) (v : Value), l[j]? = some i → cs[j]? = some v → w.cell? (a.add i) = some v := by
    intro l
    induction l with
    | nil => intro cs h; simp at h; subst h; simp
    | cons i l ih =>
      intro cs h
      rw [List.mapM_cons] at h
      obtain ⟨v, hv, h⟩ := Option.bind_eq_some_iff.1 h
      obtain ⟨vs, hvs, h⟩ := Option.bind_eq_some_iff.1 h
      cases h
      obtain ⟨h1, h2⟩ := ih vs hvs
      refine ⟨by simp [h1], fun j i' v' hi hj => ?_⟩
      cases j with
      | zero => simp at hi hj; subst hi; subst hj; exact hv
      | succ j => exact h2 j i' v' (by simpa using hi) (by simpa using hj)
  obtain ⟨h1, h2⟩ := key _ _ h
  refine ⟨by simpa using h1, fun j v hj => h2 j j v ?_ hj⟩
  have : j < cs.length := (List.getElem?_eq_some_iff.1 hj).1
  rw [List.getElem?_range (by rw [h1] at this; simpa using this)]

theorem cell_place {w : World} {a : Addr} {v : Value} (h : w.cell? a = some v) : a.spot = none ∧ a.block < w.heap.size := by
  unfold World.cell? at h
  split at h
  · rename_i c _ _ hb
    split at h
    · cases h
    · rename_i hs
      refine ⟨by simpa using hs, ?_⟩
      exact (Array.getElem?_eq_some_iff.1 hb).1
  · cases h

theorem choose_list {α : Type} {n : Nat} {Q : Nat → α → Prop} (h : ∀ i, i < n → ∃ x, Q i x) : ∃ l : List α, l.length = n ∧ ∀ i x, l[i]? = some x → Q i x := by
  induction n with
  | zero => exact ⟨[], rfl, by simp⟩
  | succ n ih =>
    obtain ⟨l, hl, hq⟩ := ih (fun i hi => h i (by omega))
    obtain ⟨x, hx⟩ := h n (by omega)
    refine ⟨l ++ [x], by simp [hl], fun i y hi => ?_⟩
    by_cases e : i < n
    · rw [List.getElem?_append_left (by omega)] at hi; exact hq i y hi
    · rw [List.getElem?_append_right (by omega)] at hi
      have : i = n := by
        have := (List.getElem?_eq_some_iff.1 hi).1
        simp at this; omega
      subst this
      simp [hl] at hi; subst hi; exact hx

theorem opn_sl {α : Type} {K : Kd α} {e : TypeId} {G : α → Prop} (ht : P.underlying t = some (.slice e)) (he : Opn P e K.enc G) (hc : P.cellsOf e = K.size) (hK : 0 < K.size) :
    Opn P t (fun xs : List α => [Sl K xs]) (fun xs => xs.length ≤ maxLen ∧ ∀ x ∈ xs, G x) := fun te w fuel cs x h => by
  rcases Go.Deep.open_slice ht h with ⟨rfl, _⟩ | ⟨a, len, cap, m, n, D, Pl, rfl, _, hl, hm, hmm, _, hx⟩
  · exact ⟨[], ⟨by simp [maxLen], by simp⟩, ⟨⟨none, 0, rfl, Nat.le_refl _, fun hn => absurd rfl hn⟩, rfl⟩, trivial⟩
  · simp only [if_true] at hmm
    subst hmm
    obtain ⟨xs, hxl, hxs⟩ := choose_list (α := α) (n := len) (Q := fun i y => G y ∧ ∃ cs', w.cells? 0 (a.add (i * P.cellsOf e)) (P.cellsOf e) = some cs' ∧ All2 (fun s v => s.C w (Old w) v) (K.enc y) cs') (fun i hi => by
      obtain ⟨cs', h1, h2⟩ := hx i (by omega)
      obtain ⟨y, hG, hy⟩ := he te w n cs' _ h2
      exact ⟨y, hG, cs', h1, hy⟩)
    refine ⟨xs, ⟨by omega, fun y hy => ?_⟩, ⟨⟨some a, m, by rw [hxl], by omega, fun hne => ?_⟩, rfl⟩, trivial⟩
    · obtain ⟨i, hi⟩ := List.mem_iff_getElem?.1 hy
      exact (hxs i y hi).1
    · cases xs with
      | nil => exact absurd rfl hne
      | cons y ys =>
        obtain ⟨_, cs0, h0, hy0⟩ := hxs 0 y rfl
        obtain ⟨hl0, hg0⟩ := cells?_get h0
        have hlt : 0 < cs0.length := by rw [hl0, hc]; exact hK
        have hcell := hg0 0 cs0[0] (by simp [hlt])
        obtain ⟨hs, hb⟩ := cell_place hcell
        have ea : a = ⟨a.block, a.off, none⟩ := by
          have : a.spot = none := by
            simp only [Nat.zero_mul] at hs
            unfold Addr.add at hs
            simpa using hs
          cases a; simp_all
        have hb' : a.block < w.heap.size := by
          simp only [Nat.zero_mul] at hb
          unfold Addr.add at hb
          simpa using hb
        refine ⟨a.block, a.off, by rw [← ea], hb', fun i x hi j s hj => ?_⟩
        obtain ⟨_, cs', h1, hall⟩ := hxs i x hi
        obtain ⟨v, hv, hR⟩ := hall.get hj
        refine ⟨v, ?_, hR⟩
        have := (cells?_get h1).2 j v hv
        rw [addr_add_add, ea, addr_add, hc] at this
        rwa [Nat.add_assoc]

/-! structs: the fields one after another -/
def Opf (P : Program) (fs : List Field) (off : Nat) {α : Type} (enc : α → List SV) (G : α → Prop) : Prop :=
  ∀ {H : Type} (te : TypeId × Value → H) (w : World) (fuel : Nat) (cs : List Value) (x : List (DataW H × List MemPlace)),
    (fs.mapM fun f => DataW.trod te P w 0 (fun _ => true) true fuel f.type ((cs.drop f.offset).take (P.cellsOf f.type))) = some x → ∃ a, G a ∧ All2 (fun s v => s.C w (Old w) v) (enc a) (cs.drop off |>.take (enc a).length)
def Opa (P : Program) (e : TypeId) (is : List Nat) (off : Nat) {α : Type} (enc : α → List SV) (G : α → Prop) : Prop :=
  ∀ {H : Type} (te : TypeId × Value → H) (w : World) (fuel : Nat) (cs : List Value) (x : List (DataW H × List MemPlace)),
    (is.mapM fun i => DataW.trod te P w 0 (fun _ => true) true fuel e ((cs.drop (i * P.cellsOf e)).take (P.cellsOf e))) = some x → ∃ a, G a ∧ All2 (fun s v => s.C w (Old w) v) (enc a) (cs.drop off |>.take (enc a).length)
def OpnN (P : Program) (t : TypeId) {α : Type} (enc : α → List SV) (G : α → Prop) (N : Nat) : Prop :=
  ∀ {H : Type} (te : TypeId × Value → H) (w : World) (fuel : Nat) (cs : List Value) (x : DataW H × List MemPlace), fuel ≤ N → DataW.trod te P w 0 (fun _ => true) true fuel t cs = some x →
    ∃ a, G a ∧ All2 (fun s v => s.C w (Old w) v) (enc a) cs
def OpfN (P : Program) (fs : List Field) (off : Nat) {α : Type} (enc : α → List SV) (G : α → Prop) (N : Nat) : Prop :=
  ∀ {H : Type} (te : TypeId × Value → H) (w : World) (fuel : Nat) (cs : List Value) (x : List (DataW H × List MemPlace)), fuel ≤ N →
    (fs.mapM fun f => DataW.trod te P w 0 (fun _ => true) true fuel f.type ((cs.drop f.offset).take (P.cellsOf f.type))) = some x → ∃ a, G a ∧ All2 (fun s v => s.C w (Old w) v) (enc a) (cs.drop off |>.take (enc a).length)
theorem not_agg {w : World} {r : Reach} {b : Nat} {cs : Array Value} (hf : Flat P t) (h : Value.okWide P w r b t (.agg cs)) : False := by
  obtain ⟨u, hu, h1, h2⟩ := hf
  unfold Value.okWide at h
  cases u <;> first | exact absurd rfl (h1 _) | exact absurd rfl (h2 _ _) | simp [hu, Cell.okWide, Cell.ok] at h
theorem open_flat {H : Type} {te : TypeId × Value → H} {w : World} {r : Reach} {b : Nat} {v : Value} {d : DataW H} {ps : List MemPlace} {α : Type} {s : α → SV} {G : α → Prop} (ho : Opn P t (fun x => [s x]) G) (hf : Flat P t)
    (hv : Value.okWide P w r b t v) (hd : DataW.Trod te P w 0 (fun _ => true) true t v d ps) : ∃ x, G x ∧ (s x).R w (Old w) v := by
  obtain ⟨fuel, hd⟩ := hd
  obtain ⟨x, hG, hx⟩ := ho te w fuel _ _ hd
  have hc : v.cells = #[v] := by
    cases v <;> first | rfl | exact (not_agg hf hv).elim
  rw [hc] at hx
  exact ⟨x, hG, hx.1.1⟩
def Light {H : Type} (P : Program) (t : TypeId) (d : DataW H) : Prop := ∀ n ∈ d.weights P t, n ≤ reachBytes
def OpnW (P : Program) (t : TypeId) {α : Type} (enc : α → List SV) (G : α → Prop) (N : Nat) : Prop :=
  ∀ {H : Type} (te : TypeId × Value → H) (w : World) (fuel : Nat) (cs : List Value) (x : DataW H × List MemPlace), fuel ≤ N → DataW.trod te P w 0 (fun _ => true) true fuel t cs = some x → Light P t x.1 →
    ∃ a, G a ∧ All2 (fun s v => s.C w (Old w) v) (enc a) cs
def OpfW (P : Program) (fs : List Field) (off : Nat) {α : Type} (enc : α → List SV) (G : α → Prop) (N : Nat) : Prop :=
  ∀ {H : Type} (te : TypeId × Value → H) (w : World) (fuel : Nat) (cs : List Value) (x : List (DataW H × List MemPlace)), fuel ≤ N →
    (fs.mapM fun f => DataW.trod te P w 0 (fun _ => true) true fuel f.type ((cs.drop f.offset).take (P.cellsOf f.type))) = some x → (∀ n ∈ DataW.weightsEach P (fs.map (·.type)) (x.map (·.1)), n ≤ reachBytes) →
    ∃ a, G a ∧ All2 (fun s v => s.C w (Old w) v) (enc a) (cs.drop off |>.take (enc a).length)
end

/-! ### the row -/
theorem trod_later {H : Type} {te : TypeId × Value → H} {P : Program} (hl : laidOutB P = true) {W W' : World} (hb : Go.RowKit.Below W.heap.size W W') : ∀ {ts : List TypeId} {vs : List Value} {ds : List (DataW H)} {ps : List MemPlace},
    ts.all (fun t => P.readableRec t && decide (t < P.types.size)) = true → (∀ x ∈ ps, x.block < W.heap.size) → DataW.TrodAll te P W 0 (fun _ => true) true ts vs ds ps → DataW.TrodAll te P W' 0 (fun b => decide (b < W.heap.size)) true ts vs ds ps
  | [], [], [], _, _, _, h => h
  | [], _ :: _, _, _, _, _, h => by simp [DataW.TrodAll] at h
  | [], [], _ :: _, _, _, _, h => by simp [DataW.TrodAll] at h
  | _ :: _, [], _, _, _, _, h => by simp [DataW.TrodAll] at h
  | _ :: _, _ :: _, [], _, _, _, h => by simp [DataW.TrodAll] at h
  | t :: ts, v :: vs, d :: ds, ps, hr, hlt, ⟨p, q, h1, h2, e⟩ => by
    subst e
    simp only [List.all_cons, Bool.and_eq_true, decide_eq_true_eq] at hr
    exact ⟨p, q, Below.trod hl hr.1.1 hr.1.2 h1 hb (fun x hx => hlt x (List.mem_append.2 (.inl hx))), trod_later hl hb hr.2 (fun x hx => hlt x (List.mem_append.2 (.inr hx))) h2, rfl⟩

theorem law_post {H : Type} {te : TypeId × Value → H} {P : Program} {f : Func} {s : ChangeSpec} {W W' : World} {args : Array Value} {ds : List (DataW H)} {before : List MemPlace} {tb : TypeId}
    (hs : s.vars = []) (hspec : s.fn H (ds ++ []) = { results := [.lit (.bool true)], args := ds })
    (hW : DataW.Whole te P f.params.toList s.vars false W args.toList ds [] before) (hb : Go.RowKit.Below W.heap.size W W') (hl : laidOutB P = true)
    (hp : f.params.toList.all (fun t => P.readableRec t && decide (t < P.types.size)) = true) (hres : f.resultTypes = #[tb]) (htb : P.underlying tb = some .bool) :
    s.post te P f false true false false W args (.bool true) W' := by
  have hlt := hW.lt
  have hW2 := hW
  obtain ⟨p, q, hA, hV, e, hfz, hnd⟩ := hW2
  rw [hs] at hV
  have hq : q = [] := hV
  subst hq
  refine ⟨ds, [], before, [], p, [], hW, ?_, ?_, ?_, hb.frame _, fun h => by cases h⟩
  · rw [hspec, hres]
    exact trodAll_mk1 (shut_bool htb true)
  · rw [hspec]
    exact trod_later hl hb hp (fun x hx => hlt x (by rw [e]; simpa using hx)) hA
  · rw [hspec, hs]
    rfl

/-! openings that know how much there is: B is a measure of what is read -/
structure Bk (B : (H : Type) → DataW H → Nat) : Prop where
  one : ∀ (H : Type) (d : DataW H), 1 ≤ B H d
  sl : ∀ (H : Type) (l s : List (DataW H)), (l.map (B H)).sum + 1 ≤ B H (.slice l s)
def OpnB (B : (H : Type) → DataW H → Nat) (P : Program) (t : TypeId) {α : Type} (enc : α → List SV) (G : α → Prop) (M : α → Nat) : Prop :=
  ∀ {H : Type} (te : TypeId × Value → H) (w : World) (fuel : Nat) (cs : List Value) (x : DataW H × List MemPlace), DataW.trod te P w 0 (fun _ => true) true fuel t cs = some x →
    ∃ a, G a ∧ All2 (fun s v => s.C w (Old w) v) (enc a) cs ∧ M a ≤ B H x.1
def GOkL (l : List (Nat × List SV)) (w : World) : Prop := ∀ p ∈ l, Old w p.1 ∧ Cells w (Old w) p.1 0 p.2
def litOf : DataW Unit → Option Value
  | .lit (.float k b) => some (.float k b)
  | .lit (.int k n) => some (.int k n)
  | _ => none
theorem Fp.call {P : Program} {f : Nat} {A : List SV} {r : SV} (h : Fp P f A r) {w : World} {args : List Value} (ha : All2 (fun s v => s.R w (Old w) v) A args) (hg : GOk w (Old w)) :
    Calls P f args.toArray w fun e w' => ∃ v, ∃ U' : Nat → Prop, e = .returned v ∧ r.R w' U' v ∧ Go.RowKit.Below w.heap.size w w' :=
  (h w (Old w) args ha (by simp) (by simp) (by simp) (fun k hk => hk) hg).mono fun e w' ⟨x, v, U', he, hr, _, _, _, _, _, _, hx⟩ => ⟨v, U', he, hr, hx.below⟩
end Go.Sx
