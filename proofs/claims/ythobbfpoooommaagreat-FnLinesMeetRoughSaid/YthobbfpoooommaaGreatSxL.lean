/-
  From a law's row to a statement on plain data: the arguments opened, the row shut. Ours; it knows no program.
-/
import Derived.Test.YthobbfpoooommaaGreatSxH
import Derived.ProofKit
import Derived.OpenShut
import Derived.Deep.Slices
import Derived.Carry
import Derived.SizedLaws
namespace Go.Sx
open Go.ChangeShapes Go.WideShapes Go.ChangeAt Go.RowKit
set_option linter.unusedVariables false
set_option linter.unusedSectionVars false
set_option linter.unusedSimpArgs false
variable [Gv]

def Old (w : World) : Nat → Prop := fun k => k < w.heap.size

def Opn (P : Program) (t : TypeId) {α : Type} (enc : α → List SV) (G : α → Prop) : Prop :=
  ∀ {H : Type} (te : TypeId × Value → H) (w : World) (fuel : Nat) (cs : List Value) (x : DataW H × List MemPlace), DataW.trod te P w 0 (fun _ => true) true fuel t cs = some x →
    ∃ a, G a ∧ All2 (fun s v => s.C w (Old w) v) (enc a) cs

section
variable {P : Program} {t : TypeId}
theorem opn_flt (ht : P.underlying t = some (.float .f64)) : Opn P t (fun x : Nat => [Vl (.float .f64 x)]) (fun x => x < 18446744073709551616) := fun te w fuel cs x h => by
  cases fuel with
  | zero => simp [DataW.trod] at h
  | succ n =>
    match cs with
    | [] => simp [DataW.trod, ht] at h
    | [.float k b] =>
      simp only [DataW.trod, ht] at h
      split at h
      · rename_i hc
        obtain ⟨rfl, hw⟩ := hc
        exact ⟨b, by simpa [Lit.wf] using hw, ⟨rfl, rfl⟩, trivial⟩
      · cases h
    | [.bool _] | [.int _ _] | [.complex _ _ _] | [.string _] | [.pointer _] | [.slice _ _ _] | [.map _] | [.chan _] | [.nilIface] | [.iface _ _] | [.nilFunc] | [.func _ _ _] | [.agg _] | [.tuple _] => simp [DataW.trod, ht] at h
    | _ :: _ :: _ => simp [DataW.trod, ht] at h
def Opf (P : Program) (fs : List Field) (off : Nat) {α : Type} (enc : α → List SV) (G : α → Prop) : Prop :=
  ∀ {H : Type} (te : TypeId × Value → H) (w : World) (fuel : Nat) (cs : List Value) (x : List (DataW H × List MemPlace)),
    (fs.mapM fun f => DataW.trod te P w 0 (fun _ => true) true fuel f.type ((cs.drop f.offset).take (P.cellsOf f.type))) = some x → ∃ a, G a ∧ All2 (fun s v => s.C w (Old w) v) (enc a) (cs.drop off |>.take (enc a).length)
theorem all2_len_take {α β : Type} {R : α → β → Prop} {l : List α} {m : List β} {n : Nat} (h : All2 R l (m.take n)) : All2 R l (m.take l.length) := by
  have := h.length
  simp only [List.length_take] at this
  rw [this]
  by_cases e : n ≤ m.length
  · rw [Nat.min_eq_left e]; exact h
  · rw [Nat.min_eq_right (by omega), List.take_of_length_le (Nat.le_refl _)]
    rwa [List.take_of_length_le (by omega)] at h
theorem opf_one {f : Field} {α : Type} {enc : α → List SV} {G : α → Prop} {off : Nat} (h : Opn P f.type enc G) (ho : f.offset = off) : Opf P [f] off enc G := fun te w fuel cs x hx => by
  simp only [List.mapM_cons, List.mapM_nil] at hx
  obtain ⟨y, hy, _⟩ := Option.bind_eq_some_iff.1 hx
  obtain ⟨a, hG, ha⟩ := h te w fuel _ _ hy
  subst ho
  exact ⟨a, hG, all2_len_take ha⟩
theorem opf_cons {f : Field} {fs : List Field} {α β : Type} {enc : α → List SV} {G : α → Prop} {enc' : β → List SV} {G' : β → Prop} {off n : Nat} (h : Opn P f.type enc G) (ho : f.offset = off) (hn : ∀ a, (enc a).length = n) (hr : Opf P fs (off + n) enc' G') :
    Opf P (f :: fs) off (fun p : α × β => enc p.1 ++ enc' p.2) (fun p => G p.1 ∧ G' p.2) := fun te w fuel cs x hx => by
  rw [List.mapM_cons] at hx
  obtain ⟨y, hy, hx⟩ := Option.bind_eq_some_iff.1 hx
  obtain ⟨ys, hys, _⟩ := Option.bind_eq_some_iff.1 hx
  obtain ⟨a, hG, ha⟩ := h te w fuel _ _ hy
  obtain ⟨b, hG', hb⟩ := hr te w fuel cs ys hys
  subst ho
  refine ⟨(a, b), ⟨hG, hG'⟩, ?_⟩
  have h1 := all2_len_take ha
  have e : (cs.drop f.offset).take (enc a ++ enc' b).length = (cs.drop f.offset).take (enc a).length ++ ((cs.drop (f.offset + n)).take (enc' b).length) := by
    rw [List.length_append, List.take_add, List.drop_drop, hn a]
  rw [e]
  exact h1.append hb
theorem opn_struct {fs : List Field} {α : Type} {enc : α → List SV} {G : α → Prop} {n : Nat} (ht : P.underlying t = some (.struct ⟨fs⟩)) (hc : P.cellsOf t = n) (hn : ∀ a, (enc a).length = n) (hf : Opf P fs 0 enc G) : Opn P t enc G := fun te w fuel cs x h => by
  cases fuel with
  | zero => simp [DataW.trod] at h
  | succ fuel =>
    have h' : (if cs.length = P.cellsOf t then (fs.mapM fun f => DataW.trod te P w 0 (fun _ => true) true fuel f.type ((cs.drop f.offset).take (P.cellsOf f.type))).map fun xs => (DataW.agg (xs.map (·.1)), xs.flatMap (·.2)) else none) = some x := by
      rw [← h]
      simp only [DataW.trod, ht]
    split at h'
    · rename_i hl
      obtain ⟨xs, hxs, _⟩ := Option.map_eq_some_iff.1 h'
      obtain ⟨a, hG, ha⟩ := hf te w fuel cs xs hxs
      refine ⟨a, hG, ?_⟩
      rw [List.drop_zero, hn a, List.take_of_length_le (by omega)] at ha
      exact ha
    · cases h'

/-! arrays -/
def Opa (P : Program) (e : TypeId) (is : List Nat) (off : Nat) {α : Type} (enc : α → List SV) (G : α → Prop) : Prop :=
  ∀ {H : Type} (te : TypeId × Value → H) (w : World) (fuel : Nat) (cs : List Value) (x : List (DataW H × List MemPlace)),
    (is.mapM fun i => DataW.trod te P w 0 (fun _ => true) true fuel e ((cs.drop (i * P.cellsOf e)).take (P.cellsOf e))) = some x → ∃ a, G a ∧ All2 (fun s v => s.C w (Old w) v) (enc a) (cs.drop off |>.take (enc a).length)
def OpnN (P : Program) (t : TypeId) {α : Type} (enc : α → List SV) (G : α → Prop) (N : Nat) : Prop :=
  ∀ {H : Type} (te : TypeId × Value → H) (w : World) (fuel : Nat) (cs : List Value) (x : DataW H × List MemPlace), fuel ≤ N → DataW.trod te P w 0 (fun _ => true) true fuel t cs = some x →
    ∃ a, G a ∧ All2 (fun s v => s.C w (Old w) v) (enc a) cs
def OpfN (P : Program) (fs : List Field) (off : Nat) {α : Type} (enc : α → List SV) (G : α → Prop) (N : Nat) : Prop :=
  ∀ {H : Type} (te : TypeId × Value → H) (w : World) (fuel : Nat) (cs : List Value) (x : List (DataW H × List MemPlace)), fuel ≤ N →
    (fs.mapM fun f => DataW.trod te P w 0 (fun _ => true) true fuel f.type ((cs.drop f.offset).take (P.cellsOf f.type))) = some x → ∃ a, G a ∧ All2 (fun s v => s.C w (Old w) v) (enc a) (cs.drop off |>.take (enc a).length)
theorem open_str {H : Type} {te : TypeId × Value → H} {w : World} {r : Reach} {b : Nat} {v : Value} {d : DataW H} {ps : List MemPlace} {α : Type} {enc : α → List SV} {G : α → Prop} {fs : Array Field} (ho : Opn P t enc G) (ht : P.underlying t = some (.struct fs))
    (hv : Value.okWide P w r b t v) (hd : DataW.Trod te P w 0 (fun _ => true) true t v d ps) : ∃ x, G x ∧ (Ag (enc x)).R w (Old w) v := by
  obtain ⟨fuel, hd⟩ := hd
  obtain ⟨x, hG, hx⟩ := ho te w fuel _ _ hd
  simp only [Value.okWide, ht] at hv
  obtain ⟨cs, rfl, _⟩ := hv
  exact ⟨x, hG, cs.toList, rfl, hx⟩
/-! the same where each slice takes no more than the platform's reach -/
def Light {H : Type} (P : Program) (t : TypeId) (d : DataW H) : Prop := ∀ n ∈ d.weights P t, n ≤ reachBytes
def OpnW (P : Program) (t : TypeId) {α : Type} (enc : α → List SV) (G : α → Prop) (N : Nat) : Prop :=
  ∀ {H : Type} (te : TypeId × Value → H) (w : World) (fuel : Nat) (cs : List Value) (x : DataW H × List MemPlace), fuel ≤ N → DataW.trod te P w 0 (fun _ => true) true fuel t cs = some x → Light P t x.1 →
    ∃ a, G a ∧ All2 (fun s v => s.C w (Old w) v) (enc a) cs
def OpfW (P : Program) (fs : List Field) (off : Nat) {α : Type} (enc : α → List SV) (G : α → Prop) (N : Nat) : Prop :=
  ∀ {H : Type} (te : TypeId × Value → H) (w : World) (fuel : Nat) (cs : List Value) (x : List (DataW H × List MemPlace)), fuel ≤ N →
    (fs.mapM fun f => DataW.trod te P w 0 (fun _ => true) true fuel f.type ((cs.drop f.offset).take (P.cellsOf f.type))) = some x → (∀ n ∈ DataW.weightsEach P (fs.map (·.type)) (x.map (·.1)), n ≤ reachBytes) →
    ∃ a, G a ∧ All2 (fun s v => s.C w (Old w) v) (enc a) (cs.drop off |>.take (enc a).length)
end

/-! ### the row -/
theorem trod_later {H : Type} {te : TypeId × Value → H} {P : Program} (hl : laidOutB P = true) {W W' : World} (hb : Go.RowKit.Below W.heap.size W W') : ∀ {ts : List TypeId} {vs : List Value} {ds : List (DataW H)} {ps : List MemPlace},
    ts.all (fun t => P.readableRec t && decide (t < P.types.size)) = true → (∀ x ∈ ps, x.block < W.heap.size) → DataW.TrodAll te P W 0 (fun _ => true) true ts vs ds ps → DataW.TrodAll te P W' 0 (fun b => decide (b < W.heap.size)) true ts vs ds ps
  | [], [], [], _, _, _, h => h
  | [], _ :: _, _, _, _, _, h => by simp [DataW.TrodAll] at h
  | [], [], _ :: _, _, _, _, h => by simp [DataW.TrodAll] at h
  | _ :: _, [], _, _, _, _, h => by simp [DataW.TrodAll] at h
  | _ :: _, _ :: _, [], _, _, _, h => by simp [DataW.TrodAll] at h
  | t :: ts, v :: vs, d :: ds, ps, hr, hlt, ⟨p, q, h1, h2, e⟩ => by
    subst e
    simp only [List.all_cons, Bool.and_eq_true, decide_eq_true_eq] at hr
    exact ⟨p, q, Below.trod hl hr.1.1 hr.1.2 h1 hb (fun x hx => hlt x (List.mem_append.2 (.inl hx))), trod_later hl hb hr.2 (fun x hx => hlt x (List.mem_append.2 (.inr hx))) h2, rfl⟩

theorem law_post {H : Type} {te : TypeId × Value → H} {P : Program} {f : Func} {s : ChangeSpec} {W W' : World} {args : Array Value} {ds : List (DataW H)} {before : List MemPlace} {tb : TypeId}
    (hs : s.vars = []) (hspec : s.fn H (ds ++ []) = { results := [.lit (.bool true)], args := ds })
    (hW : DataW.Whole te P f.params.toList s.vars false W args.toList ds [] before) (hb : Go.RowKit.Below W.heap.size W W') (hl : laidOutB P = true)
    (hp : f.params.toList.all (fun t => P.readableRec t && decide (t < P.types.size)) = true) (hres : f.resultTypes = #[tb]) (htb : P.underlying tb = some .bool) :
    s.post te P f false true false false W args (.bool true) W' := by
  have hlt := hW.lt
  have hW2 := hW
  obtain ⟨p, q, hA, hV, e, hfz, hnd⟩ := hW2
  rw [hs] at hV
  have hq : q = [] := hV
  subst hq
  refine ⟨ds, [], before, [], p, [], hW, ?_, ?_, ?_, hb.frame _, fun h => by cases h⟩
  · rw [hspec, hres]
    exact trodAll_mk1 (shut_bool htb true)
  · rw [hspec]
    exact trod_later hl hb hp (fun x hx => hlt x (by rw [e]; simpa using hx)) hA
  · rw [hspec, hs]
    rfl

/-! openings that know how much there is: B is a measure of what is read -/
structure Bk (B : (H : Type) → DataW H → Nat) : Prop where
  one : ∀ (H : Type) (d : DataW H), 1 ≤ B H d
  sl : ∀ (H : Type) (l s : List (DataW H)), (l.map (B H)).sum + 1 ≤ B H (.slice l s)
def OpnB (B : (H : Type) → DataW H → Nat) (P : Program) (t : TypeId) {α : Type} (enc : α → List SV) (G : α → Prop) (M : α → Nat) : Prop :=
  ∀ {H : Type} (te : TypeId × Value → H) (w : World) (fuel : Nat) (cs : List Value) (x : DataW H × List MemPlace), DataW.trod te P w 0 (fun _ => true) true fuel t cs = some x →
    ∃ a, G a ∧ All2 (fun s v => s.C w (Old w) v) (enc a) cs ∧ M a ≤ B H x.1
def GOkL (l : List (Nat × List SV)) (w : World) : Prop := ∀ p ∈ l, Old w p.1 ∧ Cells w (Old w) p.1 0 p.2
def litOf : DataW Unit → Option Value
  | .lit (.float k b) => some (.float k b)
  | .lit (.int k n) => some (.int k n)
  | _ => none
theorem Fp.call {P : Program} {f : Nat} {A : List SV} {r : SV} (h : Fp P f A r) {w : World} {args : List Value} (ha : All2 (fun s v => s.R w (Old w) v) A args) (hg : GOk w (Old w)) :
    Calls P f args.toArray w fun e w' => ∃ v, ∃ U' : Nat → Prop, e = .returned v ∧ r.R w' U' v ∧ Go.RowKit.Below w.heap.size w w' :=
  (h w (Old w) args ha (by simp) (by simp) (by simp) (fun k hk => hk) hg).mono fun e w' ⟨x, v, U', he, hr, _, _, _, _, _, _, hx⟩ => ⟨v, U', he, hr, hx.below⟩
end Go.Sx
