/-
  From a law's row to a statement on plain data: the arguments opened, the row shut. Ours; it knows no program.
-/
import Derived.Test.YtmagcmeknclljaaSxH
import Derived.ProofKit
import Derived.OpenShut
import Derived.Deep.Slices
import Derived.Carry
import Derived.SizedLaws
namespace Go.Sx
open Go.ChangeShapes Go.WideShapes Go.ChangeAt Go.RowKit
set_option linter.unusedVariables false
set_option linter.unusedSectionVars false
set_option linter.unusedSimpArgs false
variable [Gv]

def Old (w : World) : Nat → Prop := fun k => k < w.heap.size

def Opn (P : Program) (t : TypeId) {α : Type} (enc : α → List SV) (G : α → Prop) : Prop :=
  ∀ {H : Type} (te : TypeId × Value → H) (w : World) (fuel : Nat) (cs : List Value) (x : DataW H × List MemPlace), DataW.trod te P w 0 (fun _ => true) true fuel t cs = some x →
    ∃ a, G a ∧ All2 (fun s v => s.C w (Old w) v) (enc a) cs

section
variable {P : Program} {t : TypeId}
theorem opn_flt (ht : P.underlying t = some (.float .f64)) : Opn P t (fun x : Nat => [Vl (.float .f64 x)]) (fun x => x < 18446744073709551616) := fun te w fuel cs x h => by
  cases fuel with
  | zero => simp [DataW.trod] at h
  | succ n =>
    match cs with
    | [] => simp [DataW.trod, ht] at h
    | [.float k b] =>
      simp only [DataW.trod, ht] at h
      split at h
      · rename_i hc
        obtain ⟨rfl, hw⟩ := hc
        exact ⟨b, by simpa [Lit.wf] using hw, ⟨rfl, rfl⟩, trivial⟩
      · cases h
    | [.bool _] | [.int _ _] | [.complex _ _ _] | [.string _] | [.pointer _] | [.slice _ _ _] | [.map _] | [.chan _] | [.nilIface] | [.iface _ _] | [.nilFunc] | [.func _ _ _] | [.agg _] | [.tuple _] => simp [DataW.trod, ht] at h
    | _ :: _ :: _ => simp [DataW.trod, ht] at h
theorem opn_int {k : IntKind} (ht : P.underlying t = some (.int k)) : Opn P t (fun x : Int => [Vl (.int k x)]) (fun x => k.min ≤ x ∧ x ≤ k.max) := fun te w fuel cs x h => by
  cases fuel with
  | zero => simp [DataW.trod] at h
  | succ n =>
    match cs with
    | [] => simp [DataW.trod, ht] at h
    | [.int k' b] =>
      simp only [DataW.trod, ht] at h
      split at h
      · rename_i hc
        obtain ⟨rfl, hw⟩ := hc
        exact ⟨b, by simpa [Lit.wf] using hw, ⟨rfl, rfl⟩, trivial⟩
      · cases h
    | [.bool _] | [.float _ _] | [.complex _ _ _] | [.string _] | [.pointer _] | [.slice _ _ _] | [.map _] | [.chan _] | [.nilIface] | [.iface _ _] | [.nilFunc] | [.func _ _ _] | [.agg _] | [.tuple _] => simp [DataW.trod, ht] at h
    | _ :: _ :: _ => simp [DataW.trod, ht] at h
theorem cells?_get {w : World} {a : Addr} {n : Nat} {cs : List Value} (h : w.cells? 0 a n = some cs) : cs.length = n ∧ ∀ j v, cs[j]? = some v → w.cell? (a.add j) = some v := by
  unfold World.cells? at h
  rw [if_pos (Nat.zero_le _)] at h
  have key : ∀ (l : List Nat) (cs : List Value), (l.mapM fun i => w.cell? (a.add i)) = some cs → cs.length = l.length ∧ ∀ (j i : Nat) (v : Value), l[j]? = some i → cs[j]? = some v → w.cell? (a.add i) = some v := by
    intro l
    induction l with
    | nil => intro cs h; simp at h; subst h; simp
    | cons i l ih =>
      intro cs h
      rw [List.mapM_cons] at h
      obtain ⟨v, hv, h⟩ := Option.bind_eq_some_iff.1 h
      obtain ⟨vs, hvs, h⟩ := Option.bind_eq_some_iff.1 h
      cases h
      obtain ⟨h1, h2⟩ := ih vs hvs
      refine ⟨by simp [h1], fun j i' v' hi hj => ?_⟩
      cases j with
      | zero => simp at hi hj; subst hi; subst hj; exact hv
      | succ j => exact h2 j i' v' (by simpa using hi) (by simpa using hj)
  obtain ⟨h1, h2⟩ := key _ _ h
  refine ⟨by simpa using h1, fun j v hj => h2 j j v ?_ hj⟩
  have : j < cs.length := (List.getElem?_eq_some_iff.1 hj).1
  rw [List.getElem?_range (by rw [h1] at this; simpa using this)]

theorem cell_place {w : World} {a : Addr} {v : Value} (h : w.cell? a = some v) : a.spot = none ∧ a.block < w.heap.size := by
  unfold World.cell? at h
  split at h
  · rename_i c _ _ hb
    split at h
    · cases h
    · rename_i hs
      refine ⟨by simpa using hs, ?_⟩
      exact (Array.getElem?_eq_some_iff.1 hb).1
  · cases h

theorem choose_list {α : Type} {n : Nat} {Q : Nat → α → Prop} (h : ∀ i, i < n → ∃ x, Q i x) : ∃ l : List α, l.length = n ∧ ∀ i x, l[i]? = some x → Q i x := by
  induction n with
  | zero => exact ⟨[], rfl, by simp⟩
  | succ n ih =>
    obtain ⟨l, hl, hq⟩ := ih (fun i hi => h i (by omega))
    obtain ⟨x, hx⟩ := h n (by omega)
    refine ⟨l ++ [x], by simp [hl], fun i y hi => ?_⟩
    by_cases e : i < n
    · rw [List.getElem?_append_left (by omega)] at hi; exact hq i y hi
    · rw [List.getElem?_append_right (by omega)] at hi
      have : i = n := by
        have := (List.getElem?_eq_some_iff.1 hi).1
        simp at this; omega
      subst this
      simp [hl] at hi; subst hi; exact hx

def Opf (P : Program) (fs : List Field) (off : Nat) {α : Type} (enc : α → List SV) (G : α → Prop) : Prop :=
  ∀ {H : Type} (te : TypeId × Value → H) (w : World) (fuel : Nat) (cs : List Value) (x : List (DataW H × List MemPlace)),
    (fs.mapM fun f => DataW.trod te P w 0 (fun _ => true) true fuel f.type ((cs.drop f.offset).take (P.cellsOf f.type))) = some x → ∃ a, G a ∧ All2 (fun s v => s.C w (Old w) v) (enc a) (cs.drop off |>.take (enc a).length)
theorem all2_len_take {α β : Type} {R : α → β → Prop} {l : List α} {m : List β} {n : Nat} (h : All2 R l (m.take n)) : All2 R l (m.take l.length) := by
  have := h.length
  simp only [List.length_take] at this
  rw [this]
  by_cases e : n ≤ m.length
  · rw [Nat.min_eq_left e]; exact h
  · rw [Nat.min_eq_right (by omega), List.take_of_length_le (Nat.le_refl _)]
    rwa [List.take_of_length_le (by omega)] at h
def Opa (P : Program) (e : TypeId) (is : List Nat) (off : Nat) {α : Type} (enc : α → List SV) (G : α → Prop) : Prop :=
  ∀ {H : Type} (te : TypeId × Value → H) (w : World) (fuel : Nat) (cs : List Value) (x : List (DataW H × List MemPlace)),
    (is.mapM fun i => DataW.trod te P w 0 (fun _ => true) true fuel e ((cs.drop (i * P.cellsOf e)).take (P.cellsOf e))) = some x → ∃ a, G a ∧ All2 (fun s v => s.C w (Old w) v) (enc a) (cs.drop off |>.take (enc a).length)
def OpnN (P : Program) (t : TypeId) {α : Type} (enc : α → List SV) (G : α → Prop) (N : Nat) : Prop :=
  ∀ {H : Type} (te : TypeId × Value → H) (w : World) (fuel : Nat) (cs : List Value) (x : DataW H × List MemPlace), fuel ≤ N → DataW.trod te P w 0 (fun _ => true) true fuel t cs = some x →
    ∃ a, G a ∧ All2 (fun s v => s.C w (Old w) v) (enc a) cs
def OpfN (P : Program) (fs : List Field) (off : Nat) {α : Type} (enc : α → List SV) (G : α → Prop) (N : Nat) : Prop :=
  ∀ {H : Type} (te : TypeId × Value → H) (w : World) (fuel : Nat) (cs : List Value) (x : List (DataW H × List MemPlace)), fuel ≤ N →
    (fs.mapM fun f => DataW.trod te P w 0 (fun _ => true) true fuel f.type ((cs.drop f.offset).take (P.cellsOf f.type))) = some x → ∃ a, G a ∧ All2 (fun s v => s.C w (Old w) v) (enc a) (cs.drop off |>.take (enc a).length)
def Light {H : Type} (P : Program) (t : TypeId) (d : DataW H) : Prop := ∀ n ∈ d.weights P t, n ≤ reachBytes
theorem light_all {H : Type} {e : TypeId} {d : DataW H} : ∀ {l : List (DataW H)}, d ∈ l → ∀ n ∈ d.weights P e, n ∈ DataW.weightsAll P e l
  | x :: l, h, n, hn => by
    rw [DataW.weightsAll]
    rcases List.mem_cons.1 h with e1 | e1
    · subst e1; exact List.mem_append_left _ hn
    · exact List.mem_append_right _ (light_all e1 n hn)
def OpnW (P : Program) (t : TypeId) {α : Type} (enc : α → List SV) (G : α → Prop) (N : Nat) : Prop :=
  ∀ {H : Type} (te : TypeId × Value → H) (w : World) (fuel : Nat) (cs : List Value) (x : DataW H × List MemPlace), fuel ≤ N → DataW.trod te P w 0 (fun _ => true) true fuel t cs = some x → Light P t x.1 →
    ∃ a, G a ∧ All2 (fun s v => s.C w (Old w) v) (enc a) cs
def OpfW (P : Program) (fs : List Field) (off : Nat) {α : Type} (enc : α → List SV) (G : α → Prop) (N : Nat) : Prop :=
  ∀ {H : Type} (te : TypeId × Value → H) (w : World) (fuel : Nat) (cs : List Value) (x : List (DataW H × List MemPlace)), fuel ≤ N →
    (fs.mapM fun f => DataW.trod te P w 0 (fun _ => true) true fuel f.type ((cs.drop f.offset).take (P.cellsOf f.type))) = some x → (∀ n ∈ DataW.weightsEach P (fs.map (·.type)) (x.map (·.1)), n ≤ reachBytes) →
    ∃ a, G a ∧ All2 (fun s v => s.C w (Old w) v) (enc a) (cs.drop off |>.take (enc a).length)
theorem opnw_of {α : Type} {enc : α → List SV} {G : α → Prop} {N : Nat} (h : Opn P t enc G) : OpnW P t enc G N := fun te w fuel cs x _ hx _ => h te w fuel cs x hx
theorem opnw_map {α β : Type} {enc : α → List SV} {G : α → Prop} {enc' : β → List SV} {G' : β → Prop} {N : Nat} (f : α → β) (hG : ∀ a, G a → G' (f a)) (he : ∀ a, enc' (f a) = enc a) (h : OpnW P t enc G N) : OpnW P t enc' G' N := fun te w fuel cs x hf hx hl => by
  obtain ⟨a, ha, hb⟩ := h te w fuel cs x hf hx hl
  exact ⟨f a, hG a ha, by rw [he]; exact hb⟩
theorem opnw_rec {α : Type} {enc : α → List SV} {G : α → Prop} (h : ∀ N, OpnW P t enc G N → OpnW P t enc G (N + 2)) : ∀ N, OpnW P t enc G N := by
  intro N
  induction N with
  | zero =>
    intro H te w fuel cs x hf hx _
    obtain rfl : fuel = 0 := by omega
    simp [DataW.trod] at hx
  | succ N ih =>
    intro H te w fuel cs x hf hx hl
    exact h N ih te w fuel cs x (by omega) hx hl
theorem opnw_sl {α : Type} {K : Kd α} {e : TypeId} {G : α → Prop} {N : Nat} (ht : P.underlying t = some (.slice e)) (he : OpnW P e K.enc G N) (hc : P.cellsOf e = K.size) (hK : 0 < K.size) {bytes : Nat} (hby : P.bytesOf e = bytes) :
    OpnW P t (fun xs : List α => [Sl K xs]) (fun xs => xs.length * bytes ≤ reachBytes ∧ ∀ x ∈ xs, G x) (N + 1) := fun te w fuel cs x hf h hlt0 => by
  rcases DataW.trod_slice ht h with ⟨rfl, _⟩ | ⟨a, len, m, elems, rest, n, hfn, rfl, hxe, _, hl, hm, hlen, hx, _⟩
  · exact ⟨[], ⟨by simp, by simp⟩, ⟨⟨none, 0, rfl, Nat.le_refl _, fun hn => absurd rfl hn⟩, rfl⟩, trivial⟩
  · have hx1 : x.1 = .slice (elems.map (·.1)) (rest.map (·.1)) := by rw [hxe]
    rw [hx1] at hlt0
    have hw : ∀ n ∈ (elems.length + rest.length) * P.bytesOf e :: (DataW.weightsAll P e (elems.map (·.1)) ++ DataW.weightsAll P e (rest.map (·.1))), n ≤ reachBytes := by
      intro n hn
      refine hlt0 n ?_
      simp only [DataW.weights, ht, List.length_map]
      exact hn
    have hw0 := hw _ (List.mem_cons_self ..)
    obtain ⟨xs, hxl, hxs⟩ := choose_list (α := α) (n := len) (Q := fun i y => G y ∧ ∃ cs', w.cells? 0 (a.add (i * P.cellsOf e)) (P.cellsOf e) = some cs' ∧ All2 (fun s v => s.C w (Old w) v) (K.enc y) cs') (fun i hi => by
      have hb := hx i hi
      rw [List.getElem?_eq_getElem (show i < elems.length by omega)] at hb
      obtain ⟨cs', h1, h2⟩ := Option.bind_eq_some_iff.1 hb
      obtain ⟨y, hG, hy⟩ := he te w n cs' _ (by omega) h2 (fun q hq => hw q (List.mem_cons_of_mem _ (List.mem_append_left _ (light_all (List.mem_map.2 ⟨_, List.getElem_mem (show i < elems.length by omega), rfl⟩) q hq))))
      exact ⟨y, hG, cs', h1, hy⟩)
    refine ⟨xs, ⟨Nat.le_trans (Nat.mul_le_mul (show xs.length ≤ elems.length + rest.length by omega) (Nat.le_of_eq hby.symm)) hw0, fun y hy => ?_⟩, ⟨⟨some a, m, by rw [hxl], by omega, fun hne => ?_⟩, rfl⟩, trivial⟩
    · obtain ⟨i, hi⟩ := List.mem_iff_getElem?.1 hy
      exact (hxs i y hi).1
    · cases xs with
      | nil => exact absurd rfl hne
      | cons y ys =>
        obtain ⟨_, cs0, h0, hy0⟩ := hxs 0 y rfl
        obtain ⟨hl0, hg0⟩ := cells?_get h0
        have hlt : 0 < cs0.length := by rw [hl0, hc]; exact hK
        have hcell := hg0 0 cs0[0] (by simp [hlt])
        obtain ⟨hs, hb⟩ := cell_place hcell
        have ea : a = ⟨a.block, a.off, none⟩ := by
          have : a.spot = none := by
            simp only [Nat.zero_mul] at hs
            unfold Addr.add at hs
            simpa using hs
          cases a; simp_all
        have hb' : a.block < w.heap.size := by
          simp only [Nat.zero_mul] at hb
          unfold Addr.add at hb
          simpa using hb
        refine ⟨a.block, a.off, by rw [← ea], hb', fun i x hi j s hj => ?_⟩
        obtain ⟨_, cs', h1, hall⟩ := hxs i x hi
        obtain ⟨v, hv, hR⟩ := hall.get hj
        refine ⟨v, ?_, hR⟩
        have := (cells?_get h1).2 j v hv
        rw [addr_add_add, ea, addr_add, hc] at this
        rwa [Nat.add_assoc]
theorem opfw_one {f : Field} {α : Type} {enc : α → List SV} {G : α → Prop} {off N : Nat} (h : OpnW P f.type enc G N) (ho : f.offset = off) : OpfW P [f] off enc G N := fun te w fuel cs x hf hx hl => by
  simp only [List.mapM_cons, List.mapM_nil] at hx
  obtain ⟨y, hy, hxe⟩ := Option.bind_eq_some_iff.1 hx
  have hxe : x = [y] := by simpa using hxe.symm
  subst hxe
  obtain ⟨a, hG, ha⟩ := h te w fuel _ _ hf hy (fun n hn => hl n (by simp only [List.map_cons, List.map_nil, DataW.weightsEach]; exact List.mem_append_left _ hn))
  subst ho
  exact ⟨a, hG, all2_len_take ha⟩
theorem opfw_cons {f : Field} {fs : List Field} {α β : Type} {enc : α → List SV} {G : α → Prop} {enc' : β → List SV} {G' : β → Prop} {off n N : Nat} (h : OpnW P f.type enc G N) (ho : f.offset = off) (hn : ∀ a, (enc a).length = n) (hr : OpfW P fs (off + n) enc' G' N) :
    OpfW P (f :: fs) off (fun p : α × β => enc p.1 ++ enc' p.2) (fun p => G p.1 ∧ G' p.2) N := fun te w fuel cs x hf hx hl => by
  rw [List.mapM_cons] at hx
  obtain ⟨y, hy, hx⟩ := Option.bind_eq_some_iff.1 hx
  obtain ⟨ys, hys, hxe⟩ := Option.bind_eq_some_iff.1 hx
  have hxe : x = y :: ys := by simpa using hxe.symm
  subst hxe
  simp only [List.map_cons, DataW.weightsEach] at hl
  obtain ⟨a, hG, ha⟩ := h te w fuel _ _ hf hy (fun n hn => hl n (List.mem_append_left _ hn))
  obtain ⟨b, hG', hb⟩ := hr te w fuel cs ys hf hys (fun n hn => hl n (List.mem_append_right _ hn))
  subst ho
  refine ⟨(a, b), ⟨hG, hG'⟩, ?_⟩
  have h1 := all2_len_take ha
  have e : (cs.drop f.offset).take (enc a ++ enc' b).length = (cs.drop f.offset).take (enc a).length ++ ((cs.drop (f.offset + n)).take (enc' b).length) := by
    rw [List.length_append, List.take_add, List.drop_drop, hn a]
  rw [e]
  exact h1.append hb
theorem opnw_struct {fs : List Field} {α : Type} {enc : α → List SV} {G : α → Prop} {n N : Nat} (ht : P.underlying t = some (.struct ⟨fs⟩)) (hc : P.cellsOf t = n) (hn : ∀ a, (enc a).length = n) (hf : OpfW P fs 0 enc G N) : OpnW P t enc G (N + 1) := fun te w fuel cs x hfu h hlt0 => by
  cases fuel with
  | zero => simp [DataW.trod] at h
  | succ fuel =>
    have h' : (if cs.length = P.cellsOf t then (fs.mapM fun f => DataW.trod te P w 0 (fun _ => true) true fuel f.type ((cs.drop f.offset).take (P.cellsOf f.type))).map fun xs => (DataW.agg (xs.map (·.1)), xs.flatMap (·.2)) else none) = some x := by
      rw [← h]
      simp only [DataW.trod, ht]
    split at h'
    · rename_i hl
      obtain ⟨xs, hxs, hxe⟩ := Option.map_eq_some_iff.1 h'
      subst hxe
      obtain ⟨a, hG, ha⟩ := hf te w fuel cs xs (by omega) hxs (fun n hn => hlt0 n (by simp only [DataW.weights, ht]; exact hn))
      refine ⟨a, hG, ?_⟩
      rw [List.drop_zero, hn a, List.take_of_length_le (by omega)] at ha
      exact ha
    · cases h'

theorem opnw_up {α : Type} {enc : α → List SV} {G : α → Prop} {N : Nat} (h : OpnW P t enc G (N + 1)) : OpnW P t enc G N := fun te w fuel cs x hf hx hl => h te w fuel cs x (by omega) hx hl
theorem open_strw {H : Type} {te : TypeId × Value → H} {w : World} {r : Reach} {b : Nat} {v : Value} {d : DataW H} {ps : List MemPlace} {α : Type} {enc : α → List SV} {G : α → Prop} {fs : Array Field} (ho : ∀ N, OpnW P t enc G N) (ht : P.underlying t = some (.struct fs))
    (hv : Value.okWide P w r b t v) (hd : DataW.Trod te P w 0 (fun _ => true) true t v d ps) (hl : Light P t d) : ∃ x, G x ∧ (Ag (enc x)).R w (Old w) v := by
  obtain ⟨fuel, hd⟩ := hd
  obtain ⟨x, hG, hx⟩ := ho fuel te w fuel _ _ (Nat.le_refl _) hd hl
  simp only [Value.okWide, ht] at hv
  obtain ⟨cs, rfl, _⟩ := hv
  exact ⟨x, hG, cs.toList, rfl, hx⟩
theorem light_arg {H : Type} {ts : List TypeId} {ds : List (DataW H)} (h : (DataW.weightsEach P ts ds).all (· ≤ reachBytes) = true) {j : Nat} {d : DataW H} (ht : ts[j]? = some t) (hd : ds[j]? = some d) : Light P t d := fun n hn => by
  have := List.all_eq_true.1 h n (DataW.weights_mem_each ht hd n hn)
  simpa using this

end

/-! ### the row -/
theorem trod_later {H : Type} {te : TypeId × Value → H} {P : Program} (hl : laidOutB P = true) {W W' : World} (hb : Go.RowKit.Below W.heap.size W W') : ∀ {ts : List TypeId} {vs : List Value} {ds : List (DataW H)} {ps : List MemPlace},
    ts.all (fun t => P.readableRec t && decide (t < P.types.size)) = true → (∀ x ∈ ps, x.block < W.heap.size) → DataW.TrodAll te P W 0 (fun _ => true) true ts vs ds ps → DataW.TrodAll te P W' 0 (fun b => decide (b < W.heap.size)) true ts vs ds ps
  | [], [], [], _, _, _, h => h
  | [], _ :: _, _, _, _, _, h => by simp [DataW.TrodAll] at h
  | [], [], _ :: _, _, _, _, h => by simp [DataW.TrodAll] at h
  | _ :: _, [], _, _, _, _, h => by simp [DataW.TrodAll] at h
  | _ :: _, _ :: _, [], _, _, _, h => by simp [DataW.TrodAll] at h
  | t :: ts, v :: vs, d :: ds, ps, hr, hlt, ⟨p, q, h1, h2, e⟩ => by
    subst e
    simp only [List.all_cons, Bool.and_eq_true, decide_eq_true_eq] at hr
    exact ⟨p, q, Below.trod hl hr.1.1 hr.1.2 h1 hb (fun x hx => hlt x (List.mem_append.2 (.inl hx))), trod_later hl hb hr.2 (fun x hx => hlt x (List.mem_append.2 (.inr hx))) h2, rfl⟩

theorem law_post {H : Type} {te : TypeId × Value → H} {P : Program} {f : Func} {s : ChangeSpec} {W W' : World} {args : Array Value} {ds : List (DataW H)} {before : List MemPlace} {tb : TypeId}
    (hs : s.vars = []) (hspec : s.fn H (ds ++ []) = { results := [.lit (.bool true)], args := ds })
    (hW : DataW.Whole te P f.params.toList s.vars false W args.toList ds [] before) (hb : Go.RowKit.Below W.heap.size W W') (hl : laidOutB P = true)
    (hp : f.params.toList.all (fun t => P.readableRec t && decide (t < P.types.size)) = true) (hres : f.resultTypes = #[tb]) (htb : P.underlying tb = some .bool) :
    s.post te P f false true false false W args (.bool true) W' := by
  have hlt := hW.lt
  have hW2 := hW
  obtain ⟨p, q, hA, hV, e, hfz, hnd⟩ := hW2
  rw [hs] at hV
  have hq : q = [] := hV
  subst hq
  refine ⟨ds, [], before, [], p, [], hW, ?_, ?_, ?_, hb.frame _, fun h => by cases h⟩
  · rw [hspec, hres]
    exact trodAll_mk1 (shut_bool htb true)
  · rw [hspec]
    exact trod_later hl hb hp (fun x hx => hlt x (by rw [e]; simpa using hx)) hA
  · rw [hspec, hs]
    rfl

/-! openings that know how much there is: B is a measure of what is read -/
structure Bk (B : (H : Type) → DataW H → Nat) : Prop where
  one : ∀ (H : Type) (d : DataW H), 1 ≤ B H d
  sl : ∀ (H : Type) (l s : List (DataW H)), (l.map (B H)).sum + 1 ≤ B H (.slice l s)
def OpnB (B : (H : Type) → DataW H → Nat) (P : Program) (t : TypeId) {α : Type} (enc : α → List SV) (G : α → Prop) (M : α → Nat) : Prop :=
  ∀ {H : Type} (te : TypeId × Value → H) (w : World) (fuel : Nat) (cs : List Value) (x : DataW H × List MemPlace), DataW.trod te P w 0 (fun _ => true) true fuel t cs = some x →
    ∃ a, G a ∧ All2 (fun s v => s.C w (Old w) v) (enc a) cs ∧ M a ≤ B H x.1
def GOkL (l : List (Nat × List SV)) (w : World) : Prop := ∀ p ∈ l, Old w p.1 ∧ Cells w (Old w) p.1 0 p.2
def litOf : DataW Unit → Option Value
  | .lit (.float k b) => some (.float k b)
  | .lit (.int k n) => some (.int k n)
  | _ => none
theorem Fp.call {P : Program} {f : Nat} {A : List SV} {r : SV} (h : Fp P f A r) {w : World} {args : List Value} (ha : All2 (fun s v => s.R w (Old w) v) A args) (hg : GOk w (Old w)) :
    Calls P f args.toArray w fun e w' => ∃ v, ∃ U' : Nat → Prop, e = .returned v ∧ r.R w' U' v ∧ Go.RowKit.Below w.heap.size w w' :=
  (h w (Old w) args ha (by simp) (by simp) (by simp) (fun k hk => hk) hg).mono fun e w' ⟨x, v, U', he, hr, _, _, _, _, _, _, hx⟩ => ⟨v, U', he, hr, hx.below⟩
end Go.Sx
