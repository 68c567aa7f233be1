/-
  How two segments of whole places meet, as the reference tells it. Ours.
-/
import Derived.Test.YthobbfpoooommaaGreatDzBase
namespace Go.Proofs.YthobbfpoooommaaGreat
open Go.Sx
open Ieee (signed)
set_option linter.unusedVariables false
set_option linter.unusedSimpArgs false
set_option maxRecDepth 100000

def orn (a b p : Int × Int) : Int := (b.1 - a.1) * (p.2 - a.2) - (b.2 - a.2) * (p.1 - a.1)
def btw (a b c : Int) : Prop := (a ≤ c ∧ c ≤ b) ∨ (b ≤ c ∧ c ≤ a)
instance (a b c : Int) : Decidable (btw a b c) := by unfold btw; infer_instance
def onS (p a b : Int × Int) : Prop := orn a b p = 0 ∧ btw a.1 b.1 p.1 ∧ btw a.2 b.2 p.2
instance (p a b : Int × Int) : Decidable (onS p a b) := by unfold onS; infer_instance
def lss (p q : Int × Int) : Prop := p.1 < q.1 ∨ (p.1 = q.1 ∧ p.2 < q.2)
instance (p q : Int × Int) : Decidable (lss p q) := by unfold lss; infer_instance
theorem sgn_le0 {m n : Int} : sgn (m - n) ≤ 0 ↔ m ≤ n := by unfold sgn; split <;> (try split) <;> omega
theorem sgn_lt0 {m n : Int} : sgn (m - n) < 0 ↔ m < n := by unfold sgn; split <;> (try split) <;> omega
theorem sgn_eq0 {m n : Int} : sgn (m - n) = 0 ↔ m = n := by unfold sgn; split <;> (try split) <;> omega
theorem pz_orn {k : Nat} {a b p : T6} {A B C : Int × Int} (hk : 1000 < k) (ha : Pz a A) (hb : Pz b B) (hp : Pz p C) :
    spec_Orient k a.1 a.2.1 a.2.2.1 a.2.2.2.1 a.2.2.2.2.1 a.2.2.2.2.2 b.1 b.2.1 b.2.2.1 b.2.2.2.1 b.2.2.2.2.1 b.2.2.2.2.2 p.1 p.2.1 p.2.2.1 p.2.2.2.1 p.2.2.2.2.1 p.2.2.2.2.2 = some (sgn (orn A B C)) := by
  obtain ⟨r1, q1, w1⟩ := dz_sub (k := k) hb.1 ha.1 (by omega) (by omega) (by omega)
  obtain ⟨r2, q2, w2⟩ := dz_sub (k := k) hp.2 ha.2 (by omega) (by omega) (by omega)
  obtain ⟨r3, q3, w3⟩ := dz_mul (k := k) w1 w2 (by omega) (by omega) (by omega) (by omega) (by omega)
  obtain ⟨r4, q4, w4⟩ := dz_sub (k := k) hb.2 ha.2 (by omega) (by omega) (by omega)
  obtain ⟨r5, q5, w5⟩ := dz_sub (k := k) hp.1 ha.1 (by omega) (by omega) (by omega)
  obtain ⟨r6, q6, w6⟩ := dz_mul (k := k) w4 w5 (by omega) (by omega) (by omega) (by omega) (by omega)
  obtain ⟨r7, q7, w7⟩ := dz_sub (k := k) w3 w6 (by omega) (by omega) (by omega)
  unfold spec_Orient spec_Cross
  rw [q1, sbind, q2, sbind, q3, sbind, q4, sbind, q5, sbind, q6, sbind, q7, sbind, sbind, dz_sign w7]
  rfl
theorem cmpz {k : Nat} {s s' : Bool} {l l' : List Int} {e e' m n : Int} (hk : 1000 < k) (h : Dz 1074 2 s l e m) (h' : Dz 1074 2 s' l' e' n) : spec_Dyadic_Cmp k s l e s' l' e' = some (sgn (m - n)) := dz_cmp h h' (by omega) (by omega) (by omega)
theorem pz_btw {k : Nat} {s s' s'' : Bool} {l l' l'' : List Int} {e e' e'' a b c : Int} (hk : 1000 < k) (ha : Dz 1074 2 s l e a) (hb : Dz 1074 2 s' l' e' b) (hc : Dz 1074 2 s'' l'' e'' c) :
    spec_Between k s l e s' l' e' s'' l'' e'' = some (decide (btw a b c)) := by
  unfold spec_Between
  rw [cmpz hk ha hc, sbind, cmpz hk hc hb]
  unfold spec_Between_j1
  rw [cmpz hk hb hc, cmpz hk hc ha]
  by_cases h1 : a ≤ c
  · rw [decide_eq_true (sgn_le0.2 h1), br_true, sbind]
    by_cases h2 : c ≤ b
    · rw [decide_eq_true (sgn_le0.2 h2), br_true, decide_eq_true (show btw a b c from .inl ⟨h1, h2⟩)]; rfl
    · rw [decide_eq_false (fun h => h2 (sgn_le0.1 h)), br_false, sbind]
      by_cases h3 : b ≤ c
      · rw [decide_eq_true (sgn_le0.2 h3), br_true, sbind]
        unfold spec_Between_j2 spec_Between_j3
        congr 1
        by_cases h4 : c ≤ a
        · rw [decide_eq_true (sgn_le0.2 h4), decide_eq_true (show btw a b c from .inr ⟨h3, h4⟩)]
        · rw [decide_eq_false (fun h => h4 (sgn_le0.1 h)), decide_eq_false (show ¬ btw a b c by unfold btw; omega)]
      · omega
  · rw [decide_eq_false (fun h => h1 (sgn_le0.1 h)), br_false, br_false, sbind]
    by_cases h3 : b ≤ c
    · rw [decide_eq_true (sgn_le0.2 h3), br_true, sbind]
      unfold spec_Between_j2 spec_Between_j3
      congr 1
      by_cases h4 : c ≤ a
      · rw [decide_eq_true (sgn_le0.2 h4), decide_eq_true (show btw a b c from .inr ⟨h3, h4⟩)]
      · omega
    · rw [decide_eq_false (fun h => h3 (sgn_le0.1 h)), br_false, decide_eq_false (show ¬ btw a b c by unfold btw; omega)]; rfl
theorem pz_on {k : Nat} {p a b : T6} {C A B : Int × Int} (hk : 1000 < k) (hp : Pz p C) (ha : Pz a A) (hb : Pz b B) :
    spec_OnSegment k p.1 p.2.1 p.2.2.1 p.2.2.2.1 p.2.2.2.2.1 p.2.2.2.2.2 a.1 a.2.1 a.2.2.1 a.2.2.2.1 a.2.2.2.2.1 a.2.2.2.2.2 b.1 b.2.1 b.2.2.1 b.2.2.2.1 b.2.2.2.2.1 b.2.2.2.2.2 = some (decide (onS C A B)) := by
  unfold spec_OnSegment
  rw [pz_orn hk ha hb hp, sbind, pz_btw hk ha.1 hb.1 hp.1]
  unfold spec_OnSegment_j1
  rw [pz_btw hk ha.2 hb.2 hp.2]
  by_cases h1 : orn A B C = 0
  · rw [decide_eq_true (sgn_zero.2 h1), br_true, sbind, sbind]
    by_cases h2 : btw A.1 B.1 C.1
    · rw [decide_eq_true h2, br_true]
      unfold spec_OnSegment_j2
      congr 1
      by_cases h3 : btw A.2 B.2 C.2
      · rw [decide_eq_true h3, decide_eq_true (show onS C A B from ⟨h1, h2, h3⟩)]
      · rw [decide_eq_false h3, decide_eq_false (fun h : onS C A B => h3 h.2.2)]
    · rw [decide_eq_false h2, br_false, decide_eq_false (fun h : onS C A B => h2 h.2.1)]; rfl
  · rw [decide_eq_false (fun h => h1 (sgn_zero.1 h)), br_false, br_false, decide_eq_false (fun h : onS C A B => h1 h.1)]; rfl
theorem pz_less {k : Nat} {p q : T6} {A B : Int × Int} (hk : 1000 < k) (hp : Pz p A) (hq : Pz q B) :
    spec_Less k p.1 p.2.1 p.2.2.1 p.2.2.2.1 p.2.2.2.2.1 p.2.2.2.2.2 q.1 q.2.1 q.2.2.1 q.2.2.2.1 q.2.2.2.2.1 q.2.2.2.2.2 = some (decide (lss A B)) := by
  unfold spec_Less
  rw [cmpz hk hp.1 hq.1, sbind, cmpz hk hp.2 hq.2]
  by_cases h1 : A.1 < B.1
  · rw [decide_eq_true (sgn_lt0.2 h1), br_true, decide_eq_true (show lss A B from .inl h1)]; rfl
  · rw [decide_eq_false (fun h => h1 (sgn_lt0.1 h)), br_false]
    by_cases h2 : A.1 = B.1
    · rw [decide_eq_true (sgn_eq0.2 h2), br_true, sbind]
      unfold spec_Less_j1 spec_Less_j2
      congr 1
      by_cases h3 : A.2 < B.2
      · rw [decide_eq_true (sgn_lt0.2 h3), decide_eq_true (show lss A B from .inr ⟨h2, h3⟩)]
      · rw [decide_eq_false (fun h => h3 (sgn_lt0.1 h)), decide_eq_false (show ¬ lss A B by unfold lss; omega)]
    · rw [decide_eq_false (fun h => h2 (sgn_eq0.1 h)), br_false, decide_eq_false (show ¬ lss A B by unfold lss; omega)]; rfl
theorem pz_same {k : Nat} {p q : T6} {A B : Int × Int} (hk : 1000 < k) (hp : Pz p A) (hq : Pz q B) :
    spec_Same k p.1 p.2.1 p.2.2.1 p.2.2.2.1 p.2.2.2.2.1 p.2.2.2.2.2 q.1 q.2.1 q.2.2.1 q.2.2.2.1 q.2.2.2.2.1 q.2.2.2.2.2 = some (decide (A = B)) := by
  unfold spec_Same
  rw [cmpz hk hp.1 hq.1, sbind, cmpz hk hp.2 hq.2]
  obtain ⟨a, a'⟩ := A
  obtain ⟨b, b'⟩ := B
  by_cases h1 : a = b
  · rw [decide_eq_true (sgn_eq0.2 h1), br_true, sbind]
    unfold spec_Same_j1
    congr 1
    by_cases h2 : a' = b'
    · rw [decide_eq_true (sgn_eq0.2 h2), decide_eq_true (by rw [h1, h2])]
    · rw [decide_eq_false (fun h => h2 (sgn_eq0.1 h)), decide_eq_false (fun h => h2 (by injection h))]
  · rw [decide_eq_false (fun h => h1 (sgn_eq0.1 h)), br_false, decide_eq_false (fun h => h1 (by injection h))]; rfl
/-! ### each once, in order -/
theorem lss_trans {p q r : Int × Int} (h : lss p q) (h' : lss q r) : lss p r := by unfold lss at *; omega
theorem lss_tri {p q : Int × Int} (h : ¬ lss p q) (h' : p ≠ q) : lss q p := by
  obtain ⟨a, b⟩ := p
  obtain ⟨c, d⟩ := q
  unfold lss at *
  have : ¬ (a = c ∧ b = d) := fun h => h' (by rw [h.1, h.2])
  simp only at *
  omega
theorem lss_irr {p : Int × Int} : ¬ lss p p := by unfold lss; omega
theorem all2_idx {xs : List T6} {vs : List (Int × Int)} (h : All2 Pz xs vs) {j : Nat} (hj : j < xs.length) : ∃ x v, idx xs (j : Int) = some x ∧ vs[j]? = some v ∧ Pz x v := by
  obtain ⟨v, hv, hp⟩ := h.get (List.getElem?_eq_getElem hj)
  exact ⟨_, v, idx_get hj, hv, hp⟩
theorem ins_loop {k0 : Nat} {xs : List T6} {vs : List (Int × Int)} {r : T6} {p : Int × Int} (h : All2 Pz xs vs) (hr : Pz r p) (hl : xs.length < 1000) : ∀ (n k i : Nat), xs.length - i = n → n + 2000 < k → i ≤ xs.length → (∀ (m : Nat) v, m < i → vs[m]? = some v → lss v p) →
    ∃ j : Nat, spec_Distinct_l1 xs r k (i : Int) = some (j : Int) ∧ j ≤ xs.length ∧ (∀ (m : Nat) v, m < j → vs[m]? = some v → lss v p) ∧ (∀ v, vs[j]? = some v → ¬ lss v p) := by
  have hlen := h.length
  intro n
  induction n with
  | zero =>
    intro k i hn hk hi hm
    obtain ⟨k, rfl⟩ : ∃ j, k = j + 1 := ⟨k - 1, by omega⟩
    refine ⟨i, ?_, hi, hm, fun v hv => ?_⟩
    · simp only [spec_Distinct_l1, spec_Distinct_l1s]
      rw [decide_eq_false (by omega), br_false]
      unfold spec_Distinct_j2
      rw [br_false]
    · rw [List.getElem?_eq_none (by omega)] at hv; cases hv
  | succ n ih =>
    intro k i hn hk hi hm
    obtain ⟨k, rfl⟩ : ∃ j, k = j + 1 := ⟨k - 1, by omega⟩
    obtain ⟨x, v, hx, hv, hp⟩ := all2_idx h (show i < xs.length by omega)
    simp only [spec_Distinct_l1, spec_Distinct_l1s]
    rw [decide_eq_true (by omega), br_true, hx, sbind, pz_less (k := k) (by omega) hp hr, sbind]
    unfold spec_Distinct_j2
    by_cases hlt : lss v p
    · rw [decide_eq_true hlt, br_true, show iadd .i64 (i : Int) 1 = ((i + 1 : Nat) : Int) by rw [iadd_i64 (by omega) (by omega)]; omega]
      refine ih k (i + 1) (by omega) (by omega) (by omega) fun m u hmi hu => ?_
      by_cases e : m = i
      · subst e; rw [hv] at hu; cases hu; exact hlt
      · exact hm m u (by omega) hu
    · rw [decide_eq_false hlt, br_false]
      exact ⟨i, rfl, hi, hm, fun u hu => by rw [hv] at hu; cases hu; exact hlt⟩
theorem cut_take {α : Type} {xs : List α} {j : Nat} (h : j ≤ xs.length) : cut xs 0 (j : Int) = some (xs.take j) := by
  unfold cut; rw [if_pos (by omega)]; simp
theorem cut_drop {α : Type} {xs : List α} {j : Nat} (h : j ≤ xs.length) : cut xs (j : Int) (xs.length : Int) = some (xs.drop j) := by
  unfold cut; rw [if_pos (by omega)]; simp
theorem dist_step {k : Nat} {xs : List T6} {vs : List (Int × Int)} {r : T6} {p : Int × Int} (hk : 5000 < k) (h : All2 Pz xs vs) (hr : Pz r p) (hl : xs.length < 1000) (hs : vs.Pairwise lss) (rec2 : List T6 × Int → Option (List T6)) (i : Int) :
    ∃ ys ws, ((spec_Distinct_l1 xs r k 0) >>= fun v19 => br (decide (v19 < (xs.length : Int))) ((idx xs v19) >>= fun r34 => (spec_Same k r34.1 r34.2.1 r34.2.2.1 r34.2.2.2.1 r34.2.2.2.2.1 r34.2.2.2.2.2 r.1 r.2.1 r.2.2.1 r.2.2.2.1 r.2.2.2.2.1 r.2.2.2.2.2) >>= fun r37 =>
      spec_Distinct_j3 k rec2 i xs v19 r r37) (spec_Distinct_j3 k rec2 i xs v19 r false)) = rec2 (ys, iadd .i64 i 1) ∧ All2 Pz ys ws ∧ ws.Pairwise lss ∧ (∀ v, v ∈ ws ↔ v ∈ vs ∨ v = p) ∧ ys.length ≤ xs.length + 1 := by
  have hlen := h.length
  obtain ⟨j, j1, j2, j3, j4⟩ := ins_loop (k0 := k) h hr hl xs.length k 0 (by omega) (by omega) (by omega) (fun m v hm => absurd hm (by omega))
  have j1' : spec_Distinct_l1 xs r k 0 = some (j : Int) := j1
  rw [j1', sbind]
  have hins : ∀ (hne : ∀ v, vs[j]? = some v → v ≠ p), ∃ ys ws, spec_Distinct_j3 k rec2 i xs (j : Int) r false = rec2 (ys, iadd .i64 i 1) ∧ All2 Pz ys ws ∧ ws.Pairwise lss ∧ (∀ v, v ∈ ws ↔ v ∈ vs ∨ v = p) ∧ ys.length ≤ xs.length + 1 := by
    intro hne
    refine ⟨xs.take j ++ (r :: xs.drop j), vs.take j ++ (p :: vs.drop j), ?_, ?_, ?_, ?_, ?_⟩
    · unfold spec_Distinct_j3
      rw [br_false, cut_drop j2, sbind, cut_take j2, sbind]
      have e1 : apd 80 [(r.1, r.2.1, r.2.2.1, r.2.2.2.1, r.2.2.2.2.1, r.2.2.2.2.2)] (xs.drop j) = some (r :: xs.drop j) := by
        rw [apd_some (by simp; omega) (by simp; omega)]; rfl
      rw [e1, sbind]
      have e2 : apdc 80 (xs.take j) (r :: xs.drop j) = some (xs.take j ++ (r :: xs.drop j)) := by
        unfold apdc; rw [if_neg (by simp), apd_some (by simp; omega) (by simp; omega)]
      rw [e2, sbind]; rfl
    · exact (h.take j).append ⟨hr, h.drop j⟩
    · rw [List.pairwise_append]
      have hmem : ∀ v ∈ vs.take j, lss v p := by
        intro v hv
        obtain ⟨m, hm⟩ := List.mem_iff_getElem?.1 hv
        rw [List.getElem?_take] at hm
        split at hm
        · rename_i hmj
          exact j3 m v hmj hm
        · cases hm
      have hgt : ∀ v ∈ vs.drop j, lss p v := by
        intro v hv
        cases hd : vs[j]? with
        | none =>
          rw [List.drop_of_length_le (by rw [List.getElem?_eq_none_iff] at hd; exact hd)] at hv
          cases hv
        | some u =>
          have hu : lss p u := lss_tri (j4 u hd) (hne u hd)
          have e : vs.drop j = u :: vs.drop (j + 1) := by
            rw [List.drop_eq_getElem_cons (List.getElem?_eq_some_iff.1 hd).1, (List.getElem?_eq_some_iff.1 hd).2]
          rw [e] at hv
          have hp := hs.sublist (List.drop_sublist j vs)
          rw [e, List.pairwise_cons] at hp
          rcases List.mem_cons.1 hv with rfl | hv
          · exact hu
          · exact lss_trans hu (hp.1 v hv)
      refine ⟨hs.sublist (List.take_sublist j vs), List.pairwise_cons.2 ⟨hgt, hs.sublist (List.drop_sublist j vs)⟩, fun a ha b hb => ?_⟩
      rcases List.mem_cons.1 hb with rfl | hb
      · exact hmem a ha
      · exact lss_trans (hmem a ha) (hgt b hb)
    · intro v
      rw [List.mem_append, List.mem_cons]
      conv => rhs; rw [← List.take_append_drop j vs, List.mem_append]
      constructor
      · rintro (h | h | h)
        · exact .inl (.inl h)
        · exact .inr h
        · exact .inl (.inr h)
      · rintro ((h | h) | h)
        · exact .inl h
        · exact .inr (.inr h)
        · exact .inr (.inl h)
    · simp; omega
  by_cases hj : j < xs.length
  · obtain ⟨x, v, hx, hv, hp⟩ := all2_idx h hj
    rw [decide_eq_true (by omega), br_true, hx, sbind, pz_same (k := k) (by omega) hp hr, sbind]
    by_cases he : v = p
    · rw [decide_eq_true he]
      refine ⟨xs, vs, ?_, h, hs, fun u => ⟨.inl, fun hu => ?_⟩, by omega⟩
      · unfold spec_Distinct_j3; rw [br_true]; rfl
      · rcases hu with hu | rfl
        · exact hu
        · rw [← he]; exact List.mem_of_getElem? hv
    · rw [decide_eq_false he]
      exact hins fun u hu => by rw [hv] at hu; cases hu; exact he
  · rw [decide_eq_false (by omega), br_false]
    exact hins fun u hu => by rw [List.getElem?_eq_none (by omega)] at hu; cases hu
theorem dist_loop {xs : List T6} {vs : List (Int × Int)} (h : All2 Pz xs vs) (hl : xs.length ≤ 400) : ∀ (n k i : Nat) (ys : List T6) (ws : List (Int × Int)), xs.length - i = n → n + 5000 < k → i ≤ xs.length → All2 Pz ys ws → ws.Pairwise lss → (∀ v, v ∈ ws ↔ v ∈ vs.take i) → ys.length ≤ i →
    ∃ zs us, spec_Distinct_l2 xs k (ys, (i : Int)) = some zs ∧ All2 Pz zs us ∧ us.Pairwise lss ∧ (∀ v, v ∈ us ↔ v ∈ vs) ∧ zs.length ≤ xs.length := by
  have hlen := h.length
  intro n
  induction n with
  | zero =>
    intro k i ys ws hn hk hi hy hs hm hyl
    obtain ⟨k, rfl⟩ : ∃ j, k = j + 1 := ⟨k - 1, by omega⟩
    refine ⟨ys, ws, ?_, hy, hs, fun v => ?_, by omega⟩
    · simp only [spec_Distinct_l2, spec_Distinct_l2s]
      rw [decide_eq_false (by omega), br_false]
    · rw [hm, List.take_of_length_le (by omega)]
  | succ n ih =>
    intro k i ys ws hn hk hi hy hs hm hyl
    obtain ⟨k, rfl⟩ : ∃ j, k = j + 1 := ⟨k - 1, by omega⟩
    obtain ⟨x, v, hx, hv, hp⟩ := all2_idx h (show i < xs.length by omega)
    simp only [spec_Distinct_l2, spec_Distinct_l2s]
    rw [decide_eq_true (by omega), br_true, hx, sbind]
    obtain ⟨zs, us, e1, e2, e3, e4, e5⟩ := dist_step (k := k) (by omega) hy hp (by omega) hs (spec_Distinct_l2 xs k) (i : Int)
    rw [e1, show iadd .i64 (i : Int) 1 = ((i + 1 : Nat) : Int) by rw [iadd_i64 (by omega) (by omega)]; omega]
    refine ih k (i + 1) zs us (by omega) (by omega) (by omega) e2 e3 (fun u => ?_) (by omega)
    rw [e4, hm, List.take_add_one, List.mem_append, hv]
    simp
theorem distinct_is {k : Nat} {xs : List T6} {vs : List (Int × Int)} (h : All2 Pz xs vs) (hl : xs.length ≤ 400) (hk : 6000 < k) :
    ∃ zs us, spec_Distinct k xs = some (xs, zs) ∧ All2 Pz zs us ∧ us.Pairwise lss ∧ (∀ v, v ∈ us ↔ v ∈ vs) ∧ zs.length ≤ xs.length := by
  obtain ⟨zs, us, e1, e2, e3, e4, e5⟩ := dist_loop h hl xs.length k 0 [] [] (by omega) (by omega) (by omega) trivial List.Pairwise.nil (fun v => by simp) (by simp)
  have e1' : spec_Distinct_l2 xs k ([], 0) = some zs := e1
  refine ⟨zs, us, ?_, e2, e3, e4, e5⟩
  unfold spec_Distinct
  rw [e1', sbind]
end Go.Proofs.YthobbfpoooommaaGreat
