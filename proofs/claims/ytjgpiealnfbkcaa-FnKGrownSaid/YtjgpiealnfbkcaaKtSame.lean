/-
  Two lists that have the same points, each as often. Plain; ours.
-/
import Derived.Test.YtjgpiealnfbkcaaKtBase
namespace Go.Proofs.Ytjgpiealnfbkcaa
open Go.Sx
set_option linter.unusedVariables false
set_option linter.unusedSimpArgs false
set_option maxRecDepth 100000

noncomputable def cls (p : List Nat) : List Int := p.map cv
theorem same_is (k : Nat) {m : Nat} {p q : List Nat} (hp : Pg m p) (hq : Pg m q) (hm : m < 1000) (hk : m < k) : spec_SamePoint k p q = some (decide (cls p = cls q)) := by
  have D1 : ∀ i (h : i < p.length), D p[i] (cv p[i]) 1074 := fun i h => cv_is (hp.2 _ (List.getElem_mem h))
  have D2 : ∀ i (h : i < q.length), D q[i] (cv q[i]) 1074 := fun i h => cv_is (hq.2 _ (List.getElem_mem h))
  have hl : p.length = q.length := by rw [hp.1, hq.1]
  unfold spec_SamePoint
  rw [decide_eq_true (by rw [hl]), Bool.not_true, br_false]
  obtain ⟨y, e1, e2⟩ := loop_inv (F := spec_SamePoint_l1 p q) 0 (fun r v => ∃ i : Nat, v = (i : Int) ∧ i + r = m ∧ ∀ j (h1 : j < p.length) (h2 : j < q.length), j < i → cv p[j] = cv q[j]) (fun y => (y = .inl () ∧ cls p ≠ cls q) ∨ (y = .inr () ∧ cls p = cls q)) (fun k r v _ hI => by
    obtain ⟨i, rfl, h2, h3⟩ := hI
    by_cases hi : i < p.length
    · have hi2 : i < q.length := by omega
      by_cases hc : cv p[i] = cv q[i]
      · refine .inr ⟨r - 1, ((i + 1 : Nat) : Int), by have := hp.1; omega, ⟨i + 1, rfl, by have := hp.1; omega, fun j a1 a2 a3 => ?_⟩, ?_⟩
        · by_cases e : j = i
          · subst e; exact hc
          · exact h3 j a1 a2 (by omega)
        · simp only [spec_SamePoint_l1, spec_SamePoint_l1s, lt_true hi, br_true, idx_get hi, idx_get hi2, Option.bind_eq_bind, Option.bind_some, D_ne (D1 i hi) (D2 i hi2), decide_eq_true hc, Bool.not_true, br_false, iadd_one (show i < 9223372036854775807 by omega)]
      · refine .inl ⟨.inl (), ?_, .inl ⟨rfl, fun e => hc ?_⟩⟩
        · simp only [spec_SamePoint_l1, spec_SamePoint_l1s, lt_true hi, br_true, idx_get hi, idx_get hi2, Option.bind_eq_bind, Option.bind_some, D_ne (D1 i hi) (D2 i hi2), decide_eq_false hc, Bool.not_false]
        · have := congrArg (fun l => l[i]?) e
          simpa [cls, hi, hi2] using this
    · refine .inl ⟨.inr (), by simp only [spec_SamePoint_l1, spec_SamePoint_l1s, lt_false hi, br_false], .inr ⟨rfl, ?_⟩⟩
      refine List.ext_getElem (by simp [cls, hl]) fun j a1 a2 => ?_
      simp only [cls, List.length_map] at a1 a2
      simp only [cls, List.getElem_map]
      exact h3 j a1 a2 (by omega)) m 0 k ⟨0, rfl, by omega, fun j _ _ h => absurd h (Nat.not_lt_zero _)⟩ (by omega)
  rw [e1, sbind]
  rcases e2 with ⟨rfl, h⟩ | ⟨rfl, h⟩
  · rw [decide_eq_false h]
  · rw [decide_eq_true h]

/-- those that are not taken -/
def un : List (List Nat) → List Bool → List (List Nat)
  | x :: b, t :: tk => if t = true then un b tk else x :: un b tk
  | _, _ => []
theorem un_none : ∀ b : List (List Nat), un b (List.replicate b.length false) = b
  | [] => rfl
  | x :: b => by simp [un, List.replicate_succ, un_none b]
theorem un_take : ∀ (b : List (List Nat)) (tk : List Bool) (j : Nat) (hj : j < b.length), tk[j]? = some false → (un b tk).Perm (b[j] :: un b (tk.set j true))
  | x :: b, t :: tk, 0, _, h => by
    simp only [List.getElem?_cons_zero, Option.some.injEq] at h
    subst h
    simp [un]
  | x :: b, t :: tk, j + 1, hj, h => by
    simp only [List.getElem?_cons_succ] at h
    have ih := un_take b tk j (by simpa using hj) h
    simp only [un, List.set_cons_succ, List.getElem_cons_succ]
    by_cases ht : t = true
    · simp only [ht, if_true]; exact ih
    · simp only [ht, if_false]; exact (ih.cons x).trans (List.Perm.swap _ _ _)
  | x :: b, [], j, _, h => by simp at h
  | [], tk, j, hj, _ => absurd hj (Nat.not_lt_zero _)
theorem un_mem : ∀ (b : List (List Nat)) (tk : List Bool) (p : List Nat), tk.length = b.length → p ∈ un b tk → ∃ j, ∃ hj : j < b.length, tk[j]? = some false ∧ b[j] = p
  | x :: b, t :: tk, p, hl, h => by
    simp only [un] at h
    by_cases ht : t = true
    · simp only [ht, if_true] at h
      obtain ⟨j, hj, h1, h2⟩ := un_mem b tk p (by simpa using hl) h
      exact ⟨j + 1, by simpa using hj, by simpa using h1, by simpa using h2⟩
    · simp only [ht, if_false] at h
      rcases List.mem_cons.1 h with h | h
      · exact ⟨0, by simp, by simpa using ht, h.symm⟩
      · obtain ⟨j, hj, h1, h2⟩ := un_mem b tk p (by simpa using hl) h
        exact ⟨j + 1, by simpa using hj, by simpa using h1, by simpa using h2⟩
  | x :: b, [], p, hl, h => by simp at hl
  | [], tk, p, hl, h => by simp [un] at h

theorem among_one (k : Nat) {m : Nat} {b : List (List Nat)} {tk : List Bool} {p : List Nat} (hb : ∀ x ∈ b, Pg m x) (hp : Pg m p) (hm : m < 1000) (hl : b.length < 1000) (ht : tk.length = b.length) (hk : b.length + m + 1 < k) (hx : cls p ∈ (un b tk).map cls) :
    ∃ j, ∃ hj : j < b.length, tk[j]? = some false ∧ cls b[j] = cls p ∧ spec_Among_l2 b tk p k 0 = some (tk.set j true, true) := by
  obtain ⟨y, e1, e2⟩ := loop_inv (F := spec_Among_l2 b tk p) (m + 1) (fun r v => ∃ i : Nat, v = (i : Int) ∧ i + r = b.length ∧ ∀ j (hj : j < b.length), j < i → tk[j]? = some false → cls b[j] ≠ cls p)
    (fun y => ∃ j, ∃ hj : j < b.length, tk[j]? = some false ∧ cls b[j] = cls p ∧ y = (tk.set j true, true)) (fun k r v hk hI => by
      obtain ⟨i, rfl, h2, h3⟩ := hI
      by_cases hi : i < b.length
      · have hit : i < tk.length := by omega
        cases hti : tk[i] with
        | true =>
          refine .inr ⟨r - 1, ((i + 1 : Nat) : Int), by omega, ⟨i + 1, rfl, by omega, fun j hj h1 h4 => ?_⟩, ?_⟩
          · by_cases e : j = i
            · subst e; rw [List.getElem?_eq_getElem hit, hti] at h4; cases h4
            · exact h3 j hj (by omega) h4
          · simp only [spec_Among_l2, spec_Among_l2s, lt_true hi, br_true, idx_get hi, idx_get hit, Option.bind_eq_bind, Option.bind_some, hti, Bool.not_true, br_false, spec_Among_j4, iadd_one (show i < 9223372036854775807 by omega)]
        | false =>
          have hs := same_is k hp (hb _ (List.getElem_mem hi)) hm (by omega)
          by_cases hc : cls p = cls b[i]
          · refine .inl ⟨(tk.set i true, true), ?_, i, hi, by rw [List.getElem?_eq_getElem hit, hti], hc.symm, rfl⟩
            simp only [spec_Among_l2, spec_Among_l2s, lt_true hi, br_true, idx_get hi, idx_get hit, Option.bind_eq_bind, Option.bind_some, hti, Bool.not_false, hs, decide_eq_true hc, spec_Among_j4, Int.toNat_natCast]
          · refine .inr ⟨r - 1, ((i + 1 : Nat) : Int), by omega, ⟨i + 1, rfl, by omega, fun j hj h1 h4 => ?_⟩, ?_⟩
            · by_cases e : j = i
              · subst e; exact fun e => hc e.symm
              · exact h3 j hj (by omega) h4
            · simp only [spec_Among_l2, spec_Among_l2s, lt_true hi, br_true, br_false, idx_get hi, idx_get hit, Option.bind_eq_bind, Option.bind_some, hti, Bool.not_false, hs, decide_eq_false hc, spec_Among_j4, iadd_one (show i < 9223372036854775807 by omega)]
      · exfalso
        obtain ⟨x, x1, x2⟩ := List.mem_map.1 hx
        obtain ⟨j, hj, h4, h5⟩ := un_mem b tk x ht x1
        exact h3 j hj (by omega) h4 (by rw [h5, x2])) b.length 0 k ⟨0, rfl, by omega, fun j _ h => absurd h (Nat.not_lt_zero _)⟩ (by omega)
  obtain ⟨j, hj, h1, h2, rfl⟩ := e2
  exact ⟨j, hj, h1, h2, e1⟩

theorem points_is (k : Nat) {m : Nat} {a b : List (List Nat)} (ha : ∀ x ∈ a, Pg m x) (hb : ∀ x ∈ b, Pg m x) (hm : m < 1000) (hl : b.length < 1000) (hp : a.Perm b) (hk : a.length + b.length + m + 3 < k) : spec_SamePoints k a b = some true := by
  unfold spec_SamePoints
  rw [decide_eq_true (by rw [hp.length_eq]), br_true]
  unfold spec_Among
  have hmk : mk 1 false (b.length : Int) (b.length : Int) = some (List.replicate b.length false) := by rw [mk_some (by omega) (by omega) (by omega) (by omega)]; simp
  rw [hmk, sbind]
  obtain ⟨y, e1, e2⟩ := loop_inv (F := spec_Among_l3 a b) (b.length + m + 2) (fun r v => ∃ (tk : List Bool) (i : Nat), v = (tk, (i : Int)) ∧ i + r = a.length ∧ tk.length = b.length ∧ ((a.drop i).map cls).Perm ((un b tk).map cls)) (fun y => y = .inr ()) (fun k r v hk hI => by
    obtain ⟨tk, i, rfl, h2, h3, h4⟩ := hI
    by_cases hi : i < a.length
    · have ed : a.drop i = a[i] :: a.drop (i + 1) := List.drop_eq_getElem_cons hi
      obtain ⟨j, hj, q1, q2, q3⟩ := among_one k hb (ha _ (List.getElem_mem hi)) hm hl h3 (by omega) (h4.mem_iff.1 (List.mem_map.2 ⟨a[i], by rw [ed]; exact List.mem_cons_self, rfl⟩))
      refine .inr ⟨r - 1, (tk.set j true, ((i + 1 : Nat) : Int)), by omega, ⟨tk.set j true, i + 1, rfl, by omega, by simpa using h3, ?_⟩, ?_⟩
      · have h5 := (un_take b tk j hj q1).map cls
        rw [List.map_cons, q2] at h5
        rw [ed, List.map_cons] at h4
        exact (h4.trans h5).cons_inv
      · simp only [spec_Among_l3, spec_Among_l3s, lt_true hi, br_true, idx_get hi, Option.bind_eq_bind, Option.bind_some, q3, Bool.not_true, br_false, iadd_one (show i < 9223372036854775807 by have := hp.length_eq; omega)]
    · exact .inl ⟨.inr (), by simp only [spec_Among_l3, spec_Among_l3s, lt_false hi, br_false], rfl⟩) a.length (List.replicate b.length false, 0) k ⟨List.replicate b.length false, 0, rfl, by omega, by simp, by rw [un_none]; simpa using hp.map cls⟩ (by omega)
  rw [e1, sbind, e2]
  rfl
end Go.Proofs.Ytjgpiealnfbkcaa
