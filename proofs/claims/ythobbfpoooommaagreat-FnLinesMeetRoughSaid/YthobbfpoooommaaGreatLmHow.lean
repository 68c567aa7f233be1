/-
  How two segments of whole places meet: the reference's answer in whole numbers. Ours.
-/
import Derived.Test.YthobbfpoooommaaGreatLmMeet
namespace Go.Proofs.YthobbfpoooommaaGreat
open Go.Sx
open Ieee (signed)
set_option linter.unusedVariables false
set_option linter.unusedSimpArgs false
set_option maxRecDepth 100000

theorem ml1_step {k : Nat} {a b c d : T6} {A B C D : Int × Int} (hk : 1000 < k) (ha : Pz a A) (hb : Pz b B) (hc : Pz c C) (hd : Pz d D) (ys : List T6) (ws : List (Int × Int)) (hy : All2 Pz ys ws) (hl : ys.length ≤ 100) (i : Nat) (x : T6) (p : Int × Int) (hx : [a, b][i]? = some x) (hp : Pz x p) :
    ∃ zs, spec_Meet_l1 a.1 a.2.1 a.2.2.1 a.2.2.2.1 a.2.2.2.2.1 a.2.2.2.2.2 b.1 b.2.1 b.2.2.1 b.2.2.2.1 b.2.2.2.2.1 b.2.2.2.2.2 c.1 c.2.1 c.2.2.1 c.2.2.2.1 c.2.2.2.2.1 c.2.2.2.2.2 d.1 d.2.1 d.2.2.1 d.2.2.2.1 d.2.2.2.2.1 d.2.2.2.2.2 (k + 1) (ys, (i : Int)) = spec_Meet_l1 a.1 a.2.1 a.2.2.1 a.2.2.2.1 a.2.2.2.2.1 a.2.2.2.2.2 b.1 b.2.1 b.2.2.1 b.2.2.2.1 b.2.2.2.2.1 b.2.2.2.2.2 c.1 c.2.1 c.2.2.1 c.2.2.2.1 c.2.2.2.2.1 c.2.2.2.2.2 d.1 d.2.1 d.2.2.1 d.2.2.2.1 d.2.2.2.2.1 d.2.2.2.2.2 k (zs, ((i + 1 : Nat) : Int)) ∧ All2 Pz zs (ws ++ [p].filter fun p => decide (onS p C D)) ∧ zs.length ≤ ys.length + 1 := by
  have hi : i < 2 := (List.getElem?_eq_some_iff.1 hx).1
  have hix : idx [a, b] (i : Int) = some x := by
    have e := idx_get (xs := [a, b]) (i := i) hi
    rw [e]; congr 1; exact (List.getElem?_eq_some_iff.1 hx).2
  have hinc : iadd .i64 (i : Int) 1 = ((i + 1 : Nat) : Int) := by rw [iadd_i64 (by omega) (by omega)]; omega
  show ∃ zs, spec_Meet_l1s a.1 a.2.1 a.2.2.1 a.2.2.2.1 a.2.2.2.2.1 a.2.2.2.2.2 b.1 b.2.1 b.2.2.1 b.2.2.2.1 b.2.2.2.2.1 b.2.2.2.2.2 c.1 c.2.1 c.2.2.1 c.2.2.2.1 c.2.2.2.2.1 c.2.2.2.2.2 d.1 d.2.1 d.2.2.1 d.2.2.2.1 d.2.2.2.2.1 d.2.2.2.2.2 k (spec_Meet_l1 a.1 a.2.1 a.2.2.1 a.2.2.2.1 a.2.2.2.2.1 a.2.2.2.2.2 b.1 b.2.1 b.2.2.1 b.2.2.2.1 b.2.2.2.2.1 b.2.2.2.2.2 c.1 c.2.1 c.2.2.1 c.2.2.2.1 c.2.2.2.2.1 c.2.2.2.2.2 d.1 d.2.1 d.2.2.1 d.2.2.2.1 d.2.2.2.2.1 d.2.2.2.2.2 k) ys (i : Int) = _ ∧ _
  unfold spec_Meet_l1s
  have hix' : idx [(a.1, a.2.1, a.2.2.1, a.2.2.2.1, a.2.2.2.2.1, a.2.2.2.2.2), (b.1, b.2.1, b.2.2.1, b.2.2.2.1, b.2.2.2.2.1, b.2.2.2.2.2)] (i : Int) = some x := hix
  rw [decide_eq_true (show (i : Int) < ((([(a.1, a.2.1, a.2.2.1, a.2.2.2.1, a.2.2.2.2.1, a.2.2.2.2.2), (b.1, b.2.1, b.2.2.1, b.2.2.2.1, b.2.2.2.2.1, b.2.2.2.2.2)] : List T6).length : Nat) : Int) by simp; omega), br_true, hix', sbind, pz_on hk hp hc hd, sbind]
  unfold spec_Meet_j2
  rw [hinc]
  by_cases h : onS p C D
  · refine ⟨ys ++ [x], ?_, ?_, by simp⟩
    · rw [decide_eq_true h, br_true]
      have e : apd 80 ys [(x.1, x.2.1, x.2.2.1, x.2.2.2.1, x.2.2.2.2.1, x.2.2.2.2.2)] = some (ys ++ [x]) := by rw [apd_some (by simp; omega) (by simp; omega)]
      rw [e, sbind]
    · rw [List.filter_cons_of_pos (by simp [h])]
      exact hy.append ⟨hp, trivial⟩
  · refine ⟨ys, ?_, ?_, by omega⟩
    · rw [decide_eq_false h, br_false]
    · rw [List.filter_cons_of_neg (by simp [h])]
      simpa using hy
theorem ml1_is {k : Nat} {a b c d : T6} {A B C D : Int × Int} (hk : 2000 < k) (ha : Pz a A) (hb : Pz b B) (hc : Pz c C) (hd : Pz d D) (ys : List T6) (ws : List (Int × Int)) (hy : All2 Pz ys ws) (hl : ys.length ≤ 50) :
    ∃ zs, spec_Meet_l1 a.1 a.2.1 a.2.2.1 a.2.2.2.1 a.2.2.2.2.1 a.2.2.2.2.2 b.1 b.2.1 b.2.2.1 b.2.2.2.1 b.2.2.2.2.1 b.2.2.2.2.2 c.1 c.2.1 c.2.2.1 c.2.2.2.1 c.2.2.2.2.1 c.2.2.2.2.2 d.1 d.2.1 d.2.2.1 d.2.2.2.1 d.2.2.2.2.1 d.2.2.2.2.2 k (ys, 0) = some zs ∧ All2 Pz zs (ws ++ [A, B].filter fun p => decide (onS p C D)) ∧ zs.length ≤ ys.length + 2 := by
  obtain ⟨k, rfl⟩ : ∃ j, k = j + 3 := ⟨k - 3, by omega⟩
  obtain ⟨z1, e1, h1, l1⟩ := ml1_step (k := k + 2) (by omega) ha hb hc hd ys ws hy (by omega) 0 a A rfl ha
  obtain ⟨z2, e2, h2, l2⟩ := ml1_step (k := k + 1) (by omega) ha hb hc hd z1 _ h1 (by omega) 1 b B rfl hb
  refine ⟨z2, ?_, ?_, by omega⟩
  · have e1' : spec_Meet_l1 a.1 a.2.1 a.2.2.1 a.2.2.2.1 a.2.2.2.2.1 a.2.2.2.2.2 b.1 b.2.1 b.2.2.1 b.2.2.2.1 b.2.2.2.2.1 b.2.2.2.2.2 c.1 c.2.1 c.2.2.1 c.2.2.2.1 c.2.2.2.2.1 c.2.2.2.2.2 d.1 d.2.1 d.2.2.1 d.2.2.2.1 d.2.2.2.2.1 d.2.2.2.2.2 (k + 3) (ys, 0) = _ := e1
    rw [e1', e2]
    show spec_Meet_l1s a.1 a.2.1 a.2.2.1 a.2.2.2.1 a.2.2.2.2.1 a.2.2.2.2.2 b.1 b.2.1 b.2.2.1 b.2.2.2.1 b.2.2.2.2.1 b.2.2.2.2.2 c.1 c.2.1 c.2.2.1 c.2.2.2.1 c.2.2.2.2.1 c.2.2.2.2.2 d.1 d.2.1 d.2.2.1 d.2.2.2.1 d.2.2.2.2.1 d.2.2.2.2.2 k (spec_Meet_l1 a.1 a.2.1 a.2.2.1 a.2.2.2.1 a.2.2.2.2.1 a.2.2.2.2.2 b.1 b.2.1 b.2.2.1 b.2.2.2.1 b.2.2.2.2.1 b.2.2.2.2.2 c.1 c.2.1 c.2.2.1 c.2.2.2.1 c.2.2.2.2.1 c.2.2.2.2.2 d.1 d.2.1 d.2.2.1 d.2.2.2.1 d.2.2.2.2.1 d.2.2.2.2.2 k) z2 2 = _
    unfold spec_Meet_l1s
    rw [decide_eq_false (by simp), br_false]
  · rw [List.append_assoc, ← List.filter_append] at h2
    exact h2

theorem ml2_step {k : Nat} {a b c d : T6} {A B C D : Int × Int} (hk : 1000 < k) (ha : Pz a A) (hb : Pz b B) (hc : Pz c C) (hd : Pz d D) (ys : List T6) (ws : List (Int × Int)) (hy : All2 Pz ys ws) (hl : ys.length ≤ 100) (i : Nat) (x : T6) (p : Int × Int) (hx : [a, b][i]? = some x) (hp : Pz x p) :
    ∃ zs, spec_Meet_l2 a.1 a.2.1 a.2.2.1 a.2.2.2.1 a.2.2.2.2.1 a.2.2.2.2.2 b.1 b.2.1 b.2.2.1 b.2.2.2.1 b.2.2.2.2.1 b.2.2.2.2.2 c.1 c.2.1 c.2.2.1 c.2.2.2.1 c.2.2.2.2.1 c.2.2.2.2.2 d.1 d.2.1 d.2.2.1 d.2.2.2.1 d.2.2.2.2.1 d.2.2.2.2.2 (k + 1) (ys, (i : Int)) = spec_Meet_l2 a.1 a.2.1 a.2.2.1 a.2.2.2.1 a.2.2.2.2.1 a.2.2.2.2.2 b.1 b.2.1 b.2.2.1 b.2.2.2.1 b.2.2.2.2.1 b.2.2.2.2.2 c.1 c.2.1 c.2.2.1 c.2.2.2.1 c.2.2.2.2.1 c.2.2.2.2.2 d.1 d.2.1 d.2.2.1 d.2.2.2.1 d.2.2.2.2.1 d.2.2.2.2.2 k (zs, ((i + 1 : Nat) : Int)) ∧ All2 Pz zs (ws ++ [p].filter fun p => decide (onS p C D)) ∧ zs.length ≤ ys.length + 1 := by
  have hi : i < 2 := (List.getElem?_eq_some_iff.1 hx).1
  have hix : idx [a, b] (i : Int) = some x := by
    have e := idx_get (xs := [a, b]) (i := i) hi
    rw [e]; congr 1; exact (List.getElem?_eq_some_iff.1 hx).2
  have hinc : iadd .i64 (i : Int) 1 = ((i + 1 : Nat) : Int) := by rw [iadd_i64 (by omega) (by omega)]; omega
  show ∃ zs, spec_Meet_l2s a.1 a.2.1 a.2.2.1 a.2.2.2.1 a.2.2.2.2.1 a.2.2.2.2.2 b.1 b.2.1 b.2.2.1 b.2.2.2.1 b.2.2.2.2.1 b.2.2.2.2.2 c.1 c.2.1 c.2.2.1 c.2.2.2.1 c.2.2.2.2.1 c.2.2.2.2.2 d.1 d.2.1 d.2.2.1 d.2.2.2.1 d.2.2.2.2.1 d.2.2.2.2.2 k (spec_Meet_l2 a.1 a.2.1 a.2.2.1 a.2.2.2.1 a.2.2.2.2.1 a.2.2.2.2.2 b.1 b.2.1 b.2.2.1 b.2.2.2.1 b.2.2.2.2.1 b.2.2.2.2.2 c.1 c.2.1 c.2.2.1 c.2.2.2.1 c.2.2.2.2.1 c.2.2.2.2.2 d.1 d.2.1 d.2.2.1 d.2.2.2.1 d.2.2.2.2.1 d.2.2.2.2.2 k) ys (i : Int) = _ ∧ _
  unfold spec_Meet_l2s
  have hix' : idx [(a.1, a.2.1, a.2.2.1, a.2.2.2.1, a.2.2.2.2.1, a.2.2.2.2.2), (b.1, b.2.1, b.2.2.1, b.2.2.2.1, b.2.2.2.2.1, b.2.2.2.2.2)] (i : Int) = some x := hix
  rw [decide_eq_true (show (i : Int) < ((([(a.1, a.2.1, a.2.2.1, a.2.2.2.1, a.2.2.2.2.1, a.2.2.2.2.2), (b.1, b.2.1, b.2.2.1, b.2.2.2.1, b.2.2.2.2.1, b.2.2.2.2.2)] : List T6).length : Nat) : Int) by simp; omega), br_true, hix', sbind, pz_on hk hp hc hd, sbind]
  unfold spec_Meet_j4
  rw [hinc]
  by_cases h : onS p C D
  · refine ⟨ys ++ [x], ?_, ?_, by simp⟩
    · rw [decide_eq_true h, br_true]
      have e : apd 80 ys [(x.1, x.2.1, x.2.2.1, x.2.2.2.1, x.2.2.2.2.1, x.2.2.2.2.2)] = some (ys ++ [x]) := by rw [apd_some (by simp; omega) (by simp; omega)]
      rw [e, sbind]
    · rw [List.filter_cons_of_pos (by simp [h])]
      exact hy.append ⟨hp, trivial⟩
  · refine ⟨ys, ?_, ?_, by omega⟩
    · rw [decide_eq_false h, br_false]
    · rw [List.filter_cons_of_neg (by simp [h])]
      simpa using hy
theorem ml2_is {k : Nat} {a b c d : T6} {A B C D : Int × Int} (hk : 2000 < k) (ha : Pz a A) (hb : Pz b B) (hc : Pz c C) (hd : Pz d D) (ys : List T6) (ws : List (Int × Int)) (hy : All2 Pz ys ws) (hl : ys.length ≤ 50) :
    ∃ zs, spec_Meet_l2 a.1 a.2.1 a.2.2.1 a.2.2.2.1 a.2.2.2.2.1 a.2.2.2.2.2 b.1 b.2.1 b.2.2.1 b.2.2.2.1 b.2.2.2.2.1 b.2.2.2.2.2 c.1 c.2.1 c.2.2.1 c.2.2.2.1 c.2.2.2.2.1 c.2.2.2.2.2 d.1 d.2.1 d.2.2.1 d.2.2.2.1 d.2.2.2.2.1 d.2.2.2.2.2 k (ys, 0) = some zs ∧ All2 Pz zs (ws ++ [A, B].filter fun p => decide (onS p C D)) ∧ zs.length ≤ ys.length + 2 := by
  obtain ⟨k, rfl⟩ : ∃ j, k = j + 3 := ⟨k - 3, by omega⟩
  obtain ⟨z1, e1, h1, l1⟩ := ml2_step (k := k + 2) (by omega) ha hb hc hd ys ws hy (by omega) 0 a A rfl ha
  obtain ⟨z2, e2, h2, l2⟩ := ml2_step (k := k + 1) (by omega) ha hb hc hd z1 _ h1 (by omega) 1 b B rfl hb
  refine ⟨z2, ?_, ?_, by omega⟩
  · have e1' : spec_Meet_l2 a.1 a.2.1 a.2.2.1 a.2.2.2.1 a.2.2.2.2.1 a.2.2.2.2.2 b.1 b.2.1 b.2.2.1 b.2.2.2.1 b.2.2.2.2.1 b.2.2.2.2.2 c.1 c.2.1 c.2.2.1 c.2.2.2.1 c.2.2.2.2.1 c.2.2.2.2.2 d.1 d.2.1 d.2.2.1 d.2.2.2.1 d.2.2.2.2.1 d.2.2.2.2.2 (k + 3) (ys, 0) = _ := e1
    rw [e1', e2]
    show spec_Meet_l2s a.1 a.2.1 a.2.2.1 a.2.2.2.1 a.2.2.2.2.1 a.2.2.2.2.2 b.1 b.2.1 b.2.2.1 b.2.2.2.1 b.2.2.2.2.1 b.2.2.2.2.2 c.1 c.2.1 c.2.2.1 c.2.2.2.1 c.2.2.2.2.1 c.2.2.2.2.2 d.1 d.2.1 d.2.2.1 d.2.2.2.1 d.2.2.2.2.1 d.2.2.2.2.2 k (spec_Meet_l2 a.1 a.2.1 a.2.2.1 a.2.2.2.1 a.2.2.2.2.1 a.2.2.2.2.2 b.1 b.2.1 b.2.2.1 b.2.2.2.1 b.2.2.2.2.1 b.2.2.2.2.2 c.1 c.2.1 c.2.2.1 c.2.2.2.1 c.2.2.2.2.1 c.2.2.2.2.2 d.1 d.2.1 d.2.2.1 d.2.2.2.1 d.2.2.2.2.1 d.2.2.2.2.2 k) z2 2 = _
    unfold spec_Meet_l2s
    rw [decide_eq_false (by simp), br_false]
  · rw [List.append_assoc, ← List.filter_append] at h2
    exact h2

def mts (A B C D : Int × Int) : List (Int × Int) := ([A, B].filter fun p => decide (onS p C D)) ++ [C, D].filter fun p => decide (onS p A B)
def Hw (A B C D : Int × Int) (h : Int) : Prop :=
  (h = 2 ∧ ∃ p q, p ≠ q ∧ p ∈ mts A B C D ∧ q ∈ mts A B C D) ∨ (h = 1 ∧ (∃ p, p ∈ mts A B C D) ∧ ∀ p q, p ∈ mts A B C D → q ∈ mts A B C D → p = q) ∨
  (h = 1 ∧ (∀ p, p ∉ mts A B C D) ∧ sgn (orn A B C) * sgn (orn A B D) < 0 ∧ sgn (orn C D A) * sgn (orn C D B) < 0) ∨
  (h = 0 ∧ (∀ p, p ∉ mts A B C D) ∧ ¬ (sgn (orn A B C) * sgn (orn A B D) < 0 ∧ sgn (orn C D A) * sgn (orn C D B) < 0))
theorem sgn_imul (m n : Int) : imul .i64 (sgn m) (sgn n) = sgn m * sgn n := by
  unfold sgn; split <;> split <;> (try split) <;> (try split) <;> rfl
theorem meet_is {k : Nat} {a b c d : T6} {A B C D : Int × Int} (hk : 10000 < k) (ha : Pz a A) (hb : Pz b B) (hc : Pz c C) (hd : Pz d D) :
    ∃ r, spec_Meet k a.1 a.2.1 a.2.2.1 a.2.2.2.1 a.2.2.2.2.1 a.2.2.2.2.2 b.1 b.2.1 b.2.2.1 b.2.2.2.1 b.2.2.2.2.1 b.2.2.2.2.2 c.1 c.2.1 c.2.2.1 c.2.2.2.1 c.2.2.2.2.1 c.2.2.2.2.2 d.1 d.2.1 d.2.2.1 d.2.2.2.1 d.2.2.2.2.1 d.2.2.2.2.2 = some r ∧ Hw A B C D r.1 := by
  obtain ⟨z1, e1, h1, l1⟩ := ml1_is (k := k) (by omega) ha hb hc hd [] [] trivial (by simp)
  obtain ⟨z2, e2, h2, l2⟩ := ml2_is (k := k) (by omega) hc hd ha hb z1 _ h1 (by simp at l1; omega)
  obtain ⟨zs, us, e3, h3, s3, m3, l3⟩ := distinct_is (k := k) h2 (by simp at l1; omega) (by omega)
  have hm : ∀ v, v ∈ us ↔ v ∈ mts A B C D := by intro v; rw [m3]; simp [mts]
  have hlen := h3.length
  simp only [List.length_nil] at l1
  unfold spec_Meet
  rw [e1, sbind, e2, sbind, e3, sbind]
  by_cases c1 : 1 < zs.length
  · rw [decide_eq_true (show (1 : Int) < ((zs.length : Nat) : Int) by omega), br_true]
    obtain ⟨x0, v0, i0, w0, p0⟩ := all2_idx h3 (show 0 < zs.length by omega)
    obtain ⟨x1, v1, i1, w1, p1⟩ := all2_idx h3 (show zs.length - 1 < zs.length by omega)
    have i0' : idx zs 0 = some x0 := i0
    rw [i0', sbind, show isub .i64 (zs.length : Int) 1 = ((zs.length - 1 : Nat) : Int) by rw [isub_i64 (by omega) (by omega)]; omega, i1, sbind]
    refine ⟨_, rfl, .inl ⟨rfl, ?_⟩⟩
    obtain ⟨t, v0', hus⟩ : ∃ t v0', us = v0' :: t := by
      cases us with
      | nil => rw [List.length_nil] at hlen; omega
      | cons x t => exact ⟨t, x, rfl⟩
    obtain ⟨t', v1', ht⟩ : ∃ t' v1', t = v1' :: t' := by
      cases t with
      | nil => rw [hus, List.length_cons, List.length_nil] at hlen; omega
      | cons x t => exact ⟨t, x, rfl⟩
    rw [hus, ht, List.pairwise_cons] at s3
    have hlt := s3.1 v1' (by simp)
    refine ⟨v0', v1', fun e => ?_, (hm _).1 (by rw [hus]; simp), (hm _).1 (by rw [hus, ht]; simp)⟩
    rw [e] at hlt; exact lss_irr hlt
  · rw [decide_eq_false (show ¬ (1 : Int) < ((zs.length : Nat) : Int) by omega), br_false]
    by_cases c2 : zs.length = 1
    · rw [decide_eq_true (show ((zs.length : Nat) : Int) = 1 by omega), br_true]
      obtain ⟨x0, v0, i0, w0, p0⟩ := all2_idx h3 (show 0 < zs.length by omega)
      have i0' : idx zs 0 = some x0 := i0
      rw [i0', sbind, sbind]
      refine ⟨_, rfl, .inr (.inl ⟨rfl, ?_, ?_⟩)⟩
      · exact ⟨v0, (hm v0).1 (List.mem_of_getElem? w0)⟩
      · intro p q hp hq
        have hp := (hm p).2 hp
        have hq := (hm q).2 hq
        obtain ⟨x, hus⟩ := List.length_eq_one_iff.1 (show us.length = 1 by omega)
        rw [hus] at hp hq
        rw [List.mem_singleton.1 hp, List.mem_singleton.1 hq]
    · rw [decide_eq_false (show ¬ ((zs.length : Nat) : Int) = 1 by omega), br_false]
      have hnone : ∀ p, p ∉ mts A B C D := by
        intro p hp
        have := (hm p).2 hp
        have h0 : us = [] := List.length_eq_zero_iff.1 (by omega)
        rw [h0] at this; cases this
      rw [pz_orn (by omega) ha hb hc, sbind, pz_orn (by omega) ha hb hd, sbind, sgn_imul]
      unfold spec_Meet_j5
      by_cases c3 : sgn (orn A B C) * sgn (orn A B D) < 0
      · rw [decide_eq_true c3, br_true, pz_orn (by omega) hc hd ha, sbind, pz_orn (by omega) hc hd hb, sbind, sgn_imul]
        by_cases c4 : sgn (orn C D A) * sgn (orn C D B) < 0
        · rw [decide_eq_true c4, br_true]
          exact ⟨_, rfl, .inr (.inr (.inl ⟨rfl, hnone, c3, c4⟩))⟩
        · rw [decide_eq_false c4, br_false]
          exact ⟨_, rfl, .inr (.inr (.inr ⟨rfl, hnone, fun h => c4 h.2⟩))⟩
      · rw [decide_eq_false c3, br_false, br_false]
        exact ⟨_, rfl, .inr (.inr (.inr ⟨rfl, hnone, fun h => c3 h.1⟩))⟩
end Go.Proofs.YthobbfpoooommaaGreat
