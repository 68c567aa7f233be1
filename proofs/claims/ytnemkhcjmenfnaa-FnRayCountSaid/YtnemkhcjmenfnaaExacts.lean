/-
  Places as exact numbers. Ours.
-/
import Derived.Test.YtnemkhcjmenfnaaExact3
import Derived.Test.YtnemkhcjmenfnaaSxY
namespace Go.Proofs.Ytnemkhcjmenfnaa
open Go.Sx
open Ieee (signed)
set_option linter.unusedVariables false
set_option linter.unusedSimpArgs false
set_option maxRecDepth 100000

/-! #### any word as a dyadic number -/
theorem dyadic_any (k x : Nat) (hx : x < 2 ^ 64) (hk : 2 < k) : ∃ s l e N, spec_DyadicOf k x = some (s, l, e) ∧ Dr (-1074) 971 2 s l e N ∧ ∀ m v, D x m v → N = m * 2 ^ v := by
  by_cases hE : x / 2 ^ 52 % 2048 = 2047
  · have hx' : (x : Int) < 18446744073709551616 := by
      have : (2 : Nat) ^ 64 = 18446744073709551616 := by decide
      omega
    have r52 : ishr .u64 (fbits x) 52 = some ((x / 2 ^ 52 : Nat) : Int) := by
      have := ishr_u64 (a := (x : Int)) (n := 52) (by omega) hx' (by omega)
      rw [show fbits x = (x : Int) from rfl, show (52 : Int) = ((52 : Nat) : Int) from rfl, this]
      congr 1
    have iE : iand .u64 ((x / 2 ^ 52 : Nat) : Int) 2047 = ((2047 : Nat) : Int) := by
      have := Go.Sx.iand_mask (a := x / 2 ^ 52) (t := 11) (by omega) (by omega)
      rw [← hE]; exact this
    have cE : icv .i64 ((2047 : Nat) : Int) = ((2047 : Nat) : Int) := icv_i64 (by omega) (by omega)
    refine ⟨false, [], 0, 0, ?_, ⟨⟨0, wh_nil, (Int.zero_mul _).symm⟩, by omega, by omega, Nat.zero_le _⟩, fun m v hD => ?_⟩
    · unfold spec_DyadicOf
      rw [r52]
      simp only [Option.bind_eq_bind, Option.bind_some, iE, cE]
      rfl
    · obtain ⟨sg, mm, q, h1, h2⟩ := hD
      obtain ⟨_, hf⟩ := Go.Sx.read_fields hx h1
      rcases hf with ⟨a, b, c⟩ | ⟨a, b, c, d⟩ <;> omega
  · have hr : ∃ s m q, FloatKind.f64.format.read x = .number s m ((q : Nat) - 1074 : Int) := by
      rw [fmt_is]
      unfold Ieee.Format.read
      simp only [Go.Sx.sign_is, binade_is, inf_is, least_is]
      split
      · exact ⟨_, _, 0, rfl⟩
      · split
        · exact ⟨_, _, x % 2 ^ 63 / 2 ^ 52 - 1, by rw [Int.add_comm, ← Int.sub_eq_add_neg]⟩
        · exfalso
          have : x % 2 ^ 63 / 2 ^ 52 = x / 2 ^ 52 % 2048 := by omega
          omega
    obtain ⟨sg, m, q, h1⟩ := hr
    have hD : D x (signed sg m q) 0 := ⟨sg, m, q, h1, by simp⟩
    obtain ⟨s, l, e, r1, r2⟩ := dyadicOf_is (k := k) hx hD hk
    refine ⟨s, l, e, _, r1, r2, fun m' v' hD' => ?_⟩
    obtain ⟨s2, m2, q2, t1, t2⟩ := hD'
    rw [h1] at t1
    simp only [Ieee.Datum.number.injEq] at t1
    obtain ⟨rfl, rfl, t3⟩ := t1
    have : q = q2 := by omega
    subst this
    rw [← t2]; simp

abbrev Tup := Bool × (List Int) × Int × Bool × (List Int) × Int
/-- what the exact places are -/
def Rel (l : List (Nat × Nat)) (E : List Tup) (F G : Nat → Int) : Prop :=
  E.length = l.length ∧ ∀ i (h : i < l.length) (h' : i < E.length), Dr (-1074) 971 2 E[i].1 E[i].2.1 E[i].2.2.1 (F i) ∧ Dr (-1074) 971 2 E[i].2.2.2.1 E[i].2.2.2.2.1 E[i].2.2.2.2.2 (G i) ∧
    (∀ m, D l[i].1 m 1074 → F i = m * 2 ^ 1074) ∧ (∀ m, D l[i].2 m 1074 → G i = m * 2 ^ 1074)

theorem exact_one (k x y : Nat) (hx : x < 2 ^ 64) (hy : y < 2 ^ 64) (hk : 2 < k) : ∃ (t : Tup) (M N : Int), laws_exactly k x y = some t ∧ Dr (-1074) 971 2 t.1 t.2.1 t.2.2.1 M ∧ Dr (-1074) 971 2 t.2.2.2.1 t.2.2.2.2.1 t.2.2.2.2.2 N ∧ (∀ m, D x m 1074 → M = m * 2 ^ 1074) ∧ (∀ m, D y m 1074 → N = m * 2 ^ 1074) := by
  obtain ⟨s1, l1, e1, M, r1, w1, u1⟩ := dyadic_any k x hx hk
  obtain ⟨s2, l2, e2, N, r2, w2, u2⟩ := dyadic_any k y hy hk
  exact ⟨(s1, l1, e1, s2, l2, e2), M, N, by simp [laws_exactly, spec_PointOf, r1, r2], w1, w2, fun m h => u1 m _ h, fun m h => u2 m _ h⟩

theorem exacts_loop (l : List (Nat × Nat)) (hl : l.length ≤ 200) (hw : ∀ p ∈ l, p.1 < 2 ^ 64 ∧ p.2 < 2 ^ 64) : ∀ (n i k : Nat) (E : List Tup) (F G : Nat → Int), l.length - i = n → n + 3 < k → i ≤ l.length → Rel (l.take i) E F G →
    ∃ E' F' G', laws_exacts_l1 l k (E, (i : Int)) = some E' ∧ Rel l E' F' G' := by
  intro n
  induction n with
  | zero =>
    intro i k E F G hn hk hi hR
    obtain ⟨k, rfl⟩ : ∃ j, k = j + 1 := ⟨k - 1, by omega⟩
    rw [List.take_of_length_le (by omega)] at hR
    exact ⟨E, F, G, by simp only [laws_exacts_l1, laws_exacts_l1s, lt_false (show ¬ i < l.length by omega), br_false], hR⟩
  | succ n ih =>
    intro i k E F G hn hk hi hR
    obtain ⟨k, rfl⟩ : ∃ j, k = j + 1 := ⟨k - 1, by omega⟩
    have hlt : i < l.length := by omega
    have hwi := hw _ (List.getElem_mem hlt)
    obtain ⟨t, M, N, t1, t2, t3, t4, t5⟩ := exact_one k l[i].1 l[i].2 hwi.1 hwi.2 (by omega)
    have hEl : E.length = i := by rw [hR.1, List.length_take]; omega
    have hR' : Rel (l.take (i + 1)) (E ++ [t]) (fun j => if j = i then M else F j) (fun j => if j = i then N else G j) := by
      refine ⟨by rw [List.length_append, hEl, List.length_take]; simp; omega, fun j h h' => ?_⟩
      rw [List.length_take] at h
      by_cases hj : j = i
      · subst hj
        simp only [if_true]
        rw [List.getElem_take]
        have : (E ++ [t])[j] = t := by rw [List.getElem_append_right (by omega)]; simp [hEl]
        rw [this]
        exact ⟨t2, t3, t4, t5⟩
      · have hji : j < i := by omega
        have h1 := hR.2 j (by rw [List.length_take]; omega) (by omega)
        simp only [if_neg hj]
        rw [List.getElem_take] at h1 ⊢
        rw [List.getElem_append_left (show j < E.length by omega)]
        exact h1
    obtain ⟨E', F', G', r1, r2⟩ := ih (i + 1) k _ _ _ (by omega) (by omega) (by omega) hR'
    refine ⟨E', F', G', ?_, r2⟩
    have ha : apd 80 E [(t.1, t.2.1, t.2.2.1, t.2.2.2.1, t.2.2.2.2.1, t.2.2.2.2.2)] = some (E ++ [t]) := apd_some (by simp; omega) (by simp; omega)
    simp only [laws_exacts_l1, laws_exacts_l1s, lt_true hlt, br_true, idx_get hlt, Option.bind_eq_bind, Option.bind_some, t1, ha, iadd_one (show i < 9223372036854775807 by omega)]
    exact r1
theorem exacts_is (k : Nat) (l : List (Nat × Nat)) (hl : l.length ≤ 200) (hw : ∀ p ∈ l, p.1 < 2 ^ 64 ∧ p.2 < 2 ^ 64) (hk : 300 < k) : ∃ E F G, laws_exacts k l = some E ∧ Rel l E F G := by
  obtain ⟨E, F, G, h1, h2⟩ := exacts_loop l hl hw l.length 0 k [] (fun _ => 0) (fun _ => 0) (by omega) (by omega) (by omega) ⟨by simp, fun i h _ => by simp at h⟩
  have h1' : laws_exacts_l1 l k ([], 0) = some E := h1
  exact ⟨E, F, G, by unfold laws_exacts; rw [h1', sbind], h2⟩
end Go.Proofs.Ytnemkhcjmenfnaa
