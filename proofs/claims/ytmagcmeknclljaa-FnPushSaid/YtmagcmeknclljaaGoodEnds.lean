/-
  Good ends: they ascend by whole places. Ours.
-/
import Derived.Test.YtmagcmeknclljaaGeomTot
namespace Go.Proofs.Ytmagcmeknclljaa
open Go.Sx
set_option linter.unusedVariables false
set_option linter.unusedSimpArgs false
set_option maxRecDepth 100000

theorem kmin : IntKind.min .i64 = -9223372036854775808 := by decide
theorem kmax : IntKind.max .i64 = 9223372036854775807 := by decide

def PF (p : Nat) (es : List Int) (i : Nat) : Nat := if i = 0 then p else (es.getD (i - 1) 0).toNat
theorem PF_zero (p : Nat) (es : List Int) : PF p es 0 = p := rfl
theorem PF_succ (p : Nat) (es : List Int) (i : Nat) : PF p es (i + 1) = (es.getD i 0).toNat := by simp [PF]
def FA (p : Nat) (es : List Int) (s : Nat) (j : Nat) : Prop := es.getD j 0 = (PF p es (j + 1) : Int) ∧ PF p es j ≤ PF p es (j + 1) ∧ (PF p es (j + 1) - PF p es j) % s = 0

theorem ends_inv (es : List Int) (s : Nat) (hs : 2 ≤ s) (p : Nat) (hr : ∀ x ∈ es, IntKind.min .i64 ≤ x ∧ x ≤ IntKind.max .i64) (hl : es.length ≤ 2147483647) : ∀ (k i : Nat) (x z : Int), spec_goodEnds_l1 es false (s : Int) k (x, (i : Int)) = some (.inr z) → i ≤ es.length → x = (PF p es i : Int) → x ≤ 9223372036854775807 →
    z = (PF p es es.length : Int) ∧ ∀ j, i ≤ j → j < es.length → FA p es s j := by
  intro k
  induction k with
  | zero => intro i x z h; cases h
  | succ k ih =>
    intro i x z h hi hx hx2
    have h' : spec_goodEnds_l1s es false (s : Int) k (spec_goodEnds_l1 es false (s : Int) k) x (i : Int) = some (.inr z) := h
    unfold spec_goodEnds_l1s at h'
    by_cases hlt : i < es.length
    · rw [lt_true hlt, br_true, idx_get hlt, sbind] at h'
      have hri := hr _ (List.getElem_mem hlt)
      rw [kmin, kmax] at hri
      have hg : es.getD i 0 = es[i] := by simp [List.getD, List.getElem?_eq_getElem hlt]
      by_cases hlx : es[i] < x
      · rw [decide_eq_true hlx, br_true] at h'; cases h'
      · have hsub : isub .i64 es[i] x = es[i] - x := isub_i64 (by omega) (by omega)
        have hrem : irem (es[i] - x) (s : Int) = some ((es[i] - x).tmod (s : Int)) := by unfold irem; rw [if_neg (by omega)]
        rw [decide_eq_false hlx, br_false, hsub, hrem, sbind] at h'
        by_cases hm : (es[i] - x).tmod (s : Int) = 0
        · rw [decide_eq_true hm] at h'
          have h2 : spec_goodEnds_l1 es false (s : Int) k (es[i], iadd .i64 (i : Int) 1) = some (.inr z) := h'
          rw [iadd_one (show i < 9223372036854775807 by omega)] at h2
          have hPi : es[i] = (PF p es (i + 1) : Int) := by rw [PF_succ, hg]; omega
          obtain ⟨z1, z2⟩ := ih (i + 1) es[i] z h2 (by omega) hPi (by omega)
          refine ⟨z1, fun j h1 h3 => ?_⟩
          by_cases hj : j = i
          · subst hj
            rw [hx] at hm hlx
            rw [hPi] at hm hlx
            refine ⟨by rw [hg]; exact hPi, by omega, ?_⟩
            have e : (PF p es (j + 1) : Int) - (PF p es j : Int) = ((PF p es (j + 1) - PF p es j : Nat) : Int) := by omega
            rw [e, Int.tmod_eq_emod_of_nonneg (by omega)] at hm
            exact_mod_cast hm
          · exact z2 j (by omega) h3
        · rw [decide_eq_false hm] at h'; cases h'
    · rw [lt_false hlt, br_false] at h'
      cases h'
      have : i = es.length := by omega
      subst this
      exact ⟨hx, fun j h1 h2 => by omega⟩

theorem goodEnds_inv (es : List Int) (s : Nat) (hs : 2 ≤ s) (p : Nat) (hr : ∀ x ∈ es, IntKind.min .i64 ≤ x ∧ x ≤ IntKind.max .i64) (hl : es.length ≤ 2147483647) (k : Nat) (z x : Int) (hx : x = (p : Int)) (hx2 : x ≤ 9223372036854775807) (h : spec_goodEnds k es x (s : Int) false = some (z, true)) :
    z = (PF p es es.length : Int) ∧ ∀ j, j < es.length → FA p es s j := by
  unfold spec_goodEnds at h
  cases hy : spec_goodEnds_l1 es false (s : Int) k (x, 0) with
  | none => rw [hy] at h; cases h
  | some y =>
    rw [hy, sbind] at h
    cases y with
    | inl v => simp only [Option.some.injEq, Prod.mk.injEq] at h; cases h.2
    | inr v =>
      simp only [Option.some.injEq, Prod.mk.injEq] at h
      obtain ⟨rfl, _⟩ := h
      obtain ⟨z1, z2⟩ := ends_inv es s hs p hr hl k 0 x v hy (by omega) hx hx2
      exact ⟨z1, fun j hj => z2 j (by omega) hj⟩

def QQ (xs : List (List Int)) : Nat → Nat
  | 0 => 0
  | j + 1 => PF (QQ xs j) (xs.getD j []) (xs.getD j []).length
theorem good6_inv (xs : List (List Int)) (s : Nat) (hs : 2 ≤ s) (hr : ∀ es ∈ xs, ∀ x ∈ es, IntKind.min .i64 ≤ x ∧ x ≤ IntKind.max .i64) (hl : ∀ es ∈ xs, es.length ≤ 2147483647) (hl2 : xs.length ≤ 2147483647) : ∀ (k i : Nat) (x v : Int) (fl : Bool), spec_Good_l1 xs (s : Int) k (x, fl, (i : Int)) = some (v, true) → i ≤ xs.length →
    fl = true ∧ (x = (QQ xs i : Int) → x ≤ 9223372036854775807 → v = (QQ xs xs.length : Int) ∧ ∀ j, i ≤ j → j < xs.length → ∀ m, m < (xs.getD j []).length → FA (QQ xs j) (xs.getD j []) s m) := by
  intro k
  induction k with
  | zero => intro i x v fl h; cases h
  | succ k ih =>
    intro i x v fl h hi
    have h' : spec_Good_l1s xs (s : Int) k (spec_Good_l1 xs (s : Int) k) x fl (i : Int) = some (v, true) := h
    unfold spec_Good_l1s at h'
    by_cases hlt : i < xs.length
    · rw [lt_true hlt, br_true, idx_get hlt, sbind] at h'
      have hg : xs.getD i [] = xs[i] := by simp [List.getD, List.getElem?_eq_getElem hlt]
      cases hy : spec_goodEnds k xs[i] x (s : Int) false with
      | none => rw [hy] at h'; cases h'
      | some y =>
        obtain ⟨z, b⟩ := y
        rw [hy, sbind] at h'
        cases fl with
        | false =>
          rw [br_false] at h'
          unfold spec_Good_j10 at h'
          rw [iadd_one (show i < 9223372036854775807 by omega)] at h'
          have := (ih (i + 1) z v false h' (by omega)).1
          cases this
        | true =>
          rw [br_true] at h'
          unfold spec_Good_j10 at h'
          rw [iadd_one (show i < 9223372036854775807 by omega)] at h'
          obtain ⟨hb, hrest⟩ := ih (i + 1) z v b h' (by omega)
          subst hb
          refine ⟨rfl, fun hx hx2 => ?_⟩
          obtain ⟨z1, z2⟩ := goodEnds_inv xs[i] s hs (QQ xs i) (hr _ (List.getElem_mem hlt)) (hl _ (List.getElem_mem hlt)) k z x hx hx2 hy
          have hQ : z = (QQ xs (i + 1) : Int) := by rw [z1, QQ, hg]
          have hzmax : z ≤ 9223372036854775807 := by
            rw [z1]
            rcases Nat.eq_zero_or_pos xs[i].length with h0 | h0
            · rw [h0, PF_zero]; omega
            · obtain ⟨q1, _, _⟩ := z2 (xs[i].length - 1) (by omega)
              rw [show xs[i].length - 1 + 1 = xs[i].length from by omega] at q1
              rw [← q1, show xs[i].getD (xs[i].length - 1) 0 = xs[i][xs[i].length - 1] from by simp [List.getD, List.getElem?_eq_getElem (show xs[i].length - 1 < xs[i].length by omega)]]
              have := (hr _ (List.getElem_mem hlt) _ (List.getElem_mem (show xs[i].length - 1 < xs[i].length by omega))).2
              rw [kmax] at this; exact this
          obtain ⟨v1, v2⟩ := hrest hQ hzmax
          refine ⟨v1, fun j h1 h2 m hm => ?_⟩
          by_cases hj : j = i
          · subst hj; rw [hg] at hm ⊢; exact z2 m hm
          · exact v2 j (by omega) h2 m hm
    · rw [lt_false hlt, br_false] at h'
      simp only [Option.some.injEq, Prod.mk.injEq] at h'
      obtain ⟨rfl, rfl⟩ := h'
      have : i = xs.length := by omega
      subst this
      exact ⟨rfl, fun hx _ => ⟨hx, fun j h1 h2 => by omega⟩⟩

theorem good_polys {x1 x2 : Int} {x3 : List Nat} {x4 : List Int} {x5 : List (List Int)} {j s : Nat} (hs : stri x1 = (s : Int)) (hs2 : 2 ≤ s) (h : spec_Good (j + 1) 6 x1 x2 x3 x4 x5 [] = some true) :
    x3.length % s = 0 ∧ spec_Good_l1 x5 (s : Int) j (0, true, 0) = some ((x3.length : Int), true) := by
  have hb : spec_Good_b (spec_Good j) j 6 x1 x2 x3 x4 x5 [] = some true := h
  unfold spec_Good_b at hb
  have hrem : irem (x3.length : Int) (s : Int) = some ((x3.length : Int).tmod (s : Int)) := by unfold irem; rw [if_neg (by omega)]
  rw [stride_is, sbind, show decide ((6 : Int) = 7) = false from rfl, br_false, hs, decide_eq_false (show ¬ (s : Int) = 0 by omega), br_false, hrem, sbind] at hb
  by_cases hm : (x3.length : Int).tmod (s : Int) = 0
  · rw [decide_eq_true hm] at hb
    have hj2 : spec_Good_j2 j 6 x4 x3 (s : Int) x5 [] false = spec_Good_j8 j x4 (s : Int) 6 x3 x5 false := by
      unfold spec_Good_j2
      rw [br_false, show decide (0 < ((([] : List T27)).length : Int)) = false from rfl]
      unfold spec_Good_j3
      rw [br_false, show (!decide ((6 : Int) = 6)) = false from rfl, br_same]
      rfl
    rw [show (!true) = false from rfl, hj2] at hb
    unfold spec_Good_j8 at hb
    rw [br_false, show decide ((6 : Int) = 6) = true from rfl, br_true] at hb
    refine ⟨by rw [Int.tmod_eq_emod_of_nonneg (by omega)] at hm; exact_mod_cast hm, ?_⟩
    cases hy : spec_Good_l1 x5 (s : Int) j (0, true, 0) with
    | none => rw [hy] at hb; cases hb
    | some y =>
      obtain ⟨z, b⟩ := y
      rw [hy, sbind] at hb
      cases b with
      | false => cases hb
      | true =>
        by_cases hz : z = (x3.length : Int)
        · rw [hz]
        · exfalso
          have h2 : spec_Good_j11 j x4 (decide (z = (x3.length : Int))) = some true := hb
          rw [decide_eq_false hz] at h2; cases h2
  · rw [decide_eq_false hm] at hb; cases hb

def FAA (xs : List (List Int)) (s : Nat) : Prop := ∀ j, j < xs.length → ∀ m, m < (xs.getD j []).length → FA (QQ xs j) (xs.getD j []) s m
theorem FA_le {p : Nat} {es : List Int} {s : Nat} (h : ∀ j, j < es.length → FA p es s j) : ∀ n i, es.length - i = n → i ≤ es.length → PF p es i ≤ PF p es es.length := by
  intro n
  induction n with
  | zero => intro i hn hi
            have : i = es.length := by omega
            subst this; exact Nat.le_refl _
  | succ n ih => intro i hn hi
                 have h1 := (h i (by omega)).2.1
                 have h2 := ih (i + 1) (by omega) (by omega)
                 omega
theorem QQ_step {xs : List (List Int)} {s : Nat} (h : FAA xs s) (j : Nat) (hj : j < xs.length) : QQ xs j ≤ QQ xs (j + 1) := by
  have := FA_le (h j hj) (xs.getD j []).length 0 (by omega) (by omega)
  rw [PF_zero] at this; exact this
theorem QQ_le {xs : List (List Int)} {s : Nat} (h : FAA xs s) : ∀ n i, xs.length - i = n → i ≤ xs.length → QQ xs i ≤ QQ xs xs.length := by
  intro n
  induction n with
  | zero => intro i hn hi
            have : i = xs.length := by omega
            subst this; exact Nat.le_refl _
  | succ n ih => intro i hn hi
                 have h1 := QQ_step h i (by omega)
                 have h2 := ih (i + 1) (by omega) (by omega)
                 omega
end Go.Proofs.Ytmagcmeknclljaa
