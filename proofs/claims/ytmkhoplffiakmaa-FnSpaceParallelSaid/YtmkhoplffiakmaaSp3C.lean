/-
  The law's own exact squares of distances in space. Ours.
  The least of some fractions, the square of the distance of two segments that run in one direction. Ours.
  Which end is the nearest, where two segments run in one direction. Ours.
-/
import Derived.Test.YtmkhoplffiakmaaSp3Pair
import Derived.Test.YtmkhoplffiakmaaDyadicAny
namespace Go.Proofs.Ytmkhoplffiakmaa
open Go.Sx
open Ieee (signed)
set_option linter.unusedVariables false
set_option linter.unusedSimpArgs false
set_option maxRecDepth 100000

def Dz (κ lm : Nat) (s : Bool) (l : List Int) (e : Int) (n : Int) : Prop := Dr (-(κ : Int)) κ lm s l e (n * 2 ^ κ)
theorem Dz.mono {κ κ' lm lm' : Nat} {s : Bool} {l : List Int} {e n : Int} (h : Dz κ lm s l e n) (h1 : κ ≤ κ') (h2 : lm ≤ lm') : Dz κ' lm' s l e n := by
  have h3 := (Dr.down (B' := -(κ' : Int)) h (by omega)).mono (T' := κ') (L' := lm') (by omega) h2
  have e1 : (-(κ : Int) - -(κ' : Int)).toNat = κ' - κ := by omega
  rw [e1, Int.mul_assoc, ← Int.pow_add, show κ + (κ' - κ) = κ' by omega] at h3
  exact h3
theorem dz_sub {k κ lm : Nat} {s s' : Bool} {l l' : List Int} {e e' m n : Int} (h : Dz κ lm s l e m) (h' : Dz κ lm s' l' e' n) (hκ : κ < 100000) (hl : lm < 100000) (hk : lm + κ / 16 + 3 < k) :
    ∃ r, spec_Dyadic_Sub k s l e s' l' e' = some r ∧ Dz κ (lm + κ / 16 + 2) r.1 r.2.1 r.2.2 (m - n) := by
  have e1 : ((κ : Int) - -(κ : Int)).toNat / 32 = κ / 16 := by omega
  obtain ⟨a, b, c, q, w⟩ := dsub_is (k := k) h h' (by omega) (by omega) (by omega) hl (by omega)
  rw [e1, ← Int.sub_mul] at w
  exact ⟨(a, b, c), q, w⟩
theorem dz_add {k κ lm : Nat} {s s' : Bool} {l l' : List Int} {e e' m n : Int} (h : Dz κ lm s l e m) (h' : Dz κ lm s' l' e' n) (hκ : κ < 100000) (hl : lm < 100000) (hk : lm + κ / 16 + 3 < k) :
    ∃ r, spec_Dyadic_Add k s l e s' l' e' = some r ∧ Dz κ (lm + κ / 16 + 2) r.1 r.2.1 r.2.2 (m + n) := by
  have e1 : ((κ : Int) - -(κ : Int)).toNat / 32 = κ / 16 := by omega
  obtain ⟨a, b, c, q, w⟩ := dadd_is (k := k) h h' (by omega) (by omega) (by omega) hl (by omega)
  rw [e1, ← Int.add_mul] at w
  exact ⟨(a, b, c), q, w⟩
theorem dz_mul {k κ lm κ' lm' : Nat} {s s' : Bool} {l l' : List Int} {e e' m n : Int} (h : Dz κ lm s l e m) (h' : Dz κ' lm' s' l' e' n) (hκ : κ < 100000) (hl : lm < 100000) (hκ' : κ' < 100000) (hl' : lm' < 100000) (hk : lm + lm' + 1 < k) :
    ∃ r, spec_Dyadic_Mul k s l e s' l' e' = some r ∧ Dz (κ + κ') (lm + lm') r.1 r.2.1 r.2.2 (m * n) := by
  obtain ⟨a, b, c, q, w⟩ := dmul_is (k := k) h h' (by omega) (by omega) (by omega) (by omega) hl hl' hk
  refine ⟨(a, b, c), q, ?_⟩
  unfold Dz
  have e1 : m * 2 ^ κ * (n * 2 ^ κ') = m * n * 2 ^ (κ + κ') := by rw [Int.pow_add]; grind
  rw [e1] at w
  have e2 : -(κ : Int) + -(κ' : Int) = -((κ + κ' : Nat) : Int) := by omega
  have e3 : (κ : Int) + (κ' : Int) = ((κ + κ' : Nat) : Int) := by omega
  rw [e2, e3] at w
  exact w
theorem dz_sign {k κ lm : Nat} {s : Bool} {l : List Int} {e n : Int} (h : Dz κ lm s l e n) : spec_Dyadic_Sign k s l e = some (sgn n) := by
  have := dsign_is (k := k) h
  rw [sgn_mul] at this; exact this
theorem dz_cmp {k κ lm : Nat} {s s' : Bool} {l l' : List Int} {e e' m n : Int} (h : Dz κ lm s l e m) (h' : Dz κ lm s' l' e' n) (hκ : κ < 100000) (hl : lm < 100000) (hk : lm + κ / 16 + 3 < k) :
    spec_Dyadic_Cmp k s l e s' l' e' = some (sgn (m - n)) := by
  obtain ⟨r, q, w⟩ := dz_sub (k := k) h h' hκ hl hk
  unfold spec_Dyadic_Cmp
  rw [q, sbind, dz_sign w]; rfl
abbrev T9 := Bool × (List Int) × Int × Bool × (List Int) × Int × Bool × (List Int) × Int
abbrev T6 := Bool × (List Int) × Int × Bool × (List Int) × Int
abbrev T3 := Bool × (List Int) × Int
def V (κ lm : Nat) (r : T9) (x y z : Int) : Prop := Dz κ lm r.1 r.2.1 r.2.2.1 x ∧ Dz κ lm r.2.2.2.1 r.2.2.2.2.1 r.2.2.2.2.2.1 y ∧ Dz κ lm r.2.2.2.2.2.2.1 r.2.2.2.2.2.2.2.1 r.2.2.2.2.2.2.2.2 z
def S1 (κ lm : Nat) (r : T3) (x : Int) : Prop := Dz κ lm r.1 r.2.1 r.2.2 x
theorem sub3v {k κ lm : Nat} {a b : T9} {x y z x' y' z' : Int} (h : V κ lm a x y z) (h' : V κ lm b x' y' z') (hκ : κ < 100000) (hl : lm < 100000) (hk : lm + κ / 16 + 3 < k) :
    ∃ r, spec_Point3_Sub k a.1 a.2.1 a.2.2.1 a.2.2.2.1 a.2.2.2.2.1 a.2.2.2.2.2.1 a.2.2.2.2.2.2.1 a.2.2.2.2.2.2.2.1 a.2.2.2.2.2.2.2.2 b.1 b.2.1 b.2.2.1 b.2.2.2.1 b.2.2.2.2.1 b.2.2.2.2.2.1 b.2.2.2.2.2.2.1 b.2.2.2.2.2.2.2.1 b.2.2.2.2.2.2.2.2 = some r ∧ V κ (lm + κ / 16 + 2) r (x - x') (y - y') (z - z') := by
  obtain ⟨r0, q0, w0⟩ := dz_sub (k := k) h.1 h'.1 hκ hl hk
  obtain ⟨r1, q1, w1⟩ := dz_sub (k := k) h.2.1 h'.2.1 hκ hl hk
  obtain ⟨r2, q2, w2⟩ := dz_sub (k := k) h.2.2 h'.2.2 hκ hl hk
  unfold spec_Point3_Sub
  rw [q0, sbind, q1, sbind, q2, sbind]
  exact ⟨_, rfl, w0, w1, w2⟩
theorem dot3v {k κ lm : Nat} {a b : T9} {x y z x' y' z' : Int} (h : V κ lm a x y z) (h' : V κ lm b x' y' z') (hκ : κ < 40000) (hl : lm < 40000) (hk : lm + lm + κ / 4 + 20 < k) :
    ∃ r, spec_Dot3 k a.1 a.2.1 a.2.2.1 a.2.2.2.1 a.2.2.2.2.1 a.2.2.2.2.2.1 a.2.2.2.2.2.2.1 a.2.2.2.2.2.2.2.1 a.2.2.2.2.2.2.2.2 b.1 b.2.1 b.2.2.1 b.2.2.2.1 b.2.2.2.2.1 b.2.2.2.2.2.1 b.2.2.2.2.2.2.1 b.2.2.2.2.2.2.2.1 b.2.2.2.2.2.2.2.2 = some r ∧ S1 (κ + κ) (lm + lm + κ / 4 + 8) r (dt3 x y z x' y' z') := by
  obtain ⟨r0, q0, w0⟩ := dz_mul (k := k) h.1 h'.1 (by omega) (by omega) (by omega) (by omega) (by omega)
  obtain ⟨r1, q1, w1⟩ := dz_mul (k := k) h.2.1 h'.2.1 (by omega) (by omega) (by omega) (by omega) (by omega)
  obtain ⟨r2, q2, w2⟩ := dz_mul (k := k) h.2.2 h'.2.2 (by omega) (by omega) (by omega) (by omega) (by omega)
  obtain ⟨r3, q3, w3⟩ := dz_add (k := k) w0 w1 (by omega) (by omega) (by omega)
  obtain ⟨r4, q4, w4⟩ := dz_add (k := k) w3 (w2.mono (Nat.le_refl _) (show lm + lm ≤ lm + lm + (κ + κ) / 16 + 2 by omega)) (by omega) (by omega) (by omega)
  unfold spec_Dot3
  rw [q0, sbind, q1, sbind, q3, sbind, q2, sbind, q4, sbind]
  exact ⟨_, rfl, w4.mono (Nat.le_refl _) (by omega)⟩
theorem cross3v {k κ lm : Nat} {a b : T9} {x y z x' y' z' : Int} (h : V κ lm a x y z) (h' : V κ lm b x' y' z') (hκ : κ < 40000) (hl : lm < 40000) (hk : lm + lm + κ / 4 + 20 < k) :
    ∃ r, spec_Cross3 k a.1 a.2.1 a.2.2.1 a.2.2.2.1 a.2.2.2.2.1 a.2.2.2.2.2.1 a.2.2.2.2.2.2.1 a.2.2.2.2.2.2.2.1 a.2.2.2.2.2.2.2.2 b.1 b.2.1 b.2.2.1 b.2.2.2.1 b.2.2.2.2.1 b.2.2.2.2.2.1 b.2.2.2.2.2.2.1 b.2.2.2.2.2.2.2.1 b.2.2.2.2.2.2.2.2 = some r ∧ V (κ + κ) (lm + lm + κ / 8 + 2) r (y * z' - z * y') (z * x' - x * z') (x * y' - y * x') := by
  obtain ⟨r0, q0, w0⟩ := dz_mul (k := k) h.2.1 h'.2.2 (by omega) (by omega) (by omega) (by omega) (by omega)
  obtain ⟨r1, q1, w1⟩ := dz_mul (k := k) h.2.2 h'.2.1 (by omega) (by omega) (by omega) (by omega) (by omega)
  obtain ⟨r2, q2, w2⟩ := dz_sub (k := k) w0 w1 (by omega) (by omega) (by omega)
  obtain ⟨r3, q3, w3⟩ := dz_mul (k := k) h.2.2 h'.1 (by omega) (by omega) (by omega) (by omega) (by omega)
  obtain ⟨r4, q4, w4⟩ := dz_mul (k := k) h.1 h'.2.2 (by omega) (by omega) (by omega) (by omega) (by omega)
  obtain ⟨r5, q5, w5⟩ := dz_sub (k := k) w3 w4 (by omega) (by omega) (by omega)
  obtain ⟨r6, q6, w6⟩ := dz_mul (k := k) h.1 h'.2.1 (by omega) (by omega) (by omega) (by omega) (by omega)
  obtain ⟨r7, q7, w7⟩ := dz_mul (k := k) h.2.1 h'.1 (by omega) (by omega) (by omega) (by omega) (by omega)
  obtain ⟨r8, q8, w8⟩ := dz_sub (k := k) w6 w7 (by omega) (by omega) (by omega)
  unfold spec_Cross3
  rw [q0, sbind, q1, sbind, q2, sbind, q3, sbind, q4, sbind, q5, sbind, q6, sbind, q7, sbind, q8, sbind]
  exact ⟨_, rfl, w2.mono (Nat.le_refl _) (by omega), w5.mono (Nat.le_refl _) (by omega), w8.mono (Nat.le_refl _) (by omega)⟩
theorem exactly3_is {k : Nat} {x0 x1 x2 : Nat} {a b c : Int} (h0 : x0 < 2 ^ 64) (h1 : x1 < 2 ^ 64) (h2 : x2 < 2 ^ 64) (d0 : D x0 a 1074) (d1 : D x1 b 1074) (d2 : D x2 c 1074) (hk : 2 < k) :
    ∃ r, laws_exactly3 k x0 x1 x2 = some r ∧ V 1074 2 r a b c := by
  obtain ⟨s0, l0, e0, q0, w0⟩ := dyadicOf_is h0 d0 hk
  obtain ⟨s1, l1, e1, q1, w1⟩ := dyadicOf_is h1 d1 hk
  obtain ⟨s2, l2, e2, q2, w2⟩ := dyadicOf_is h2 d2 hk
  unfold laws_exactly3 spec_PointOf3
  rw [q0, sbind, q1, sbind, q2, sbind, sbind]
  exact ⟨_, rfl, w0.mono (by decide) (Nat.le_refl _), w1.mono (by decide) (Nat.le_refl _), w2.mono (by decide) (Nat.le_refl _)⟩
theorem square3v {k : Nat} {a b : T9} {x y z x' y' z' : Int} (h : V 1074 2 a x y z) (h' : V 1074 2 b x' y' z') (hk : 10000 < k) :
    ∃ r, spec_Square3 k a.1 a.2.1 a.2.2.1 a.2.2.2.1 a.2.2.2.2.1 a.2.2.2.2.2.1 a.2.2.2.2.2.2.1 a.2.2.2.2.2.2.2.1 a.2.2.2.2.2.2.2.2 b.1 b.2.1 b.2.2.1 b.2.2.2.1 b.2.2.2.2.1 b.2.2.2.2.2.1 b.2.2.2.2.2.2.1 b.2.2.2.2.2.2.2.1 b.2.2.2.2.2.2.2.2 = some r ∧ S1 2148 500 r (lng (x - x') (y - y') (z - z')) := by
  obtain ⟨u, qu, wu⟩ := sub3v (k := k) h h' (by omega) (by omega) (by omega)
  obtain ⟨r, qr, wr⟩ := dot3v (k := k) wu wu (by omega) (by omega) (by omega)
  unfold spec_Square3
  rw [qu, sbind, qr, sbind]
  exact ⟨_, rfl, Dz.mono wr (by decide) (by decide)⟩
def R6 (r : T6) (n d : Int) : Prop := Dz 4296 1200 r.1 r.2.1 r.2.2.1 n ∧ Dz 2148 500 r.2.2.2.1 r.2.2.2.2.1 r.2.2.2.2.2 d
theorem lng_swap (a b c a' b' c' : Int) : lng (a - a') (b - b') (c - c') = lng (a' - a) (b' - b) (c' - c) := by unfold lng; grind
theorem squareTo3v {k : Nat} {p a b : T9} {p0 p1 p2 a0 a1 a2 b0 b1 b2 : Int} (hp : V 1074 2 p p0 p1 p2) (ha : V 1074 2 a a0 a1 a2) (hb : V 1074 2 b b0 b1 b2) (hk : 10000 < k) (hL : lng (b0 - a0) (b1 - a1) (b2 - a2) ≠ 0) :
    ∃ r, spec_SquareTo3 k p.1 p.2.1 p.2.2.1 p.2.2.2.1 p.2.2.2.2.1 p.2.2.2.2.2.1 p.2.2.2.2.2.2.1 p.2.2.2.2.2.2.2.1 p.2.2.2.2.2.2.2.2 a.1 a.2.1 a.2.2.1 a.2.2.2.1 a.2.2.2.2.1 a.2.2.2.2.2.1 a.2.2.2.2.2.2.1 a.2.2.2.2.2.2.2.1 a.2.2.2.2.2.2.2.2 b.1 b.2.1 b.2.2.1 b.2.2.2.1 b.2.2.2.2.1 b.2.2.2.2.2.1 b.2.2.2.2.2.2.1 b.2.2.2.2.2.2.2.1 b.2.2.2.2.2.2.2.2 = some r ∧
      R6 r (sgN (b0 - a0) (b1 - a1) (b2 - a2) (p0 - a0) (p1 - a1) (p2 - a2)) (sgD (b0 - a0) (b1 - a1) (b2 - a2) (p0 - a0) (p1 - a1) (p2 - a2)) := by
  obtain ⟨u, qu, wu⟩ := sub3v (k := k) hb ha (by omega) (by omega) (by omega)
  obtain ⟨w, qw, ww⟩ := sub3v (k := k) hp ha (by omega) (by omega) (by omega)
  obtain ⟨g, qg, wg⟩ := dot3v (k := k) wu wu (by omega) (by omega) (by omega)
  obtain ⟨t, qt, wt⟩ := dot3v (k := k) wu ww (by omega) (by omega) (by omega)
  obtain ⟨sI, lI, qI, wI, bI⟩ := wholeOf_is (k := k) (n := 1) (by decide) (by decide) (by omega)
  have rI : Dz 0 2 sI lI 0 1 := ⟨⟨1, wI, by decide⟩, by decide, by decide, bI⟩
  have oI : spec_IntOf k 1 = some (sI, lI, 0) := by unfold spec_IntOf; rw [qI]; rfl
  have sg := dz_sign (k := k) wg
  have stt := dz_sign (k := k) wt
  have sc := dz_cmp (k := k) wt wg (by omega) (by omega) (by omega)
  have eL : dt3 (b0 - a0) (b1 - a1) (b2 - a2) (b0 - a0) (b1 - a1) (b2 - a2) = lng (b0 - a0) (b1 - a1) (b2 - a2) := rfl
  rw [eL] at sg wg sc
  unfold spec_SquareTo3
  rw [qu, sbind, qw, sbind, qg, sbind, qt, sbind, oI, sbind, sg, sbind, decide_eq_false (fun h => hL (sgn_zero.1 h)), br_false, stt, sbind]
  unfold spec_SquareTo3_j1 sgN sgD
  by_cases h1 : dt3 (b0 - a0) (b1 - a1) (b2 - a2) (p0 - a0) (p1 - a1) (p2 - a2) ≤ 0
  · obtain ⟨r, qr, wr⟩ := square3v (k := k) ha hp hk
    rw [decide_eq_true (by unfold sgn; split <;> (try split) <;> omega), br_true, qr, sbind, if_pos h1, if_pos h1]
    rw [lng_swap] at wr
    exact ⟨_, rfl, Dz.mono wr (by decide) (by decide), rI.mono (by decide) (by decide)⟩
  rw [decide_eq_false (by unfold sgn; split <;> (try split) <;> omega), br_false, sc, sbind, if_neg h1, if_neg h1]
  by_cases h2 : lng (b0 - a0) (b1 - a1) (b2 - a2) ≤ dt3 (b0 - a0) (b1 - a1) (b2 - a2) (p0 - a0) (p1 - a1) (p2 - a2)
  · obtain ⟨r, qr, wr⟩ := square3v (k := k) hb hp hk
    rw [decide_eq_true (by unfold sgn; split <;> (try split) <;> omega), br_true, qr, sbind, if_pos h2, if_pos h2]
    have e0 : lng (b0 - p0) (b1 - p1) (b2 - p2) = lng (p0 - a0 - (b0 - a0)) (p1 - a1 - (b1 - a1)) (p2 - a2 - (b2 - a2)) := by unfold lng; grind
    rw [e0] at wr
    exact ⟨_, rfl, Dz.mono wr (by decide) (by decide), rI.mono (by decide) (by decide)⟩
  · obtain ⟨c, qc, wc⟩ := cross3v (k := k) wu ww (by omega) (by omega) (by omega)
    obtain ⟨r, qr, wr⟩ := dot3v (k := k) wc wc (by omega) (by omega) (by omega)
    rw [decide_eq_false (by unfold sgn; split <;> (try split) <;> omega), br_false, qc, sbind, qr, sbind, if_neg h2, if_neg h2]
    exact ⟨_, rfl, Dz.mono wr (by decide) (by decide), Dz.mono wg (by decide) (by decide)⟩
end Go.Proofs.Ytmkhoplffiakmaa
namespace Go.Proofs.Ytmkhoplffiakmaa
open Go.Sx
open Ieee (signed)
set_option linter.unusedVariables false
set_option linter.unusedSimpArgs false
set_option maxRecDepth 100000

theorem sgn_neg3 (n : Int) : sgn n < 0 ↔ n < 0 := by unfold sgn; split <;> (try split) <;> omega
theorem ratio_cmp3 {k : Nat} {r c : T6} {n d n' d' : Int} (h : R6 r n d) (h' : R6 c n' d') (hk : 10000 < k) :
    spec_Ratio_Cmp k r.1 r.2.1 r.2.2.1 r.2.2.2.1 r.2.2.2.2.1 r.2.2.2.2.2 c.1 c.2.1 c.2.2.1 c.2.2.2.1 c.2.2.2.2.1 c.2.2.2.2.2 = some (sgn (n * d' - n' * d)) := by
  obtain ⟨a, qa, wa⟩ := dz_mul (k := k) h.1 h'.2 (by omega) (by omega) (by omega) (by omega) (by omega)
  obtain ⟨b, qb, wb⟩ := dz_mul (k := k) h'.1 h.2 (by omega) (by omega) (by omega) (by omega) (by omega)
  have hc := dz_cmp (k := k) wa wb (by omega) (by omega) (by omega)
  unfold spec_Ratio_Cmp
  rw [qa, sbind, qb, sbind, hc, sbind]
theorem frac_trans {n d n' d' m e : Int} (hd : 0 < d) (he : 0 < e) (hd' : 0 < d') (h1 : n' * d < n * d') (h2 : n * e ≤ m * d) : n' * e ≤ m * d' := by
  rcases Int.lt_or_le (m * d') (n' * e) with h | h
  · exfalso
    have a1 := Int.mul_lt_mul_of_pos_right h hd
    have a2 := Int.mul_lt_mul_of_pos_right h1 he
    have a3 := Int.mul_le_mul_of_nonneg_right h2 (Int.le_of_lt hd')
    have e1 : n' * e * d = n' * d * e := by grind
    have e2 : n * d' * e = n * e * d' := by grind
    have e3 : m * d' * d = m * d * d' := by grind
    omega
  · exact h
theorem least_loop {xs : List T6} {N F : Nat → Int} (h : ∀ i (hi : i < xs.length), R6 xs[i] (N i) (F i)) (hpos : ∀ i, i < xs.length → 0 < F i) (hlen : xs.length < 1000) :
    ∀ (m K i : Nat) (n d : Int) (c : T6), xs.length - i = m → m + 10001 < K → i ≤ xs.length → R6 c n d → 0 < d → (∃ j, j < xs.length ∧ n = N j ∧ d = F j) → (∀ j, j < i → n * F j ≤ N j * d) →
      ∃ c' n' d', spec_LeastRatio_l1 xs K (c.1, c.2.1, c.2.2.1, c.2.2.2.1, c.2.2.2.2.1, c.2.2.2.2.2, (i : Int)) = some c' ∧ R6 c' n' d' ∧ 0 < d' ∧ (∃ j, j < xs.length ∧ n' = N j ∧ d' = F j) ∧ ∀ j, j < xs.length → n' * F j ≤ N j * d' := by
  intro m
  induction m with
  | zero =>
    intro K i n d c hm hK hi hc hd hj hmin
    obtain ⟨k, rfl⟩ : ∃ k, K = k + 1 := ⟨K - 1, by omega⟩
    show ∃ c' n' d', spec_LeastRatio_l1s xs k (spec_LeastRatio_l1 xs k) c.1 c.2.1 c.2.2.1 c.2.2.2.1 c.2.2.2.2.1 c.2.2.2.2.2 (i : Int) = some c' ∧ _
    unfold spec_LeastRatio_l1s
    rw [decide_eq_false (by omega), br_false]
    exact ⟨c, n, d, rfl, hc, hd, hj, fun j hj' => hmin j (by omega)⟩
  | succ m ih =>
    intro K i n d c hm hK hi hc hd hj hmin
    obtain ⟨k, rfl⟩ : ∃ k, K = k + 1 := ⟨K - 1, by omega⟩
    have hi' : i < xs.length := by omega
    show ∃ c' n' d', spec_LeastRatio_l1s xs k (spec_LeastRatio_l1 xs k) c.1 c.2.1 c.2.2.1 c.2.2.2.1 c.2.2.2.2.1 c.2.2.2.2.2 (i : Int) = some c' ∧ _
    unfold spec_LeastRatio_l1s
    rw [decide_eq_true (by omega), br_true, idx_get hi', sbind, ratio_cmp3 (k := k) (h i hi') hc (by omega), sbind]
    unfold spec_LeastRatio_j2
    have e : iadd .i64 (i : Int) 1 = ((i + 1 : Nat) : Int) := by rw [iadd_one (by omega)]
    by_cases hlt : N i * d < n * F i
    · rw [decide_eq_true ((sgn_neg3 _).2 (by omega)), br_true, e]
      refine ih k (i + 1) (N i) (F i) xs[i] (by omega) (by omega) (by omega) (h i hi') (hpos i hi') ⟨i, hi', rfl, rfl⟩ fun j hj' => ?_
      by_cases ej : j = i
      · subst ej; exact Int.le_refl _
      · exact frac_trans hd (hpos j (by omega)) (hpos i hi') hlt (hmin j (by omega))
    · rw [decide_eq_false (fun hh => hlt (by have := (sgn_neg3 _).1 hh; omega)), br_false, e]
      refine ih k (i + 1) n d c (by omega) (by omega) (by omega) hc hd hj fun j hj' => ?_
      by_cases ej : j = i
      · subst ej; omega
      · exact hmin j (by omega)
def pk4 {α : Type} (a b c d : α) : Nat → α
  | 0 => a
  | 1 => b
  | 2 => c
  | _ => d
theorem least4 {k : Nat} {r0 r1 r2 r3 : T6} {n0 d0 n1 d1 n2 d2 n3 d3 : Int} (h0 : R6 r0 n0 d0) (h1 : R6 r1 n1 d1) (h2 : R6 r2 n2 d2) (h3 : R6 r3 n3 d3) (p0 : 0 < d0) (p1 : 0 < d1) (p2 : 0 < d2) (p3 : 0 < d3) (hk : 20000 < k) :
    ∃ c n d, spec_LeastRatio k [r0, r1, r2, r3] = some c ∧ R6 c n d ∧ 0 < d ∧ ((n = n0 ∧ d = d0) ∨ (n = n1 ∧ d = d1) ∨ (n = n2 ∧ d = d2) ∨ (n = n3 ∧ d = d3)) ∧ n * d0 ≤ n0 * d ∧ n * d1 ≤ n1 * d ∧ n * d2 ≤ n2 * d ∧ n * d3 ≤ n3 * d := by
  have key := least_loop (xs := [r0, r1, r2, r3]) (N := pk4 n0 n1 n2 n3) (F := pk4 d0 d1 d2 d3) (fun i hi => by
      match i, hi with
      | 0, _ => exact h0
      | 1, _ => exact h1
      | 2, _ => exact h2
      | 3, _ => exact h3) (fun i hi => by
      match i, hi with
      | 0, _ => exact p0
      | 1, _ => exact p1
      | 2, _ => exact p2
      | 3, _ => exact p3) (by simp) 4 k 0 n0 d0 r0 rfl (by omega) (by simp) h0 p0 ⟨0, by simp, rfl, rfl⟩ (fun j hj => by omega)
  obtain ⟨c, n, d, q, w, hd, ⟨j, hj, hn, hdd⟩, hm⟩ := key
  refine ⟨c, n, d, ?_, w, hd, ?_, hm 0 (by simp), hm 1 (by simp), hm 2 (by simp), hm 3 (by simp)⟩
  · unfold spec_LeastRatio
    have : idx [r0, r1, r2, r3] 0 = some r0 := rfl
    rw [this, sbind]
    have q' : spec_LeastRatio_l1 [r0, r1, r2, r3] k (r0.1, r0.2.1, r0.2.2.1, r0.2.2.2.1, r0.2.2.2.2.1, r0.2.2.2.2.2, 0) = some c := q
    rw [q', sbind]
  · match j, hj, hn, hdd with
    | 0, _, hn, hdd => exact .inl ⟨hn, hdd⟩
    | 1, _, hn, hdd => exact .inr (.inl ⟨hn, hdd⟩)
    | 2, _, hn, hdd => exact .inr (.inr (.inl ⟨hn, hdd⟩))
    | 3, _, hn, hdd => exact .inr (.inr (.inr ⟨hn, hdd⟩))
theorem sgD_pos {u0 u1 u2 w0 w1 w2 : Int} (h : 0 < lng u0 u1 u2) : 0 < sgD u0 u1 u2 w0 w1 w2 := by unfold sgD; split <;> (try split) <;> omega
theorem between3v {k : Nat} {a b c d : T9} {a0 a1 a2 b0 b1 b2 c0 c1 c2 d0 d1 d2 s0 s1 s2 m n : Int} (ha : V 1074 2 a a0 a1 a2) (hb : V 1074 2 b b0 b1 b2) (hc : V 1074 2 c c0 c1 c2) (hd : V 1074 2 d d0 d1 d2) (hk : 20000 < k)
    (hab : 0 < lng (b0 - a0) (b1 - a1) (b2 - a2)) (hcd : 0 < lng (d0 - c0) (d1 - c1) (d2 - c2))
    (p0 : b0 - a0 = m * s0) (p1 : b1 - a1 = m * s1) (p2 : b2 - a2 = m * s2) (q0 : d0 - c0 = n * s0) (q1 : d1 - c1 = n * s1) (q2 : d2 - c2 = n * s2) :
    ∃ r N F, spec_SquareBetween3 k a.1 a.2.1 a.2.2.1 a.2.2.2.1 a.2.2.2.2.1 a.2.2.2.2.2.1 a.2.2.2.2.2.2.1 a.2.2.2.2.2.2.2.1 a.2.2.2.2.2.2.2.2 b.1 b.2.1 b.2.2.1 b.2.2.2.1 b.2.2.2.2.1 b.2.2.2.2.2.1 b.2.2.2.2.2.2.1 b.2.2.2.2.2.2.2.1 b.2.2.2.2.2.2.2.2 c.1 c.2.1 c.2.2.1 c.2.2.2.1 c.2.2.2.2.1 c.2.2.2.2.2.1 c.2.2.2.2.2.2.1 c.2.2.2.2.2.2.2.1 c.2.2.2.2.2.2.2.2 d.1 d.2.1 d.2.2.1 d.2.2.2.1 d.2.2.2.2.1 d.2.2.2.2.2.1 d.2.2.2.2.2.2.1 d.2.2.2.2.2.2.2.1 d.2.2.2.2.2.2.2.2 = some r ∧ R6 r N F ∧ 0 < F ∧
      ((N = sgN (d0 - c0) (d1 - c1) (d2 - c2) (a0 - c0) (a1 - c1) (a2 - c2) ∧ F = sgD (d0 - c0) (d1 - c1) (d2 - c2) (a0 - c0) (a1 - c1) (a2 - c2)) ∨
       (N = sgN (d0 - c0) (d1 - c1) (d2 - c2) (b0 - c0) (b1 - c1) (b2 - c2) ∧ F = sgD (d0 - c0) (d1 - c1) (d2 - c2) (b0 - c0) (b1 - c1) (b2 - c2)) ∨
       (N = sgN (b0 - a0) (b1 - a1) (b2 - a2) (c0 - a0) (c1 - a1) (c2 - a2) ∧ F = sgD (b0 - a0) (b1 - a1) (b2 - a2) (c0 - a0) (c1 - a1) (c2 - a2)) ∨
       (N = sgN (b0 - a0) (b1 - a1) (b2 - a2) (d0 - a0) (d1 - a1) (d2 - a2) ∧ F = sgD (b0 - a0) (b1 - a1) (b2 - a2) (d0 - a0) (d1 - a1) (d2 - a2))) ∧
      N * sgD (d0 - c0) (d1 - c1) (d2 - c2) (a0 - c0) (a1 - c1) (a2 - c2) ≤ sgN (d0 - c0) (d1 - c1) (d2 - c2) (a0 - c0) (a1 - c1) (a2 - c2) * F ∧
      N * sgD (d0 - c0) (d1 - c1) (d2 - c2) (b0 - c0) (b1 - c1) (b2 - c2) ≤ sgN (d0 - c0) (d1 - c1) (d2 - c2) (b0 - c0) (b1 - c1) (b2 - c2) * F ∧
      N * sgD (b0 - a0) (b1 - a1) (b2 - a2) (c0 - a0) (c1 - a1) (c2 - a2) ≤ sgN (b0 - a0) (b1 - a1) (b2 - a2) (c0 - a0) (c1 - a1) (c2 - a2) * F ∧
      N * sgD (b0 - a0) (b1 - a1) (b2 - a2) (d0 - a0) (d1 - a1) (d2 - a2) ≤ sgN (b0 - a0) (b1 - a1) (b2 - a2) (d0 - a0) (d1 - a1) (d2 - a2) * F := by
  obtain ⟨u, qu, wu⟩ := sub3v (k := k) hb ha (by omega) (by omega) (by omega)
  obtain ⟨v, qv, wv⟩ := sub3v (k := k) hd hc (by omega) (by omega) (by omega)
  obtain ⟨w, qw, ww⟩ := sub3v (k := k) ha hc (by omega) (by omega) (by omega)
  obtain ⟨x1, y1, z1⟩ := dot3v (k := k) wu wu (by omega) (by omega) (by omega)
  obtain ⟨x2, y2, z2⟩ := dot3v (k := k) wu wv (by omega) (by omega) (by omega)
  obtain ⟨x3, y3, z3⟩ := dot3v (k := k) wv wv (by omega) (by omega) (by omega)
  obtain ⟨x4, y4, z4⟩ := dot3v (k := k) wu ww (by omega) (by omega) (by omega)
  obtain ⟨x5, y5, z5⟩ := dot3v (k := k) wv ww (by omega) (by omega) (by omega)
  obtain ⟨x6, y6, z6⟩ := dz_mul (k := k) z1 z3 (by omega) (by omega) (by omega) (by omega) (by omega)
  obtain ⟨x7, y7, z7⟩ := dz_mul (k := k) z2 z2 (by omega) (by omega) (by omega) (by omega) (by omega)
  obtain ⟨x8, y8, z8⟩ := dz_sub (k := k) z6 z7 (by omega) (by omega) (by omega)
  obtain ⟨x9, y9, z9⟩ := dz_mul (k := k) z2 z5 (by omega) (by omega) (by omega) (by omega) (by omega)
  obtain ⟨xa, ya, za⟩ := dz_mul (k := k) z3 z4 (by omega) (by omega) (by omega) (by omega) (by omega)
  obtain ⟨xb, yb, zb⟩ := dz_sub (k := k) z9 za (by omega) (by omega) (by omega)
  obtain ⟨xc, yc, zc⟩ := dz_mul (k := k) z1 z5 (by omega) (by omega) (by omega) (by omega) (by omega)
  obtain ⟨xd, yd, zd⟩ := dz_mul (k := k) z2 z4 (by omega) (by omega) (by omega) (by omega) (by omega)
  obtain ⟨xe, ye, ze⟩ := dz_sub (k := k) zc zd (by omega) (by omega) (by omega)
  have sg := dz_sign (k := k) z8
  have e0 : dt3 (b0 - a0) (b1 - a1) (b2 - a2) (b0 - a0) (b1 - a1) (b2 - a2) * dt3 (d0 - c0) (d1 - c1) (d2 - c2) (d0 - c0) (d1 - c1) (d2 - c2) - dt3 (b0 - a0) (b1 - a1) (b2 - a2) (d0 - c0) (d1 - c1) (d2 - c2) * dt3 (b0 - a0) (b1 - a1) (b2 - a2) (d0 - c0) (d1 - c1) (d2 - c2) = 0 := by
    rw [p0, p1, p2, q0, q1, q2, dt_both, dt_both, dt_both]; exact par1 _ _ _
  rw [e0] at sg
  obtain ⟨r0, t0, v0⟩ := squareTo3v (k := k) ha hc hd (by omega) (by omega)
  obtain ⟨r1, t1, v1⟩ := squareTo3v (k := k) hb hc hd (by omega) (by omega)
  obtain ⟨r2, t2, v2⟩ := squareTo3v (k := k) hc ha hb (by omega) (by omega)
  obtain ⟨r3, t3, v3⟩ := squareTo3v (k := k) hd ha hb (by omega) (by omega)
  obtain ⟨r, N, F, qr, wr, hF, hmem, m0, m1, m2, m3⟩ := least4 (k := k) v0 v1 v2 v3 (sgD_pos hcd) (sgD_pos hcd) (sgD_pos hab) (sgD_pos hab) hk
  refine ⟨r, N, F, ?_, wr, hF, hmem, m0, m1, m2, m3⟩
  unfold spec_SquareBetween3
  rw [qu, sbind, qv, sbind, qw, sbind, y1, sbind, y2, sbind, y3, sbind, y4, sbind, y5, sbind, y6, sbind, y7, sbind, y8, sbind, y9, sbind, ya, sbind, yb, sbind, yc, sbind, yd, sbind, ye, sbind, sg, sbind, decide_eq_false (by decide), br_false]
  unfold spec_SquareBetween3_j1 spec_SquareBetween3_j2
  rw [br_false, br_false, t0, sbind, t1, sbind, t2, sbind, t3, sbind]
  have e5 : ∀ z : T6, (z.1, z.2.1, z.2.2.1, z.2.2.2.1, z.2.2.2.2.1, z.2.2.2.2.2) = z := fun z => rfl
  rw [e5, e5, e5, e5, qr, sbind]
end Go.Proofs.Ytmkhoplffiakmaa
namespace Go.Proofs.Ytmkhoplffiakmaa
open Go.Sx
set_option linter.unusedVariables false
set_option linter.unusedSimpArgs false
set_option maxRecDepth 100000

def gp (m t S : Int) : Int := if m * t ≤ 0 then t else if m * m * S ≤ m * t then t - m * S else 0
theorem sq_add (n s0 s1 s2 w0 w1 w2 : Int) : cr2 s0 s1 s2 (w0 + n * s0) (w1 + n * s1) (w2 + n * s2) = cr2 s0 s1 s2 w0 w1 w2 := by unfold cr2; grind
theorem cr2_left (m s0 s1 s2 w0 w1 w2 : Int) : cr2 (m * s0) (m * s1) (m * s2) w0 w1 w2 = m * m * cr2 s0 s1 s2 w0 w1 w2 := by unfold cr2; grind
theorem sg_gap (m s0 s1 s2 w0 w1 w2 : Int) :
    sgN (m * s0) (m * s1) (m * s2) w0 w1 w2 * lng s0 s1 s2 = sgD (m * s0) (m * s1) (m * s2) w0 w1 w2 * (cr2 s0 s1 s2 w0 w1 w2 + gp m (dt3 s0 s1 s2 w0 w1 w2) (lng s0 s1 s2) * gp m (dt3 s0 s1 s2 w0 w1 w2) (lng s0 s1 s2)) := by
  unfold sgN sgD gp
  rw [dt_left, lng_mul]
  have h1 := lagr s0 s1 s2 w0 w1 w2
  by_cases c1 : m * dt3 s0 s1 s2 w0 w1 w2 ≤ 0
  · rw [if_pos c1, if_pos c1, if_pos c1]
    rw [Int.one_mul, Int.mul_comm, h1]; omega
  rw [if_neg c1, if_neg c1, if_neg c1]
  by_cases c2 : m * m * lng s0 s1 s2 ≤ m * dt3 s0 s1 s2 w0 w1 w2
  · rw [if_pos c2, if_pos c2, if_pos c2, Int.one_mul]
    have h2 := lagr s0 s1 s2 (w0 - m * s0) (w1 - m * s1) (w2 - m * s2)
    have e1 : dt3 s0 s1 s2 (w0 - m * s0) (w1 - m * s1) (w2 - m * s2) = dt3 s0 s1 s2 w0 w1 w2 - m * lng s0 s1 s2 := by unfold dt3 lng; grind
    have e2 : cr2 s0 s1 s2 (w0 - m * s0) (w1 - m * s1) (w2 - m * s2) = cr2 s0 s1 s2 w0 w1 w2 := by unfold cr2; grind
    rw [e1, e2] at h2
    rw [Int.mul_comm, h2]; omega
  · rw [if_neg c2, if_neg c2, if_neg c2, cr2_left]
    generalize cr2 s0 s1 s2 w0 w1 w2 = X
    generalize lng s0 s1 s2 = S
    grind
theorem gp_pos {m t S : Int} (hS : 0 < S) (hm : 0 < m) : gp m t S = if t ≤ 0 then t else if m * S ≤ t then t - m * S else 0 := by
  unfold gp
  have h1 : m * t ≤ 0 ↔ t ≤ 0 := by
    constructor
    · intro h
      rcases Int.lt_or_le 0 t with h' | h'
      · have := Int.mul_pos hm h'; omega
      · exact h'
    · intro h; exact Int.mul_nonpos_of_nonneg_of_nonpos (Int.le_of_lt hm) h
  have h2 : m * m * S ≤ m * t ↔ m * S ≤ t := by
    rw [Int.mul_assoc]
    exact ⟨fun h => Int.le_of_mul_le_mul_left h hm, fun h => Int.mul_le_mul_of_nonneg_left h (Int.le_of_lt hm)⟩
  simp only [h1, h2]
theorem gp_neg {m t S : Int} (hS : 0 < S) (hm : m < 0) : gp m t S = if 0 ≤ t then t else if t ≤ m * S then t - m * S else 0 := by
  unfold gp
  have h1 : m * t ≤ 0 ↔ 0 ≤ t := by
    constructor
    · intro h
      rcases Int.lt_or_le t 0 with h' | h'
      · have := Int.mul_pos_of_neg_of_neg hm h'; omega
      · exact h'
    · intro h; exact Int.mul_nonpos_of_nonpos_of_nonneg (Int.le_of_lt hm) h
  have h2 : m * m * S ≤ m * t ↔ t ≤ m * S := by
    rw [Int.mul_assoc]
    constructor
    · intro h
      rcases Int.lt_or_le (m * S) t with h' | h'
      · have := Int.mul_lt_mul_of_neg_left h' hm; omega
      · exact h'
    · intro h; exact Int.mul_le_mul_of_nonpos_left (Int.le_of_lt hm) h
  simp only [h1, h2]
theorem sq_le3 {a b : Int} (h : (a ≤ b ∧ -b ≤ a) ∨ (a ≤ -b ∧ b ≤ a)) : a * a ≤ b * b := by
  rcases h with ⟨h1, h2⟩ | ⟨h1, h2⟩
  · have := Int.mul_nonneg (show 0 ≤ b - a by omega) (show 0 ≤ b + a by omega); grind
  · have := Int.mul_nonneg (show 0 ≤ -b - a by omega) (show 0 ≤ a - b by omega); grind
theorem sgnS {m S : Int} (hS : 0 < S) (hm : m ≠ 0) : (0 < m ∧ 0 < m * S) ∨ (m < 0 ∧ m * S < 0) := by
  rcases Int.lt_trichotomy m 0 with h | h | h
  · exact .inr ⟨h, Int.mul_neg_of_neg_of_pos h hS⟩
  · exact absurd h hm
  · exact .inl ⟨h, Int.mul_pos h hS⟩
theorem near_c {j k t S : Int} (hS : 0 < S) (hj : j ≠ 0) (hk : k ≠ 0) (h : k * t < 0 ∨ t + j * S = 0) :
    gp j (-t) S * gp j (-t) S ≤ gp k t S * gp k t S ∧ gp j (-t) S * gp j (-t) S ≤ gp k (t + j * S) S * gp k (t + j * S) S ∧ gp j (-t) S * gp j (-t) S ≤ gp j (k * S - t) S * gp j (k * S - t) S := by
  have h' : ((0 < k ∧ t < 0) ∨ (k < 0 ∧ 0 < t)) ∨ t + j * S = 0 := by
    rcases h with h | h
    · left
      rcases sgnS hS hk with ⟨a, _⟩ | ⟨a, _⟩
      · left
        rcases Int.lt_or_le t 0 with g | g
        · exact ⟨a, g⟩
        · have := Int.mul_nonneg (Int.le_of_lt a) g; omega
      · right
        rcases Int.lt_or_le 0 t with g | g
        · exact ⟨a, g⟩
        · have := Int.mul_nonneg_of_nonpos_of_nonpos (Int.le_of_lt a) g; omega
    · exact .inr h
  clear h
  rcases sgnS hS hj with ⟨a, b⟩ | ⟨a, b⟩ <;> rcases sgnS hS hk with ⟨c, d⟩ | ⟨c, d⟩
  · rw [gp_pos hS a, gp_pos hS c, gp_pos hS c, gp_pos hS a]
    generalize j * S = J at *
    generalize k * S = K at *
    refine ⟨sq_le3 ?_, sq_le3 ?_, sq_le3 ?_⟩ <;> repeat' split
    all_goals omega
  · rw [gp_pos hS a, gp_neg hS c, gp_neg hS c, gp_pos hS a]
    generalize j * S = J at *
    generalize k * S = K at *
    refine ⟨sq_le3 ?_, sq_le3 ?_, sq_le3 ?_⟩ <;> repeat' split
    all_goals omega
  · rw [gp_neg hS a, gp_pos hS c, gp_pos hS c, gp_neg hS a]
    generalize j * S = J at *
    generalize k * S = K at *
    refine ⟨sq_le3 ?_, sq_le3 ?_, sq_le3 ?_⟩ <;> repeat' split
    all_goals omega
  · rw [gp_neg hS a, gp_neg hS c, gp_neg hS c, gp_neg hS a]
    generalize j * S = J at *
    generalize k * S = K at *
    refine ⟨sq_le3 ?_, sq_le3 ?_, sq_le3 ?_⟩ <;> repeat' split
    all_goals omega
theorem near_d {j k t S : Int} (hS : 0 < S) (hj : j ≠ 0) (hk : k ≠ 0) (h : k * k * S ≤ k * t) :
    gp j (k * S - t) S * gp j (k * S - t) S ≤ gp k t S * gp k t S ∧ gp j (k * S - t) S * gp j (k * S - t) S ≤ gp k (t + j * S) S * gp k (t + j * S) S ∧ gp j (k * S - t) S * gp j (k * S - t) S ≤ gp j (-t) S * gp j (-t) S := by
  have h' : (0 < k ∧ k * S ≤ t) ∨ (k < 0 ∧ t ≤ k * S) := by
    rw [Int.mul_assoc] at h
    rcases sgnS hS hk with ⟨a, _⟩ | ⟨a, _⟩
    · exact .inl ⟨a, Int.le_of_mul_le_mul_left h a⟩
    · right
      rcases Int.lt_or_le (k * S) t with g | g
      · have := Int.mul_lt_mul_of_neg_left g a; omega
      · exact ⟨a, g⟩
  clear h
  rcases sgnS hS hj with ⟨a, b⟩ | ⟨a, b⟩ <;> rcases sgnS hS hk with ⟨c, d⟩ | ⟨c, d⟩
  · rw [gp_pos hS a, gp_pos hS c, gp_pos hS c, gp_pos hS a]
    generalize j * S = J at *
    generalize k * S = K at *
    refine ⟨sq_le3 ?_, sq_le3 ?_, sq_le3 ?_⟩ <;> repeat' split
    all_goals omega
  · rw [gp_pos hS a, gp_neg hS c, gp_neg hS c, gp_pos hS a]
    generalize j * S = J at *
    generalize k * S = K at *
    refine ⟨sq_le3 ?_, sq_le3 ?_, sq_le3 ?_⟩ <;> repeat' split
    all_goals omega
  · rw [gp_neg hS a, gp_pos hS c, gp_pos hS c, gp_neg hS a]
    generalize j * S = J at *
    generalize k * S = K at *
    refine ⟨sq_le3 ?_, sq_le3 ?_, sq_le3 ?_⟩ <;> repeat' split
    all_goals omega
  · rw [gp_neg hS a, gp_neg hS c, gp_neg hS c, gp_neg hS a]
    generalize j * S = J at *
    generalize k * S = K at *
    refine ⟨sq_le3 ?_, sq_le3 ?_, sq_le3 ?_⟩ <;> repeat' split
    all_goals omega
end Go.Proofs.Ytmkhoplffiakmaa
