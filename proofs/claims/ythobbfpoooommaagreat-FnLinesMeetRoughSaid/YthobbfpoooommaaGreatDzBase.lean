/-
  Whole numbers as dyadic ones, with bounds of their exponents and limbs. Ours.
-/
import Derived.Test.YthobbfpoooommaaGreatExact3
import Derived.Test.YthobbfpoooommaaGreatDyadicAny
namespace Go.Proofs.YthobbfpoooommaaGreat
open Go.Sx
open Ieee (signed)
set_option linter.unusedVariables false
set_option linter.unusedSimpArgs false
set_option maxRecDepth 100000

/-- a whole number as a dyadic one: exponents from -κ to κ, at most λ limbs -/
def Dz (κ lm : Nat) (s : Bool) (l : List Int) (e : Int) (n : Int) : Prop := Dr (-(κ : Int)) κ lm s l e (n * 2 ^ κ)
theorem Dz.mono {κ κ' lm lm' : Nat} {s : Bool} {l : List Int} {e n : Int} (h : Dz κ lm s l e n) (h1 : κ ≤ κ') (h2 : lm ≤ lm') : Dz κ' lm' s l e n := by
  have h3 := (Dr.down (B' := -(κ' : Int)) h (by omega)).mono (T' := κ') (L' := lm') (by omega) h2
  have e1 : (-(κ : Int) - -(κ' : Int)).toNat = κ' - κ := by omega
  rw [e1, Int.mul_assoc, ← Int.pow_add, show κ + (κ' - κ) = κ' by omega] at h3
  exact h3
theorem dz_sub {k κ lm : Nat} {s s' : Bool} {l l' : List Int} {e e' m n : Int} (h : Dz κ lm s l e m) (h' : Dz κ lm s' l' e' n) (hκ : κ < 100000) (hl : lm < 100000) (hk : lm + κ / 16 + 3 < k) :
    ∃ r, spec_Dyadic_Sub k s l e s' l' e' = some r ∧ Dz κ (lm + κ / 16 + 2) r.1 r.2.1 r.2.2 (m - n) := by
  have e1 : ((κ : Int) - -(κ : Int)).toNat / 32 = κ / 16 := by omega
  obtain ⟨a, b, c, q, w⟩ := dsub_is (k := k) h h' (by omega) (by omega) (by omega) hl (by omega)
  rw [e1, ← Int.sub_mul] at w
  exact ⟨(a, b, c), q, w⟩
theorem dz_add {k κ lm : Nat} {s s' : Bool} {l l' : List Int} {e e' m n : Int} (h : Dz κ lm s l e m) (h' : Dz κ lm s' l' e' n) (hκ : κ < 100000) (hl : lm < 100000) (hk : lm + κ / 16 + 3 < k) :
    ∃ r, spec_Dyadic_Add k s l e s' l' e' = some r ∧ Dz κ (lm + κ / 16 + 2) r.1 r.2.1 r.2.2 (m + n) := by
  have e1 : ((κ : Int) - -(κ : Int)).toNat / 32 = κ / 16 := by omega
  obtain ⟨a, b, c, q, w⟩ := dadd_is (k := k) h h' (by omega) (by omega) (by omega) hl (by omega)
  rw [e1, ← Int.add_mul] at w
  exact ⟨(a, b, c), q, w⟩
theorem dz_mul {k κ lm κ' lm' : Nat} {s s' : Bool} {l l' : List Int} {e e' m n : Int} (h : Dz κ lm s l e m) (h' : Dz κ' lm' s' l' e' n) (hκ : κ < 100000) (hl : lm < 100000) (hκ' : κ' < 100000) (hl' : lm' < 100000) (hk : lm + lm' + 1 < k) :
    ∃ r, spec_Dyadic_Mul k s l e s' l' e' = some r ∧ Dz (κ + κ') (lm + lm') r.1 r.2.1 r.2.2 (m * n) := by
  obtain ⟨a, b, c, q, w⟩ := dmul_is (k := k) h h' (by omega) (by omega) (by omega) (by omega) hl hl' hk
  refine ⟨(a, b, c), q, ?_⟩
  unfold Dz
  have e1 : m * 2 ^ κ * (n * 2 ^ κ') = m * n * 2 ^ (κ + κ') := by rw [Int.pow_add]; grind
  rw [e1] at w
  have e2 : -(κ : Int) + -(κ' : Int) = -((κ + κ' : Nat) : Int) := by omega
  have e3 : (κ : Int) + (κ' : Int) = ((κ + κ' : Nat) : Int) := by omega
  rw [e2, e3] at w
  exact w
theorem dz_sign {k κ lm : Nat} {s : Bool} {l : List Int} {e n : Int} (h : Dz κ lm s l e n) : spec_Dyadic_Sign k s l e = some (sgn n) := by
  have := dsign_is (k := k) h
  rw [sgn_mul] at this; exact this
theorem dz_cmp {k κ lm : Nat} {s s' : Bool} {l l' : List Int} {e e' m n : Int} (h : Dz κ lm s l e m) (h' : Dz κ lm s' l' e' n) (hκ : κ < 100000) (hl : lm < 100000) (hk : lm + κ / 16 + 3 < k) :
    spec_Dyadic_Cmp k s l e s' l' e' = some (sgn (m - n)) := by
  obtain ⟨r, q, w⟩ := dz_sub (k := k) h h' hκ hl hk
  unfold spec_Dyadic_Cmp
  rw [q, sbind, dz_sign w]; rfl
abbrev T6 := Bool × (List Int) × Int × Bool × (List Int) × Int
/-- a place of whole numbers -/
def Pz (r : T6) (p : Int × Int) : Prop := Dz 1074 2 r.1 r.2.1 r.2.2.1 p.1 ∧ Dz 1074 2 r.2.2.2.1 r.2.2.2.2.1 r.2.2.2.2.2 p.2
theorem exactly_z {k : Nat} {x0 x1 : Nat} {a b : Int} (h0 : x0 < 2 ^ 64) (h1 : x1 < 2 ^ 64) (d0 : D x0 a 1074) (d1 : D x1 b 1074) (hk : 2 < k) : ∃ r, laws_exactly k x0 x1 = some r ∧ Pz r (a, b) := by
  obtain ⟨s0, l0, e0, q0, w0⟩ := dyadicOf_is h0 d0 hk
  obtain ⟨s1, l1, e1, q1, w1⟩ := dyadicOf_is h1 d1 hk
  unfold laws_exactly spec_PointOf
  rw [q0, sbind, q1, sbind, sbind]
  exact ⟨_, rfl, w0.mono (by decide) (Nat.le_refl _), w1.mono (by decide) (Nat.le_refl _)⟩
end Go.Proofs.YthobbfpoooommaaGreat
