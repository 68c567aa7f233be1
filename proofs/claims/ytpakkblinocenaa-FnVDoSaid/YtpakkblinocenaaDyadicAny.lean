/-
  Any word as a dyadic number; two of them held against one another. Ours.
-/
import Derived.Test.YtpakkblinocenaaExact3
import Derived.Test.YtpakkblinocenaaSxY
namespace Go.Proofs.Ytpakkblinocenaa
open Go.Sx
open Ieee (signed)
set_option linter.unusedVariables false
set_option linter.unusedSimpArgs false
set_option maxRecDepth 100000

theorem dyadic_any (k x : Nat) (hx : x < 2 ^ 64) (hk : 2 < k) : ∃ s l e N, spec_DyadicOf k x = some (s, l, e) ∧ Dr (-1074) 971 2 s l e N ∧ ∀ m v, D x m v → N = m * 2 ^ v := by
  by_cases hE : x / 2 ^ 52 % 2048 = 2047
  · have hx' : (x : Int) < 18446744073709551616 := by
      have : (2 : Nat) ^ 64 = 18446744073709551616 := by decide
      omega
    have r52 : ishr .u64 (fbits x) 52 = some ((x / 2 ^ 52 : Nat) : Int) := by
      have := ishr_u64 (a := (x : Int)) (n := 52) (by omega) hx' (by omega)
      rw [show fbits x = (x : Int) from rfl, show (52 : Int) = ((52 : Nat) : Int) from rfl, this]
      congr 1
    have iE : iand .u64 ((x / 2 ^ 52 : Nat) : Int) 2047 = ((2047 : Nat) : Int) := by
      have := Go.Sx.iand_mask (a := x / 2 ^ 52) (t := 11) (by omega) (by omega)
      rw [← hE]; exact this
    have cE : icv .i64 ((2047 : Nat) : Int) = ((2047 : Nat) : Int) := icv_i64 (by omega) (by omega)
    refine ⟨false, [], 0, 0, ?_, ⟨⟨0, wh_nil, (Int.zero_mul _).symm⟩, by omega, by omega, Nat.zero_le _⟩, fun m v hD => ?_⟩
    · unfold spec_DyadicOf
      rw [r52]
      simp only [Option.bind_eq_bind, Option.bind_some, iE, cE]
      rfl
    · obtain ⟨sg, mm, q, h1, h2⟩ := hD
      obtain ⟨_, hf⟩ := Go.Sx.read_fields hx h1
      rcases hf with ⟨a, b, c⟩ | ⟨a, b, c, d⟩ <;> omega
  · have hr : ∃ s m q, FloatKind.f64.format.read x = .number s m ((q : Nat) - 1074 : Int) := by
      rw [fmt_is]
      unfold Ieee.Format.read
      simp only [Go.Sx.sign_is, binade_is, inf_is, least_is]
      split
      · exact ⟨_, _, 0, rfl⟩
      · split
        · exact ⟨_, _, x % 2 ^ 63 / 2 ^ 52 - 1, by rw [Int.add_comm, ← Int.sub_eq_add_neg]⟩
        · exfalso
          have : x % 2 ^ 63 / 2 ^ 52 = x / 2 ^ 52 % 2048 := by omega
          omega
    obtain ⟨sg, m, q, h1⟩ := hr
    have hD : D x (signed sg m q) 0 := ⟨sg, m, q, h1, by simp⟩
    obtain ⟨s, l, e, r1, r2⟩ := dyadicOf_is (k := k) hx hD hk
    refine ⟨s, l, e, _, r1, r2, fun m' v' hD' => ?_⟩
    obtain ⟨s2, m2, q2, t1, t2⟩ := hD'
    rw [h1] at t1
    simp only [Ieee.Datum.number.injEq] at t1
    obtain ⟨rfl, rfl, t3⟩ := t1
    have : q = q2 := by omega
    subst this
    rw [← t2]; simp

theorem Dr.down {B B' T : Int} {L : Nat} {s : Bool} {l : List Int} {e N : Int} (h : Dr B T L s l e N) (hB : B' ≤ B) : Dr B' T L s l e (N * 2 ^ (B - B').toNat) := by
  obtain ⟨z, hz, hN⟩ := h.ex
  have := h.lo
  refine ⟨⟨z, hz, ?_⟩, by omega, h.hi, h.len⟩
  rw [hN, Int.mul_assoc, ← Int.pow_add]
  congr 2
  omega

/-- a square that is held against a limit: an answer there is -/
theorem dcmp_any {k : Nat} {s1 s2 : Bool} {l1 l2 : List Int} {e1 e2 M N : Int} (h1 : Dr (-1074) 971 2 s1 l1 e1 M) (h2 : Dr (-2148) 1942 4 s2 l2 e2 N) (hk : 1000 < k) : ∃ c, spec_Dyadic_Cmp k s1 l1 e1 s2 l2 e2 = some c := by
  obtain ⟨s, l, e, r1, r2⟩ := dsub_is (k := k) ((h1.down (B' := -2148) (by omega)).mono (T' := 1942) (L' := 4) (by omega) (by omega)) h2 (by decide) (by omega) (by omega) (by omega) (by
    have : ((1942 : Int) - -2148).toNat / 32 = 127 := by decide
    omega)
  have r3 := dsign_is (k := k) r2
  exact ⟨_, by simp only [spec_Dyadic_Cmp, r1, Option.bind_eq_bind, Option.bind_some, r3]; rfl⟩
end Go.Proofs.Ytpakkblinocenaa
