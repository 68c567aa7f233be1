/-
  The exact arithmetic that the statements are told with, as whole numbers: whole numbers, dyadic numbers, what a float stands for. Ours.
-/
import Derived.Test.YthobbfpoooommaaGreatExact
namespace Go.Proofs.YthobbfpoooommaaGreat
open Go.Sx
set_option linter.unusedVariables false
set_option linter.unusedSimpArgs false
set_option maxRecDepth 100000

theorem natAbs_mul_pow (z : Int) (a : Nat) : ((z * 2 ^ a).natAbs : Int) = (z.natAbs : Int) * 2 ^ a := by
  rw [Int.natAbs_mul, Int.natAbs_pow]; simp

theorem up_is {k : Nat} {s : Bool} {l : List Int} {z : Int} {a : Nat} (h : Wh s l z) (ha : a < 10000000) (hl : l.length < 400000) (hk : l.length + a / 32 + 1 < k) :
    ∃ l', spec_Whole_Up k s l (a : Int) = some (s, l') ∧ Wh s l' (z * 2 ^ a) ∧ l'.length ≤ l.length + a / 32 + 1 := by
  unfold spec_Whole_Up
  by_cases hn : l = []
  · have hz := (wh_zero h).2 hn
    subst hn; subst hz
    exact ⟨[], rfl, by rw [Int.zero_mul]; exact h, by simp⟩
  · have hd : decide ((l.length : Int) = 0) = false := by
      have := List.length_pos_iff.2 hn
      simp; omega
    have hq : iquo .i64 (a : Int) 32 = some ((a / 32 : Nat) : Int) := by
      unfold iquo
      rw [if_neg (by omega)]
      have : (a : Int).tdiv 32 = ((a / 32 : Nat) : Int) := by rw [Int.tdiv_eq_ediv_of_nonneg (by omega)]; omega
      rw [this, wrap_i64 (by omega) (by omega)]
    have hr : irem (a : Int) 32 = some ((a % 32 : Nat) : Int) := by
      unfold irem
      rw [if_neg (by omega)]
      have : (a : Int).tmod 32 = ((a % 32 : Nat) : Int) := by rw [Int.tmod_eq_emod_of_nonneg (by omega)]; omega
      rw [this]
    have hadd : iadd .i64 (iadd .i64 ((a / 32 : Nat) : Int) (l.length : Int)) 1 = ((a / 32 + l.length + 1 : Nat) : Int) := by
      rw [iadd_i64 (a := ((a / 32 : Nat) : Int)) (by omega) (by omega), iadd_i64 (by omega) (by omega)]; omega
    have hmk : mk 4 (0 : Int) ((a / 32 : Nat) : Int) ((a / 32 + l.length + 1 : Nat) : Int) = some (List.replicate (a / 32) 0) := by
      rw [mk_some (by omega) (by omega) (by omega) (by omega), Int.toNat_natCast]
    obtain ⟨acc, c, r1, r2, r3, r4, r5, r6⟩ := up_loop l h.lb.lim a (a % 32) (Nat.mod_lt _ (by omega)) hr (by omega) (a / 32) (by omega) l.length k 0 (List.replicate (a / 32) 0) 0
      (by omega) (by omega) (by omega) (by simp) (lim_zeros _) (by omega) (Int.pow_pos (by omega))
    have hc1 : c < 4294967296 := by
      have h3 := powle 2 (show a % 32 ≤ 32 by omega) (by omega)
      have h4 : (((2 : Nat) : Int)) ^ 32 = 4294967296 := rfl
      rw [h4] at h3
      have h5 : c < ((2 : Nat) : Int) ^ (a % 32) := r5
      omega
    have happ : apd 4 acc [c] = some (acc ++ [c]) := apd_some (by simp; omega) (by simp; omega)
    obtain ⟨r, t1, t2, t3⟩ := trim_some (k := k) (l := acc ++ [c]) (by simp; omega) (by simp; omega) (lim_app r2 (lim_one r4 hc1))
    refine ⟨r, ?_, ⟨?_, ?_⟩, by simp at t3; omega⟩
    · have r1' : spec_Whole_Up_l1 l (a : Int) k (List.replicate (a / 32) 0, 0, 0) = some (acc, c) := r1
      simp only [hd, br_false, hq, Option.bind_eq_bind, Option.bind_some, hadd, hmk, r1', happ, t1]
    · have : lv (acc ++ [c]) = ((z * 2 ^ a).natAbs : Int) := by
        rw [lv_app, r3, natAbs_mul_pow]
        simp only [lv, Int.mul_zero, Int.add_zero]
        rw [r6, lv_zeros]
        simp only [List.drop_zero, Nat.add_zero, Int.zero_add, h.lb.val]
        have : (4294967296 : Int) ^ (a / 32) * (2 ^ (a % 32) * (z.natAbs : Int)) = (z.natAbs : Int) * (4294967296 ^ (a / 32) * 2 ^ (a % 32)) := by
          rw [← Int.mul_assoc, Int.mul_comm]
        rw [this]
        congr 1
        rw [show (4294967296 : Int) = 2 ^ 32 from rfl, ← Int.pow_mul, ← Int.pow_add]
        congr 1
        omega
      rw [← this]; exact t2
    · rw [h.sg]
      have hp : (0 : Int) < 2 ^ a := Int.pow_pos (by omega)
      congr 1
      apply propext
      constructor
      · intro hz; exact Int.mul_neg_of_neg_of_pos hz hp
      · intro hz
        rcases Int.lt_or_le z 0 with h' | h'
        · exact h'
        · have := Int.mul_nonneg h' (Int.le_of_lt hp); omega

theorem mul_is {k : Nat} {s1 s2 : Bool} {l1 l2 : List Int} {z1 z2 : Int} (h1 : Wh s1 l1 z1) (h2 : Wh s2 l2 z2) (hb1 : l1.length < 200000) (hb2 : l2.length < 200000) (hk : l1.length + l2.length + 1 < k) :
    ∃ s l, spec_Whole_Mul k s1 l1 s2 l2 = some (s, l) ∧ Wh s l (z1 * z2) ∧ l.length ≤ l1.length + l2.length := by
  have hadd : iadd .i64 (l1.length : Int) (l2.length : Int) = ((l1.length + l2.length : Nat) : Int) := by rw [iadd_i64 (by omega) (by omega)]; omega
  have hmk : mk 4 (0 : Int) ((l1.length + l2.length : Nat) : Int) ((l1.length + l2.length : Nat) : Int) = some (List.replicate (l1.length + l2.length) 0) := by
    rw [mk_some (by omega) (by omega) (by omega) (by omega), Int.toNat_natCast]
  obtain ⟨out, r1, r2, r3, r4⟩ := mul_loop2 l1 l2 h1.lb.lim h2.lb.lim (by omega) (by omega) l1.length k 0 (List.replicate (l1.length + l2.length) 0) (by omega) (by omega) (by omega) (by simp) (lim_zeros _)
    (fun m _ hm => by simp at hm; simp [hm])
  obtain ⟨r, t1, t2, t3⟩ := trim_some (k := k) (l := out) (by rw [r3]; simp; omega) (by rw [r3]; simp; omega) r2
  have hv : lv out = ((z1 * z2).natAbs : Int) := by
    rw [r4, lv_zeros]
    simp only [List.drop_zero, Int.pow_zero, Int.one_mul, Int.zero_add, h1.lb.val, h2.lb.val]
    rw [Int.natAbs_mul]; simp
  rw [hv] at t2
  have r1' : spec_Whole_Mul_l3 l1 l2 k (List.replicate (l1.length + l2.length) 0, 0) = some out := r1
  have hneg : z1 * z2 < 0 ↔ (z1 * z2 ≠ 0 ∧ ¬ (z1 < 0 ↔ z2 < 0)) := by
    rcases Int.lt_trichotomy z1 0 with a | a | a <;> rcases Int.lt_trichotomy z2 0 with b | b | b
    · have := Int.mul_pos_of_neg_of_neg a b; omega
    · subst b; simp
    · have := Int.mul_neg_of_neg_of_pos a b; omega
    · subst a; simp
    · subst a; simp
    · subst a; simp
    · have := Int.mul_neg_of_pos_of_neg a b; omega
    · subst b; simp
    · have := Int.mul_pos a b; omega
  by_cases hr : r = []
  · have hz : z1 * z2 = 0 := by have := lb_nil t2 hr; omega
    refine ⟨false, r, ?_, ⟨t2, by rw [hz]; rfl⟩, by rw [r3] at t3; simpa using t3⟩
    have hd : decide ((0 : Int) < (r.length : Int)) = false := by rw [hr]; rfl
    simp only [spec_Whole_Mul, spec_Whole_Mul_j1, hadd, hmk, Option.bind_eq_bind, Option.bind_some, r1', t1, hd, br_false]
  · have hp := lb_pos t2 hr
    refine ⟨!(s1 == s2), r, ?_, ⟨t2, ?_⟩, by rw [r3] at t3; simpa using t3⟩
    · have hd : decide ((0 : Int) < (r.length : Int)) = true := by
        have := List.length_pos_iff.2 hr
        simp; omega
      simp only [spec_Whole_Mul, spec_Whole_Mul_j1, hadd, hmk, Option.bind_eq_bind, Option.bind_some, r1', t1, hd, br_true]
    · have hz : z1 * z2 ≠ 0 := by omega
      rw [h1.sg, h2.sg]
      by_cases a : z1 < 0 <;> by_cases b : z2 < 0 <;> simp [a, b, hneg, hz]

theorem wholeOf_is {k : Nat} {n : Int} (h0 : -9223372036854775808 < n) (h1 : n < 9223372036854775808) (hk : 2 < k) : ∃ s l, spec_WholeOf k n = some (s, l) ∧ Wh s l n ∧ l.length ≤ 2 := by
  have key : ∀ u : Int, u = (n.natAbs : Int) → ∃ l, spec_WholeOf_j1 k n u = some (decide (n < 0), l) ∧ Lb l (n.natAbs : Int) ∧ l.length ≤ 2 := by
    intro u hu
    have hu0 : 0 ≤ u := by omega
    have hu1 : u < 18446744073709551616 := by omega
    have hshr : ishr .u64 u 32 = some (u / 4294967296) := ishr_u64 (n := 32) hu0 hu1 (by omega)
    have hc : icv .u32 (u / 4294967296) = u / 4294967296 := by rw [icv_u32]; exact Int.emod_eq_of_lt (by omega) (by omega)
    obtain ⟨l, t1, t2, t3⟩ := trim_some (k := k) (l := [u % 4294967296, u / 4294967296]) (by simp; omega) (by simp) (fun x hx => by
      simp at hx
      rcases hx with rfl | rfl <;> omega)
    refine ⟨l, ?_, ?_, by simpa using t3⟩
    · have e : icv .u32 u = u % 4294967296 := icv_u32 u
      simp only [spec_WholeOf_j1, hshr, Option.bind_eq_bind, Option.bind_some, e, hc, t1]
    have : lv [u % 4294967296, u / 4294967296] = (n.natAbs : Int) := by
      simp only [lv]; omega
    rw [← this]; exact t2
  unfold spec_WholeOf
  by_cases hn : n < 0
  · have hu : isub .u64 0 (icv .u64 n) = (n.natAbs : Int) := by
      unfold isub icv
      rw [wrap_u64, wrap_u64]; omega
    obtain ⟨l, r1, r2, r3⟩ := key _ hu
    exact ⟨_, l, by simp only [hn, decide_true, br_true] at r1 ⊢; exact r1, ⟨r2, by simp [hn]⟩, r3⟩
  · have hu : icv .u64 n = (n.natAbs : Int) := by rw [icv_u64 (by omega) (by omega)]; omega
    obtain ⟨l, r1, r2, r3⟩ := key _ hu
    exact ⟨_, l, by simp only [hn, decide_false, br_false] at r1 ⊢; exact r1, ⟨r2, by simp [hn]⟩, r3⟩

/-! ### dyadic numbers -/
/-- a sign, limbs and an exponent from B to T that stand for N * 2 ^ B, with so many limbs at most -/
structure Dr (B T : Int) (L : Nat) (s : Bool) (l : List Int) (e : Int) (N : Int) : Prop where
  ex : ∃ z, Wh s l z ∧ N = z * 2 ^ (e - B).toNat
  lo : B ≤ e
  hi : e ≤ T
  len : l.length ≤ L

theorem Dr.mono {B T T' : Int} {L L' : Nat} {s : Bool} {l : List Int} {e N : Int} (h : Dr B T L s l e N) (hT : T ≤ T') (hL : L ≤ L') : Dr B T' L' s l e N :=
  ⟨h.ex, h.lo, by have := h.hi; omega, by have := h.len; omega⟩

theorem sgn_mul {z : Int} {n : Nat} : sgn (z * 2 ^ n) = sgn z := by
  have hp : (0 : Int) < 2 ^ n := Int.pow_pos (by omega)
  unfold sgn
  rcases Int.lt_trichotomy z 0 with h | h | h
  · have := Int.mul_neg_of_neg_of_pos h hp
    rw [if_pos h, if_pos this]
  · subst h; simp
  · have := Int.mul_pos h hp
    rw [if_neg (by omega), if_neg (by omega), if_neg (by omega), if_neg (by omega)]

theorem dsign_is {k : Nat} {B T : Int} {L : Nat} {s : Bool} {l : List Int} {e N : Int} (h : Dr B T L s l e N) : spec_Dyadic_Sign k s l e = some (sgn N) := by
  obtain ⟨z, hz, hN⟩ := h.ex
  rw [hN, sgn_mul]
  simp [spec_Dyadic_Sign, sign_is hz]

theorem dminus_is {k : Nat} {B T : Int} {L : Nat} {s : Bool} {l : List Int} {e N : Int} (h : Dr B T L s l e N) : ∃ s', spec_Dyadic_Minus k s l e = some (s', l, e) ∧ Dr B T L s' l e (-N) := by
  obtain ⟨z, hz, hN⟩ := h.ex
  obtain ⟨s', h1, h2⟩ := minus_is (k := k) hz
  exact ⟨s', by simp [spec_Dyadic_Minus, h1], ⟨-z, h2, by rw [hN, Int.neg_mul]⟩, h.lo, h.hi, h.len⟩

theorem sgn_zero {n : Int} : sgn n = 0 ↔ n = 0 := by unfold sgn; split <;> (try split) <;> omega

theorem dadd_is {k : Nat} {B T : Int} {L : Nat} {s1 s2 : Bool} {l1 l2 : List Int} {e1 e2 M N : Int} (h1 : Dr B T L s1 l1 e1 M) (h2 : Dr B T L s2 l2 e2 N) (hBT : (T - B).toNat < 1000000) (hB : -100000000 < B) (hT : T < 100000000) (hL : L < 100000)
    (hk : L + (T - B).toNat / 32 + 3 < k) : ∃ s l e, spec_Dyadic_Add k s1 l1 e1 s2 l2 e2 = some (s, l, e) ∧ Dr B T (L + (T - B).toNat / 32 + 2) s l e (M + N) := by
  unfold spec_Dyadic_Add
  rw [dsign_is h1, dsign_is h2]
  simp only [Option.bind_eq_bind, Option.bind_some]
  by_cases hM : M = 0
  · have : decide (sgn M = 0) = true := by simp [sgn_zero, hM]
    rw [this, br_true]
    exact ⟨s2, l2, e2, rfl, by rw [hM, Int.zero_add]; exact h2.mono (Int.le_refl _) (by omega)⟩
  · have : decide (sgn M = 0) = false := by simp [sgn_zero, hM]
    rw [this, br_false]
    by_cases hN : N = 0
    · have : decide (sgn N = 0) = true := by simp [sgn_zero, hN]
      rw [this, br_true]
      exact ⟨s1, l1, e1, rfl, by rw [hN, Int.add_zero]; exact h1.mono (Int.le_refl _) (by omega)⟩
    · have : decide (sgn N = 0) = false := by simp [sgn_zero, hN]
      rw [this, br_false]
      obtain ⟨z1, w1, v1⟩ := h1.ex
      obtain ⟨z2, w2, v2⟩ := h2.ex
      have a1 := h1.lo; have a2 := h1.hi; have a3 := h1.len
      have b1 := h2.lo; have b2 := h2.hi; have b3 := h2.len
      have key : ∀ {x y : Int} {d : Nat}, x = y + d → B ≤ y → ∀ z : Int, z * 2 ^ d * 2 ^ (y - B).toNat = z * 2 ^ (x - B).toNat := by
        intro x y d hd hy z
        rw [Int.mul_assoc, ← Int.pow_add]; congr 2; omega
      by_cases hlt : e2 < e1
      · have hd : decide (e2 < e1) = true := by simp [hlt]
        rw [hd, br_true]
        obtain ⟨d, hd⟩ : ∃ d : Nat, e1 = e2 + d := ⟨(e1 - e2).toNat, by omega⟩
        have hsub : isub .i64 e1 e2 = (d : Int) := by rw [isub_i64 (by omega) (by omega)]; omega
        have hdd : d / 32 ≤ (T - B).toNat / 32 := Nat.div_le_div_right (by omega)
        obtain ⟨l', u1, u2, u3⟩ := up_is (k := k) (a := d) w1 (by omega) (by omega) (by omega)
        obtain ⟨s, l, r1, r2, r3⟩ := add_is (k := k) (n := L + (T - B).toNat / 32 + 1) u2 w2 (by omega) (by omega) (by omega) (by omega)
        refine ⟨s, l, e2, by simp only [hsub, u1, Option.bind_some, r1], ⟨_, r2, ?_⟩, b1, b2, by omega⟩
        rw [Int.add_mul, key hd b1, ← v1, ← v2]
      · have hd : decide (e2 < e1) = false := by simp; omega
        rw [hd, br_false]
        obtain ⟨d, hd⟩ : ∃ d : Nat, e2 = e1 + d := ⟨(e2 - e1).toNat, by omega⟩
        have hsub : isub .i64 e2 e1 = (d : Int) := by rw [isub_i64 (by omega) (by omega)]; omega
        have hdd : d / 32 ≤ (T - B).toNat / 32 := Nat.div_le_div_right (by omega)
        obtain ⟨l', u1, u2, u3⟩ := up_is (k := k) (a := d) w2 (by omega) (by omega) (by omega)
        obtain ⟨s, l, r1, r2, r3⟩ := add_is (k := k) (n := L + (T - B).toNat / 32 + 1) u2 w1 (by omega) (by omega) (by omega) (by omega)
        refine ⟨s, l, e1, by simp only [hsub, u1, Option.bind_some, r1], ⟨_, r2, ?_⟩, a1, a2, by omega⟩
        rw [Int.add_mul, key hd a1, ← v1, ← v2, Int.add_comm]

theorem dsub_is {k : Nat} {B T : Int} {L : Nat} {s1 s2 : Bool} {l1 l2 : List Int} {e1 e2 M N : Int} (h1 : Dr B T L s1 l1 e1 M) (h2 : Dr B T L s2 l2 e2 N) (hBT : (T - B).toNat < 1000000) (hB : -100000000 < B) (hT : T < 100000000) (hL : L < 100000)
    (hk : L + (T - B).toNat / 32 + 3 < k) : ∃ s l e, spec_Dyadic_Sub k s1 l1 e1 s2 l2 e2 = some (s, l, e) ∧ Dr B T (L + (T - B).toNat / 32 + 2) s l e (M - N) := by
  obtain ⟨s', m1, m2⟩ := dminus_is (k := k) h2
  obtain ⟨s, l, e, r1, r2⟩ := dadd_is (k := k) h1 m2 hBT hB hT hL hk
  exact ⟨s, l, e, by simp [spec_Dyadic_Sub, m1, r1], by rw [Int.sub_eq_add_neg]; exact r2⟩

theorem dmul_is {k : Nat} {B1 T1 B2 T2 : Int} {L1 L2 : Nat} {s1 s2 : Bool} {l1 l2 : List Int} {e1 e2 M N : Int} (h1 : Dr B1 T1 L1 s1 l1 e1 M) (h2 : Dr B2 T2 L2 s2 l2 e2 N) (hB1 : -100000000 < B1) (hT1 : T1 < 100000000) (hB2 : -100000000 < B2) (hT2 : T2 < 100000000) (hL1 : L1 < 100000) (hL2 : L2 < 100000)
    (hk : L1 + L2 + 1 < k) : ∃ s l e, spec_Dyadic_Mul k s1 l1 e1 s2 l2 e2 = some (s, l, e) ∧ Dr (B1 + B2) (T1 + T2) (L1 + L2) s l e (M * N) := by
  obtain ⟨z1, w1, v1⟩ := h1.ex
  obtain ⟨z2, w2, v2⟩ := h2.ex
  have a1 := h1.lo; have a2 := h1.hi; have a3 := h1.len
  have b1 := h2.lo; have b2 := h2.hi; have b3 := h2.len
  obtain ⟨s, l, r1, r2, r3⟩ := mul_is (k := k) w1 w2 (by omega) (by omega) (by omega)
  have he : iadd .i64 e1 e2 = e1 + e2 := iadd_i64 (by omega) (by omega)
  refine ⟨s, l, e1 + e2, by simp [spec_Dyadic_Mul, r1, he], ⟨_, r2, ?_⟩, by omega, by omega, by omega⟩
  rw [v1, v2, show (e1 + e2 - (B1 + B2)).toNat = (e1 - B1).toNat + (e2 - B2).toNat from by omega, Int.pow_add]
  simp only [Int.mul_assoc]
  congr 1
  rw [← Int.mul_assoc, Int.mul_comm (2 ^ (e1 - B1).toNat) z2, Int.mul_assoc]
end Go.Proofs.YthobbfpoooommaaGreat
