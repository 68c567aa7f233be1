/-
  The oriented angle of whole numbers: range, measure and sign. The exact numbers of the law of the oriented angle (lines of OrientD and SquareTo). The angle between two ways, oriented: the whole law. Ours.
-/
import Derived.Test.YtmkhoplffiakmaaAngMod
import Derived.Test.YtmkhoplffiakmaaExact6
import Derived.Test.YtmkhoplffiakmaaPlaneTo
namespace Go.Proofs.Ytmkhoplffiakmaa
open Go.Sx
set_option linter.unusedVariables false
set_option linter.unusedSimpArgs false
set_option maxRecDepth 100000

theorem tau_pw : tau = 2 * pw := by decide +kernel
theorem tau_qpi : tau = 8 * qpi := by decide +kernel
theorem pw_qpi : pw = 4 * qpi := by decide +kernel
theorem measure {s r d z A1 A2 A3 v1 v2 v3 : Rat} {J k : Int} (h1 : Bd (s - r - (J : Rat) * tau) (16 * uu)) (hr : r = v2 - v1 + z) (hz : Bd z (8 * uu)) (h : Bd (A2 - A1 - A3 - (k : Rat) * tau) (8 * e48))
    (d1 : Bd (v1 - A1) (1 / 70368744177664)) (d2 : Bd (v2 - A2) (1 / 70368744177664)) (d3 : Bd (v3 - A3) (1 / 70368744177664)) : Bd (s - v3 - ((J + k : Int) : Rat) * tau) (1 / 17179869184) := by
  have hn : (8 : Rat) * e48 ≤ 3 / 100000000000000 := by decide +kernel
  have e : ((J + k : Int) : Rat) * tau = (J : Rat) * tau + (k : Rat) * tau := by rw [Rat.intCast_add]; grind
  rw [e]
  generalize (J : Rat) * tau = a at *
  generalize (k : Rat) * tau = b at *
  generalize (8 : Rat) * e48 = f at *
  obtain ⟨a1, a2⟩ := h1
  obtain ⟨a3, a4⟩ := hz
  obtain ⟨a5, a6⟩ := h
  obtain ⟨a7, a8⟩ := d1
  obtain ⟨a9, b1⟩ := d2
  obtain ⟨b2, b3⟩ := d3
  constructor <;> grind
theorem sign_place {d z : Rat} (hz : Bd z (8 * uu)) :
    ((eps ≤ d ∧ d ≤ pw - eps) ∨ (-(2 * pw) + eps ≤ d ∧ d ≤ -pw - eps) → (50 * uu ≤ d + z ∧ d + z ≤ pw - 50 * uu) ∨ (-(2 * pw) + 50 * uu ≤ d + z ∧ d + z ≤ -pw - 50 * uu)) ∧
    ((d ≤ -eps ∧ -pw + eps ≤ d) ∨ (d ≤ 2 * pw - eps ∧ pw + eps ≤ d) → (d + z ≤ -(50 * uu) ∧ -pw + 50 * uu ≤ d + z) ∨ (d + z ≤ 2 * pw - 50 * uu ∧ pw + 50 * uu ≤ d + z)) := by
  obtain ⟨h1, h2⟩ := hz
  constructor
  · rintro (⟨a, b⟩ | ⟨a, b⟩)
    · left; constructor <;> grind
    · right; constructor <;> grind
  · rintro (⟨a, b⟩ | ⟨a, b⟩)
    · left; constructor <;> grind
    · right; constructor <;> grind
theorem angv_conj {y : Nat} {X Y A : Rat} (hy : y < 2 ^ 64) (h : AngV y X Y A) : AngV (fneg y) X (-Y) (-A) := by
  obtain ⟨c, t, d, b, r, u, w, z, e, x, q, g⟩ := h
  have nb : ∀ {a B : Rat}, Bd a B → Bd (-a) B := fun h => by obtain ⟨h1, h2⟩ := h; constructor <;> grind
  refine ⟨-c, -t, dirn_conj d, nb b, ?_, by omega, fun h => ?_, fun h => ?_, ?_, -x, Q_fneg hy q, ?_⟩
  · rcases r with h | h
    · left; omega
    · exact .inr (nb h)
  · have := z (by omega); grind
  · have := w (by omega); grind
  · rw [e, rr_neg, Rat.intCast_neg]; grind
  · obtain ⟨g1, g2⟩ := g; constructor <;> grind
theorem angle_out {k v1 v2 v3 : Nat} {X1 Y1 X2 Y2 : Rat} {M m : Rat} (hk : 100 < k) (w1 : v1 < 2 ^ 64) (w2 : v2 < 2 ^ 64) (w3 : v3 < 2 ^ 64)
    (h1 : AngOf v1 X1 Y1) (h2 : AngOf v2 X2 Y2) (h3 : AngOf v3 (X1 * X2 + Y1 * Y2) (X1 * Y2 - Y1 * X2)) (hM : 1000 ≤ M) (hm : m * M = 13 / 20) (hm2 : 7 / 100000000000000 ≤ m) (hX : Bd (X1 * X2 + Y1 * Y2) M) :
    ∃ y s, num (gsub v2 v1) = some (gsub v2 v1) ∧ xy_Normalize k (gsub v2 v1) = some y ∧ Q y s ∧ y < 2 ^ 64 ∧ Bd s (pw + 8 * uu) ∧ laws_round k y v3 = some true ∧ (∃ r3, Q v3 r3) ∧
      (1 ≤ X1 * Y2 - Y1 * X2 → 0 < s) ∧ (X1 * Y2 - Y1 * X2 ≤ -1 → s < 0) := by
  obtain ⟨j, A1, A2, A3, a1, a2, a3, hs⟩ := turn_sum h1 h2 h3
  have r1 := angv_range a1
  have r2 := angv_range a2
  have r3 := angv_range a3
  have up : 1 ≤ X1 * Y2 - Y1 * X2 → m ≤ A3 ∧ A3 ≤ 4 * qpi - m := fun h => angv_pos a3 h hX hM m hm
  have dn : X1 * Y2 - Y1 * X2 ≤ -1 → A3 ≤ -m ∧ -(4 * qpi) + m ≤ A3 := by
    intro h
    have := angv_pos (angv_conj w3 a3) (by grind) hX hM m hm
    constructor <;> grind
  obtain ⟨_, _, _, _, _, _, _, _, _, x1, q1, d1⟩ := a1
  obtain ⟨_, _, _, _, _, _, _, _, _, x2, q2, d2⟩ := a2
  obtain ⟨_, _, _, _, _, _, _, _, _, x3, q3, d3⟩ := a3
  have hb : ∀ {x A : Rat}, Bd A (4 * qpi) → Bd (x - A) (1 / 70368744177664) → Bd x (3142 / 1000) := by
    intro x A hA hx
    rw [← pw_qpi] at hA
    obtain ⟨t1, t2⟩ := hA
    obtain ⟨t3, t4⟩ := hx
    constructor <;> grind
  have b1 := hb r1 d1
  have b2 := hb r2 d2
  have b3 := hb r3 d3
  have hd : Bd (x2 - x1) (6285 / 1000) := by
    obtain ⟨t1, t2⟩ := b1
    obtain ⟨t3, t4⟩ := b2
    constructor <;> grind
  obtain ⟨e, qs, se⟩ := gsub_full q2 q1 (by obtain ⟨t1, t2⟩ := hd; constructor <;> grind)
  obtain ⟨z, z1, z2, z3, z4⟩ := rel_part (show Bd (x2 - x1) 8 by obtain ⟨t1, t2⟩ := hd; constructor <;> grind) se
  rw [z1] at qs
  obtain ⟨y, s, J, n1, n2, n3, n4, n5, n6, n7⟩ := norm_is (k := k) (by omega) qs (gsub_lt _ _) (by
    obtain ⟨t1, t2⟩ := hd
    obtain ⟨t3, t4⟩ := z2
    constructor <;> grind)
  refine ⟨y, s, num_q qs, n1, n2, n3, n4, ?_, ⟨x3, q3⟩, ?_, ?_⟩
  · refine round_is (J := J + j) hk n2 q3 ?_ ?_
    · obtain ⟨t1, t2⟩ := b3
      obtain ⟨t3, t4⟩ := n4
      constructor <;> grind
    · rw [← tau_pw] at n5
      rw [← tau_qpi] at hs
      exact measure (d := 0) n5 rfl z2 hs d1 d2 d3
  · intro hc
    obtain ⟨m0, m1⟩ := up hc
    have := turn_pos hs r1 r2 m0 m1 hm2 d1 d2
    rw [show 8 * qpi = 2 * pw by rw [← tau_pw, ← tau_qpi], ← pw_qpi] at this
    exact n6 ((sign_place z2).1 this)
  · intro hc
    obtain ⟨m0, m1⟩ := dn hc
    have := turn_neg hs r1 r2 m0 m1 hm2 d1 d2
    rw [show 8 * qpi = 2 * pw by rw [← tau_pw, ← tau_qpi], ← pw_qpi] at this
    exact n7 ((sign_place z2).2 this)
end Go.Proofs.Ytmkhoplffiakmaa
namespace Go.Proofs.Ytmkhoplffiakmaa
open Go.Sx
open Ieee (signed)
set_option linter.unusedVariables false
set_option linter.unusedSimpArgs false
set_option maxRecDepth 100000

theorem exactly_is (k x y : Nat) (hx : x < 2 ^ 64) (hy : y < 2 ^ 64) (hk : 2 < k) {X Y : Int} {v : Nat} (h1 : D x X v) (h2 : D y Y v) : ∃ s l e s' l' e', laws_exactly k x y = some (s, l, e, s', l', e') ∧ Dr (-1074) 971 2 s l e (X * 2 ^ v) ∧ Dr (-1074) 971 2 s' l' e' (Y * 2 ^ v) := by
  obtain ⟨s, l, e, q1, w1⟩ := dyadicOf_is (k := k) hx h1 hk
  obtain ⟨s', l', e', q2, w2⟩ := dyadicOf_is (k := k) hy h2 hk
  refine ⟨s, l, e, s', l', e', ?_, w1, w2⟩
  unfold laws_exactly spec_PointOf
  rw [q1, sbind, q2, sbind, sbind]
theorem cross_is {k : Nat} (hk : 400 < k) {a0 b0 p0 a3 b3 p3 : Bool} {a1 a4 b1 b4 p1 p4 : List Int} {a2 a5 b2 b5 p2 p5 : Int} {A0 A1 B0 B1 P0 P1 : Int}
    (ha : Dr (-1074) 971 2 a0 a1 a2 A0) (ha' : Dr (-1074) 971 2 a3 a4 a5 A1) (hb : Dr (-1074) 971 2 b0 b1 b2 B0) (hb' : Dr (-1074) 971 2 b3 b4 b5 B1) (hp : Dr (-1074) 971 2 p0 p1 p2 P0) (hp' : Dr (-1074) 971 2 p3 p4 p5 P1) :
    spec_Orient k a0 a1 a2 a3 a4 a5 b0 b1 b2 b3 b4 b5 p0 p1 p2 p3 p4 p5 = some (sgn ((B0 - A0) * (P1 - A1) - (B1 - A1) * (P0 - A0))) := by
  obtain ⟨s1, m1, e1, q1, w1⟩ := dsub_is (k := k) hb ha (by decide) (by decide) (by decide) (by decide) (by simp; omega)
  obtain ⟨s2, m2, e2, q2, w2⟩ := dsub_is (k := k) hp' ha' (by decide) (by decide) (by decide) (by decide) (by simp; omega)
  obtain ⟨s3, m3, e3, q3, w3⟩ := dsub_is (k := k) hb' ha' (by decide) (by decide) (by decide) (by decide) (by simp; omega)
  obtain ⟨s4, m4, e4, q4, w4⟩ := dsub_is (k := k) hp ha (by decide) (by decide) (by decide) (by decide) (by simp; omega)
  obtain ⟨s5, m5, e5, q5, w5⟩ := dmul_is (k := k) w1 w2 (by decide) (by decide) (by decide) (by decide) (by decide) (by decide) (by simp; omega)
  obtain ⟨s6, m6, e6, q6, w6⟩ := dmul_is (k := k) w3 w4 (by decide) (by decide) (by decide) (by decide) (by decide) (by decide) (by simp; omega)
  obtain ⟨s7, m7, e7, q7, w7⟩ := dsub_is (k := k) w5 w6 (by decide) (by decide) (by decide) (by decide) (by simp; omega)
  have q8 := dsign_is (k := k) w7
  unfold spec_Orient spec_Cross
  simp only [q1, q2, q3, q4, q5, q6, q7, q8, sbind]
theorem dot_is {k : Nat} (hk : 1000 < k) {a0 b0 c0 d0 a3 b3 c3 d3 : Bool} {a1 a4 b1 b4 c1 c4 d1 d4 : List Int} {a2 a5 b2 b5 c2 c5 d2 d5 : Int} {A0 A1 B0 B1 C0 C1 D0 D1 : Int}
    (ha : Dr (-1074) 971 2 a0 a1 a2 A0) (ha' : Dr (-1074) 971 2 a3 a4 a5 A1) (hb : Dr (-1074) 971 2 b0 b1 b2 B0) (hb' : Dr (-1074) 971 2 b3 b4 b5 B1)
    (hc : Dr (-1074) 971 2 c0 c1 c2 C0) (hc' : Dr (-1074) 971 2 c3 c4 c5 C1) (hd : Dr (-1074) 971 2 d0 d1 d2 D0) (hd' : Dr (-1074) 971 2 d3 d4 d5 D1) :
    ∃ s l e, spec_Dot k a0 a1 a2 a3 a4 a5 b0 b1 b2 b3 b4 b5 c0 c1 c2 c3 c4 c5 d0 d1 d2 d3 d4 d5 = some (s, l, e) ∧ Dr (-2148) 1942 263 s l e ((B0 - A0) * (D0 - C0) + (B1 - A1) * (D1 - C1)) := by
  obtain ⟨s1, m1, e1, q1, w1⟩ := dsub_is (k := k) hb ha (by decide) (by decide) (by decide) (by decide) (by simp; omega)
  obtain ⟨s2, m2, e2, q2, w2⟩ := dsub_is (k := k) hd hc (by decide) (by decide) (by decide) (by decide) (by simp; omega)
  obtain ⟨s3, m3, e3, q3, w3⟩ := dsub_is (k := k) hb' ha' (by decide) (by decide) (by decide) (by decide) (by simp; omega)
  obtain ⟨s4, m4, e4, q4, w4⟩ := dsub_is (k := k) hd' hc' (by decide) (by decide) (by decide) (by decide) (by simp; omega)
  obtain ⟨s5, m5, e5, q5, w5⟩ := dmul_is (k := k) w1 w2 (by decide) (by decide) (by decide) (by decide) (by decide) (by decide) (by simp; omega)
  obtain ⟨s6, m6, e6, q6, w6⟩ := dmul_is (k := k) w3 w4 (by decide) (by decide) (by decide) (by decide) (by decide) (by decide) (by simp; omega)
  obtain ⟨s7, m7, e7, q7, w7⟩ := dadd_is (k := k) w5 w6 (by decide) (by decide) (by decide) (by decide) (by simp; omega)
  unfold spec_Dot
  simp only [q1, q2, q3, q4, q5, q6, q7, sbind]
  exact ⟨_, _, _, rfl, w7.mono (by decide) (by decide)⟩
theorem crossn_is {k : Nat} (hk : 1000 < k) {a0 b0 p0 a3 b3 p3 : Bool} {a1 a4 b1 b4 p1 p4 : List Int} {a2 a5 b2 b5 p2 p5 : Int} {A0 A1 B0 B1 P0 P1 : Int}
    (ha : Dr (-1074) 971 2 a0 a1 a2 A0) (ha' : Dr (-1074) 971 2 a3 a4 a5 A1) (hb : Dr (-1074) 971 2 b0 b1 b2 B0) (hb' : Dr (-1074) 971 2 b3 b4 b5 B1) (hp : Dr (-1074) 971 2 p0 p1 p2 P0) (hp' : Dr (-1074) 971 2 p3 p4 p5 P1) :
    ∃ s l e, spec_Cross k a0 a1 a2 a3 a4 a5 b0 b1 b2 b3 b4 b5 p0 p1 p2 p3 p4 p5 = some (s, l, e) ∧ Dr (-2148) 1942 263 s l e ((B0 - A0) * (P1 - A1) - (B1 - A1) * (P0 - A0)) := by
  obtain ⟨s1, m1, e1, q1, w1⟩ := dsub_is (k := k) hb ha (by decide) (by decide) (by decide) (by decide) (by simp; omega)
  obtain ⟨s2, m2, e2, q2, w2⟩ := dsub_is (k := k) hp' ha' (by decide) (by decide) (by decide) (by decide) (by simp; omega)
  obtain ⟨s3, m3, e3, q3, w3⟩ := dsub_is (k := k) hb' ha' (by decide) (by decide) (by decide) (by decide) (by simp; omega)
  obtain ⟨s4, m4, e4, q4, w4⟩ := dsub_is (k := k) hp ha (by decide) (by decide) (by decide) (by decide) (by simp; omega)
  obtain ⟨s5, m5, e5, q5, w5⟩ := dmul_is (k := k) w1 w2 (by decide) (by decide) (by decide) (by decide) (by decide) (by decide) (by simp; omega)
  obtain ⟨s6, m6, e6, q6, w6⟩ := dmul_is (k := k) w3 w4 (by decide) (by decide) (by decide) (by decide) (by decide) (by decide) (by simp; omega)
  obtain ⟨s7, m7, e7, q7, w7⟩ := dsub_is (k := k) w5 w6 (by decide) (by decide) (by decide) (by decide) (by simp; omega)
  unfold spec_Cross
  simp only [q1, q2, q3, q4, q5, q6, q7, sbind]
  exact ⟨_, _, _, rfl, w7.mono (by decide) (by decide)⟩
theorem float_lt {k : Nat} {s : Bool} {l : List Int} {z e N : Int} {K : Nat} (h : Wh s l z) (hl : l.length < 100000) (hk : 200 < k) (he0 : -(K : Int) ≤ e) (he1 : e < 10000000) (hK : K < 10000000) (hv : z * 2 ^ (e + K).toNat = N * 2 ^ K) (hN : N.natAbs < 2 ^ 53) :
    ∃ y, spec_Dyadic_Float k s l e = some y ∧ D y N 1074 ∧ y < 2 ^ 64 := by
  have hsgn : spec_Dyadic_Sign k s l e = some (sgn z) := by simp [spec_Dyadic_Sign, Go.Proofs.Ytmkhoplffiakmaa.sign_is h]
  have hpK : (0 : Int) < 2 ^ K := Int.pow_pos (by omega)
  have hpe : (0 : Int) < 2 ^ (e + K).toNat := Int.pow_pos (by omega)
  unfold spec_Dyadic_Float
  rw [hsgn]
  simp only [Option.bind_eq_bind, Option.bind_some]
  by_cases hz : z = 0
  · subst hz
    have hN0 : N = 0 := by
      rw [Int.zero_mul] at hv
      rcases Int.mul_eq_zero.1 hv.symm with h' | h'
      · exact h'
      · omega
    subst hN0
    exact ⟨0, by simp [sgn], D_zero 1074, by decide⟩
  · have hd0 : decide (sgn z = 0) = false := by simp [sgn_zero, hz]
    rw [hd0, br_false]
    obtain ⟨Z, hZ⟩ : ∃ Z, z.natAbs = Z := ⟨_, rfl⟩
    obtain ⟨n, hn⟩ : ∃ n, N.natAbs = n := ⟨_, rfl⟩
    obtain ⟨p, hp⟩ : ∃ p, (e + K).toNat = p := ⟨_, rfl⟩
    have hnat : Z * 2 ^ p = n * 2 ^ K := by
      have := congrArg Int.natAbs hv
      rw [Int.natAbs_mul, Int.natAbs_mul, Int.natAbs_pow, Int.natAbs_pow, hZ, hn, hp] at this
      exact this
    have hZ0 : 0 < Z := by omega
    have hn0 : 0 < n := by
      rcases Nat.eq_zero_or_pos n with h' | h'
      · rw [h', Nat.zero_mul] at hnat
        have := Nat.mul_pos hZ0 (Nat.two_pow_pos p); omega
      · exact h'
    obtain ⟨T, hT⟩ : ∃ T, Z.log2 + 1 = T := ⟨_, rfl⟩
    obtain ⟨b, hb⟩ : ∃ b, n.log2 + 1 = b := ⟨_, rfl⟩
    have hZ1 : 2 ^ (T - 1) ≤ Z := by rw [← hT]; exact Nat.log2_self_le (by omega)
    have hZ2 : Z < 2 ^ T := by rw [← hT]; exact Nat.lt_log2_self
    have hn1 : 2 ^ (b - 1) ≤ n := by rw [← hb]; exact Nat.log2_self_le (by omega)
    have hn2 : n < 2 ^ b := by rw [← hb]; exact Nat.lt_log2_self
    have hb53 : b ≤ 53 := by
      have := (Nat.log2_lt (n := n) (k := 53) (by omega)).2 (by omega)
      omega
    have hTp : T + p = b + K := by
      have a1 : 2 ^ (T - 1 + p) ≤ n * 2 ^ K := by rw [← hnat, Nat.pow_add]; exact Nat.mul_le_mul_right _ hZ1
      have a2 : n * 2 ^ K < 2 ^ (b + K) := by rw [Nat.pow_add]; exact Nat.mul_lt_mul_of_pos_right hn2 (Nat.two_pow_pos _)
      have a3 : 2 ^ (b - 1 + K) ≤ Z * 2 ^ p := by rw [hnat, Nat.pow_add]; exact Nat.mul_le_mul_right _ hn1
      have a4 : Z * 2 ^ p < 2 ^ (T + p) := by rw [Nat.pow_add]; exact Nat.mul_lt_mul_of_pos_right hZ2 (Nat.two_pow_pos _)
      have b1 := (Nat.pow_lt_pow_iff_right (a := 2) (by omega)).1 (Nat.lt_of_le_of_lt a1 a2)
      have b2 := (Nat.pow_lt_pow_iff_right (a := 2) (by omega)).1 (Nat.lt_of_le_of_lt a3 a4)
      omega
    have hTl : T ≤ 32 * l.length := by
      have h5 := lv_lt h.lb.lim
      rw [h.lb.val, hZ, show (4294967296 : Int) ^ l.length = ((2 ^ (32 * l.length) : Nat) : Int) from by
        rw [Nat.pow_mul, show (2 : Nat) ^ 32 = 4294967296 from rfl]; exact powcast 4294967296 _] at h5
      have h6 : Z < 2 ^ (32 * l.length) := by omega
      have := (Nat.log2_lt (n := Z) (by omega)).2 h6
      omega
    have heq : e = (b : Int) - T := by omega
    have htop := top_is (k := k) h hz (by omega) (by omega)
    rw [hZ, hT] at htop
    have hkeep : imin 53 (iadd .i64 (iadd .i64 (T : Int) e) 1074) = 53 := by
      rw [iadd_i64 (a := (T : Int)) (by omega) (by omega), iadd_i64 (by omega) (by omega)]
      unfold imin; rw [if_neg (by omega)]
    have hloop := float_loop (e := e) (T := T) h hz (by omega) (by rw [hZ, hT]) (by omega) (by omega) (by omega) (by omega) 53 k 0 (by omega) (by omega) (by omega)
    rw [hZ, Nat.pow_zero, Nat.mul_one, Nat.div_eq_of_lt hZ2] at hloop
    -- what the bits make
    have hm : Z * 2 ^ 53 / 2 ^ T = n * 2 ^ (53 - b) := by
      have e1 : Z * 2 ^ 53 * 2 ^ p = n * 2 ^ (53 - b) * (2 ^ T * 2 ^ p) := by
        rw [Nat.mul_assoc, Nat.mul_comm (2 ^ 53), ← Nat.mul_assoc, hnat, ← Nat.pow_add 2 T p, hTp]
        simp only [Nat.mul_assoc, ← Nat.pow_add]
        congr 2; omega
      have e2 := Nat.mul_div_mul_right (Z * 2 ^ 53) (2 ^ T) (Nat.two_pow_pos p)
      rw [← e2, e1, Nat.mul_div_cancel _ (Nat.mul_pos (Nat.two_pow_pos _) (Nat.two_pow_pos _))]
    obtain ⟨m, hmm⟩ : ∃ m, n * 2 ^ (53 - b) = m := ⟨_, rfl⟩
    have hm0 : 2 ^ 52 ≤ m := by
      rw [← hmm]
      have := Nat.mul_le_mul_right (2 ^ (53 - b)) hn1
      rw [← Nat.pow_add, show b - 1 + (53 - b) = 52 from by omega] at this
      exact this
    have hm1 : m < 2 ^ 53 := by
      rw [← hmm]
      have := Nat.mul_lt_mul_of_pos_right hn2 (Nat.two_pow_pos (53 - b))
      rw [← Nat.pow_add, show b + (53 - b) = 53 from by omega] at this
      exact this
    rw [hm, hmm] at hloop
    have hcut : isub .i64 (T : Int) 53 = (T : Int) - 53 := isub_i64 (by omega) (by omega)
    have hadd : iadd .i64 e ((T : Int) - 53) = (b : Int) - 53 := by rw [iadd_i64 (by omega) (by omega)]; omega
    have hDm : D (i2f (m : Int)) (m : Int) 1074 := D_i2f (by omega)
    obtain ⟨y, y1, y2, hylt⟩ := ldexp_is (k := k) (i2f_lt _) hm0 hm1 hDm (by omega) hb53 hmm
    have hj5 : ∃ y', spec_Dyadic_Float_j6 k e (T : Int) (T : Int) s (m : Int) = some y' ∧ D y' N 1074 ∧ y' < 2 ^ 64 := by
      unfold spec_Dyadic_Float_j6
      rw [hkeep, hcut, hadd, y1]
      simp only [Option.bind_eq_bind, Option.bind_some]
      have hNz : N < 0 ↔ z < 0 := by
        constructor
        · intro hlt
          rcases Int.lt_or_le z 0 with h' | h'
          · exact h'
          · have := Int.mul_nonneg h' (Int.le_of_lt hpe)
            have := Int.mul_neg_of_neg_of_pos hlt hpK
            omega
        · intro hlt
          rcases Int.lt_or_le N 0 with h' | h'
          · exact h'
          · have := Int.mul_nonneg h' (Int.le_of_lt hpK)
            have := Int.mul_neg_of_neg_of_pos hlt hpe
            omega
      rw [h.sg]
      by_cases hzn : z < 0
      · refine ⟨fneg y, by simp [hzn], ?_⟩
        have := D_fneg hylt y2
        rw [show -(n : Int) = N from by have := hNz.2 hzn; omega] at this
        exact ⟨this, fneg_lt3 hylt⟩
      · refine ⟨y, by simp [hzn], ?_⟩
        rw [show (n : Int) = N from by have := _root_.mt hNz.1 hzn; omega] at y2
        exact ⟨y2, hylt⟩
    obtain ⟨y', q1, q2⟩ := hj5
    refine ⟨y', ?_, q2⟩
    have hl0 : spec_Dyadic_Float_l1 (T : Int) e s l k (0, 0) = some (m : Int) := hloop
    simp only [htop, Option.bind_some, hl0, hkeep, hcut]
    have hend : spec_Dyadic_Float_j3 k (m : Int) e (T : Int) (T : Int) s l false = some y' := by
      simp only [spec_Dyadic_Float_j3, spec_Dyadic_Float_j5, br_false, q1]
    by_cases hc : 0 < (T : Int) - 53
    · have hdc : decide (0 < (T : Int) - 53) = true := by simp only [decide_eq_true_eq]; exact hc
      have hs1 : isub .i64 ((T : Int) - 53) 1 = ((T - 54 : Nat) : Int) := by rw [isub_i64 (by omega) (by omega)]; omega
      have hbit := bit_is (k := k) (n := ((T - 54 : Nat) : Int)) h (by omega) (by omega) (by omega)
      have hfalse : bitZ z.natAbs ((T - 54 : Nat) : Int) = false := by
        unfold bitZ
        rw [hZ]
        have hZn : Z = n * 2 ^ (T - b) := by
          have : n * 2 ^ K = n * 2 ^ (T - b) * 2 ^ p := by rw [Nat.mul_assoc, ← Nat.pow_add]; congr 2; omega
          rw [this] at hnat
          exact Nat.eq_of_mul_eq_mul_right (Nat.two_pow_pos p) hnat
        have hdiv : Z / 2 ^ (T - 54) % 2 = 0 := by
          have : Z = 2 ^ (T - 54) * (2 * (n * 2 ^ (53 - b))) := by
            rw [hZn, show T - b = (T - 54) + (1 + (53 - b)) from by omega, Nat.pow_add, Nat.pow_add, Nat.pow_one]
            simp only [Nat.mul_assoc, Nat.mul_comm, Nat.mul_left_comm]
          rw [this, Nat.mul_div_cancel_left _ (Nat.two_pow_pos _)]
          omega
        simp [Nat.testBit_eq_decide_div_mod_eq, hdiv]
      rw [hdc, br_true, hs1, hbit, hfalse]
      exact hend
    · have hdc : decide (0 < (T : Int) - 53) = false := by simp only [decide_eq_false_iff_not]; exact hc
      rw [hdc, br_false]; exact hend
theorem dr_word {k : Nat} {s : Bool} {l : List Int} {e N : Int} (hk : 200 < k) (h : Dr (-2148) 1942 263 s l e (N * 2 ^ 2148)) (hN : N.natAbs < 2 ^ 53) : ∃ y, spec_Dyadic_Float k s l e = some y ∧ D y N 1074 ∧ y < 2 ^ 64 := by
  obtain ⟨⟨z, h1, h2⟩, h3, h4, h5⟩ := h
  exact float_lt (K := 2148) h1 (by omega) hk (by omega) (by omega) (by omega) (by rw [h2, show e - -2148 = e + (2148 : Nat) by omega]) hN
theorem p1074 : (2 : Int) ^ 1074 * 2 ^ 1074 = 2 ^ 2148 := by rw [← Int.pow_add]
theorem turned_is {k a0 a1 b0 b1 c0 c1 : Nat} {A0 A1 B0 B1 C0 C1 : Int} (hk : 1000 < k) (ha0 : a0 < 2 ^ 64) (ha1 : a1 < 2 ^ 64) (hb0 : b0 < 2 ^ 64) (hb1 : b1 < 2 ^ 64) (hc0 : c0 < 2 ^ 64) (hc1 : c1 < 2 ^ 64)
    (dA0 : D a0 A0 1074) (dA1 : D a1 A1 1074) (dB0 : D b0 B0 1074) (dB1 : D b1 B1 1074) (dC0 : D c0 C0 1074) (dC1 : D c1 C1 1074)
    {cr dt : Int} (hcr : cr = (A0 - B0) * (C1 - B1) - (A1 - B1) * (C0 - B0)) (hdt : dt = (A0 - B0) * (C0 - B0) + (A1 - B1) * (C1 - B1)) (bc : cr.natAbs ≤ 17592186044416) (bd : dt.natAbs ≤ 17592186044416) (hne : ¬ (dt = 0 ∧ cr = 0)) :
    ∃ y, laws_turned k a0 a1 b0 b1 c0 c1 = some y ∧ y < 2 ^ 64 ∧ AngOf y (dt : Rat) (cr : Rat) := by
  obtain ⟨s1, l1, e1, s1', l1', e1', q1, w1, w1'⟩ := exactly_is k a0 a1 ha0 ha1 (by omega) dA0 dA1
  obtain ⟨s2, l2, e2, s2', l2', e2', q2, w2, w2'⟩ := exactly_is k b0 b1 hb0 hb1 (by omega) dB0 dB1
  obtain ⟨s3, l3, e3, s3', l3', e3', q3, w3, w3'⟩ := exactly_is k c0 c1 hc0 hc1 (by omega) dC0 dC1
  obtain ⟨s4, l4, e4, q4, w4⟩ := crossn_is hk w2 w2' w1 w1' w3 w3'
  obtain ⟨s5, l5, e5, q5, w5⟩ := dot_is hk w2 w2' w1 w1' w2 w2' w3 w3'
  have p1 : (A0 * 2 ^ 1074 - B0 * 2 ^ 1074) * (C1 * 2 ^ 1074 - B1 * 2 ^ 1074) - (A1 * 2 ^ 1074 - B1 * 2 ^ 1074) * (C0 * 2 ^ 1074 - B0 * 2 ^ 1074) = cr * 2 ^ 2148 := by
    rw [hcr, ← p1074]; generalize (2 : Int) ^ 1074 = p; grind
  have p2 : (A0 * 2 ^ 1074 - B0 * 2 ^ 1074) * (C0 * 2 ^ 1074 - B0 * 2 ^ 1074) + (A1 * 2 ^ 1074 - B1 * 2 ^ 1074) * (C1 * 2 ^ 1074 - B1 * 2 ^ 1074) = dt * 2 ^ 2148 := by
    rw [hdt, ← p1074]; generalize (2 : Int) ^ 1074 = p; grind
  rw [p1] at w4
  rw [p2] at w5
  obtain ⟨x, x1, x2, x3⟩ := dr_word (k := k) (by omega) w4 (Nat.lt_of_le_of_lt bc (by decide))
  obtain ⟨z, z1, z2, z3⟩ := dr_word (k := k) (by omega) w5 (Nat.lt_of_le_of_lt bd (by decide))
  obtain ⟨y, y1, y2, y3⟩ := atan2_is k (wy := x) (wx := z) x3 z3 x2 z2 bc bd hne
  refine ⟨y, ?_, y2, y3⟩
  unfold laws_turned
  rw [q1, sbind, q2, sbind, q3, sbind, q4, sbind, x1, sbind, q5, sbind, z1, sbind, num_q (Q_whole x2), sbind, num_q (Q_whole z2), sbind, y1, sbind]
end Go.Proofs.Ytmkhoplffiakmaa
namespace Go.Proofs.Ytmkhoplffiakmaa
open Go.Sx
open Ieee (signed)
set_option linter.unusedVariables false
set_option linter.unusedSimpArgs false
set_option maxRecDepth 100000

theorem sgn_scale {z p : Int} (hp : 0 < p) : sgn (z * p) = sgn z := by
  unfold sgn
  by_cases h : z < 0
  · rw [if_pos h, if_pos (Int.mul_neg_of_neg_of_pos h hp)]
  · rw [if_neg h, if_neg (by have := Int.mul_nonneg (show 0 ≤ z by omega) (show 0 ≤ p by omega); omega)]
    by_cases h0 : z = 0
    · subst h0; simp
    · rw [if_neg h0, if_neg (by intro h'; rcases Int.mul_eq_zero.1 h' with h | h <;> omega)]
theorem Q_top : Q 4614256656554143000 (((2 ^ 52 + 2570638126755096 : Nat) : Rat) / 2 ^ 51) := Q_word3 51 1024 2570638126755096 (by decide) (by decide) (by decide) (by decide)
theorem top_ge : pw + 8 * uu ≤ (((2 ^ 52 + 2570638126755096 : Nat) : Rat) / 2 ^ 51) := by decide +kernel
theorem pr_le {a b : Int} {m n : Nat} (ha : a.natAbs ≤ m) (hb : b.natAbs ≤ n) : (a * b).natAbs ≤ m * n := by
  rw [Int.natAbs_mul]; exact Nat.mul_le_mul ha hb
theorem sub_le {a b : Int} (ha : a.natAbs ≤ 1048576) (hb : b.natAbs ≤ 1048576) : (a - b).natAbs ≤ 2097152 := by omega
theorem add_le4 {a b : Int} (ha : a.natAbs ≤ 4398046511104) (hb : b.natAbs ≤ 4398046511104) : (a + b).natAbs ≤ 8796093022208 ∧ (a - b).natAbs ≤ 8796093022208 := by omega
theorem not_both {x y u v : Int} (h1 : ¬ (x = 0 ∧ y = 0)) (h2 : ¬ (u = 0 ∧ v = 0)) : ¬ (x * u + y * v = 0 ∧ x * v - y * u = 0) := by
  rintro ⟨d, c⟩
  have sq : ∀ {a b : Int}, ¬ (a = 0 ∧ b = 0) → 0 < a * a + b * b := by
    intro a b h
    have e1 : 0 ≤ a * a := by rw [← Int.natAbs_mul_self]; exact Int.natCast_nonneg _
    have e2 : 0 ≤ b * b := by rw [← Int.natAbs_mul_self]; exact Int.natCast_nonneg _
    by_cases ha : a = 0
    · have hb : b ≠ 0 := fun hb => h ⟨ha, hb⟩
      have : b * b ≠ 0 := fun h => hb (by rcases Int.mul_eq_zero.1 h with h | h <;> exact h)
      omega
    · have : a * a ≠ 0 := fun h => ha (by rcases Int.mul_eq_zero.1 h with h | h <;> exact h)
      omega
  have key : (x * x + y * y) * (u * u + v * v) = (x * u + y * v) * (x * u + y * v) + (x * v - y * u) * (x * v - y * u) := by grind
  have := Int.mul_pos (sq h1) (sq h2)
  rw [key, d, c] at this
  exact absurd this (by decide)
theorem way_is (k : Nat) {a0 a1 b0 b1 : Nat} {A0 A1 B0 B1 : Int} (dA0 : D a0 A0 1074) (dA1 : D a1 A1 1074) (dB0 : D b0 B0 1074) (dB1 : D b1 B1 1074)
    (h0 : (A0 - B0).natAbs ≤ 2097152) (h1 : (A1 - B1).natAbs ≤ 2097152) (hne : ¬ (A0 - B0 = 0 ∧ A1 - B1 = 0)) :
    ∃ y, xy_Angle k [b0, b1] [a0, a1] = some y ∧ y < 2 ^ 64 ∧ AngOf y ((A0 - B0 : Int) : Rat) ((A1 - B1 : Int) : Rat) := by
  obtain ⟨z0, e0, d0⟩ := D_sub dA0 dB0 rfl (by omega) (by decide)
  obtain ⟨z1, e1, d1⟩ := D_sub dA1 dB1 rfl (by omega) (by decide)
  have l0 : z0 < 2 ^ 64 := by rw [fsub_g e0]; exact gsub_lt _ _
  have l1 : z1 < 2 ^ 64 := by rw [fsub_g e1]; exact gsub_lt _ _
  obtain ⟨y, y1, y2, y3⟩ := atan2_is k l1 l0 d1 d0 (by omega) (by omega) hne
  refine ⟨y, ?_, y2, y3⟩
  unfold xy_Angle
  have i0 : ∀ p q : Nat, idx [p, q] 0 = some p := fun _ _ => rfl
  have i1 : ∀ p q : Nat, idx [p, q] 1 = some q := fun _ _ => rfl
  rw [i0, sbind, i0, sbind, e0, sbind, i1, sbind, i1, sbind, e1, sbind, y1, sbind]
theorem abo_main {k a0 a1 b0 b1 c0 c1 : Nat} (hk : 1000 < k) (ha0 : a0 < 2 ^ 64) (ha1 : a1 < 2 ^ 64) (hb0 : b0 < 2 ^ 64) (hb1 : b1 < 2 ^ 64) (hc0 : c0 < 2 ^ 64) (hc1 : c1 < 2 ^ 64) :
    laws_FnAngleBetweenOriented k a0 a1 b0 b1 c0 c1 = some true := by
  have hw : D 4697254411347427328 ((1048576 : Nat) : Int) 1074 := D_two 20 (by omega)
  obtain ⟨t, w1, w2⟩ := planeTo_is (k := k) 4697254411347427328 1048576 hw (by decide) [(a0, a1), (b0, b1), (c0, c1)] (fun x hx => by
    simp only [List.mem_cons, List.not_mem_nil, or_false] at hx
    rcases hx with rfl | rfl | rfl <;> exact ⟨by assumption, by assumption⟩) (by simp; omega) (by simp)
  unfold laws_FnAngleBetweenOriented
  rw [w1, sbind]
  cases t with
  | false => rfl
  | true =>
  obtain ⟨A0, A1, dA0, lA0, dA1, lA1⟩ := w2 rfl (a0, a1) (by simp)
  obtain ⟨B0, B1, dB0, lB0, dB1, lB1⟩ := w2 rfl (b0, b1) (by simp)
  obtain ⟨C0, C1, dC0, lC0, dC1, lC1⟩ := w2 rfl (c0, c1) (by simp)
  dsimp only at dA0 lA0 dA1 lA1 dB0 lB0 dB1 lB1 dC0 lC0 dC1 lC1
  rw [Bool.not_true, br_false, D_eq dA0 dB0, D_eq dA1 dB1]
  unfold laws_FnAngleBetweenOriented_j1
  rw [D_eq dC0 dB0, D_eq dC1 dB1]
  by_cases e1 : A0 = B0 ∧ A1 = B1
  · rw [decide_eq_true e1.1, decide_eq_true e1.2]; rfl
  have f1 : (decide (A0 = B0) && (decide (A1 = B1) && true)) = false := by
    rw [Bool.and_true, Bool.and_eq_false_iff]
    by_cases h : A0 = B0
    · exact .inr (decide_eq_false fun h' => e1 ⟨h, h'⟩)
    · exact .inl (decide_eq_false h)
  rw [f1, br_false]
  by_cases e2 : C0 = B0 ∧ C1 = B1
  · rw [decide_eq_true e2.1, decide_eq_true e2.2]; rfl
  have f2 : (decide (C0 = B0) && (decide (C1 = B1) && true)) = false := by
    rw [Bool.and_true, Bool.and_eq_false_iff]
    by_cases h : C0 = B0
    · exact .inr (decide_eq_false fun h' => e2 ⟨h, h'⟩)
    · exact .inl (decide_eq_false h)
  rw [f2]
  unfold laws_FnAngleBetweenOriented_j2
  rw [br_false]
  have hx1 := sub_le lA0 lB0
  have hy1 := sub_le lA1 lB1
  have hx2 := sub_le lC0 lB0
  have hy2 := sub_le lC1 lB1
  have n1 : ¬ (A0 - B0 = 0 ∧ A1 - B1 = 0) := fun h => e1 ⟨by have := h.1; omega, by have := h.2; omega⟩
  have n2 : ¬ (C0 - B0 = 0 ∧ C1 - B1 = 0) := fun h => e2 ⟨by have := h.1; omega, by have := h.2; omega⟩
  have n3 := not_both n1 n2
  have bd := (add_le4 (pr_le hx1 hx2) (pr_le hy1 hy2)).1
  have bc := (add_le4 (pr_le hx1 hy2) (pr_le hy1 hx2)).2
  obtain ⟨v1, p1, q1, g1⟩ := way_is k dA0 dA1 dB0 dB1 hx1 hy1 n1
  obtain ⟨v2, p2, q2, g2⟩ := way_is k dC0 dC1 dB0 dB1 hx2 hy2 n2
  obtain ⟨v3, p3, q3, g3⟩ := turned_is (k := k) hk ha0 ha1 hb0 hb1 hc0 hc1 dA0 dA1 dB0 dB1 dC0 dC1 rfl rfl (Nat.le_trans bc (by decide)) (Nat.le_trans bd (by decide)) n3
  have ed : (((A0 - B0) * (C0 - B0) + (A1 - B1) * (C1 - B1) : Int) : Rat) = ((A0 - B0 : Int) : Rat) * ((C0 - B0 : Int) : Rat) + ((A1 - B1 : Int) : Rat) * ((C1 - B1 : Int) : Rat) := by
    rw [Rat.intCast_add, Rat.intCast_mul, Rat.intCast_mul]
  have ec : (((A0 - B0) * (C1 - B1) - (A1 - B1) * (C0 - B0) : Int) : Rat) = ((A0 - B0 : Int) : Rat) * ((C1 - B1 : Int) : Rat) - ((A1 - B1 : Int) : Rat) * ((C0 - B0 : Int) : Rat) := by
    rw [Rat.intCast_sub, Rat.intCast_mul, Rat.intCast_mul]
  have hX : Bd (((A0 - B0) * (C0 - B0) + (A1 - B1) * (C1 - B1) : Int) : Rat) 8796093022208 := by
    have h1 : -(8796093022208 : Int) ≤ (A0 - B0) * (C0 - B0) + (A1 - B1) * (C1 - B1) := by omega
    have h2 : (A0 - B0) * (C0 - B0) + (A1 - B1) * (C1 - B1) ≤ (8796093022208 : Int) := by omega
    have h1' := Rat.intCast_le_intCast.2 h1
    have h2' := Rat.intCast_le_intCast.2 h2
    exact ⟨by rw [show -(8796093022208 : Rat) = ((-8796093022208 : Int) : Rat) by decide +kernel]; exact h1', by rw [show (8796093022208 : Rat) = ((8796093022208 : Int) : Rat) by decide +kernel]; exact h2'⟩
  have g3' := g3
  rw [ed, ec] at g3'
  rw [ed] at hX
  obtain ⟨y, s, o1, o2, o3, o4, o5, o6, ⟨r3, o7⟩, o8, o9⟩ := angle_out (k := k) (M := 8796093022208) (m := 13 / 20 / 8796093022208) (by omega) q1 q2 q3 g1 g2 g3' (by decide +kernel) (by decide +kernel) (by decide +kernel) hX
  rw [← ec] at o8 o9
  have hi : impl_AngleBetweenOriented k a0 a1 b0 b1 c0 c1 = some y := by
    unfold impl_AngleBetweenOriented impl_coord xy_AngleBetweenOriented
    rw [sbind, sbind, sbind, p1, sbind, p2, sbind, sbind, o1, sbind, o2, sbind, sbind]
  obtain ⟨s1, l1, x1, s1', l1', x1', t1, w3, w3'⟩ := exactly_is k b0 b1 hb0 hb1 (by omega) dB0 dB1
  obtain ⟨s2, l2, x2, s2', l2', x2', t2, w4, w4'⟩ := exactly_is k a0 a1 ha0 ha1 (by omega) dA0 dA1
  obtain ⟨s3, l3, x3, s3', l3', x3', t3, w5, w5'⟩ := exactly_is k c0 c1 hc0 hc1 (by omega) dC0 dC1
  have ho := cross_is (k := k) (by omega) w3 w3' w4 w4' w5 w5'
  have hp : (0 : Int) < 2 ^ 1074 := Int.pow_pos (by decide)
  have hsg : sgn ((A0 * 2 ^ 1074 - B0 * 2 ^ 1074) * (C1 * 2 ^ 1074 - B1 * 2 ^ 1074) - (A1 * 2 ^ 1074 - B1 * 2 ^ 1074) * (C0 * 2 ^ 1074 - B0 * 2 ^ 1074)) = sgn ((A0 - B0) * (C1 - B1) - (A1 - B1) * (C0 - B0)) := by
    generalize (2 : Int) ^ 1074 = P at hp
    have e : (A0 * P - B0 * P) * (C1 * P - B1 * P) - (A1 * P - B1 * P) * (C0 * P - B0 * P) = ((A0 - B0) * (C1 - B1) - (A1 - B1) * (C0 - B0)) * (P * P) := by grind
    rw [e, sgn_scale (Int.mul_pos hp hp)]
  rw [hsg] at ho
  obtain ⟨B, qB, B0', hB⟩ := Q_abs o4 o3
  have hle : fle (y % 2 ^ 63) 4614256656554143000 = true := by
    rw [fle_q qB Q_top]
    apply decide_eq_true
    obtain ⟨z1, z2⟩ := o5
    have := top_ge
    rcases hB with e | e <;> grind
  rw [hi, sbind, t1, sbind, t2, sbind, t3, sbind, ho, sbind, num_q o3, sbind, abs_is k y o4, sbind, hle, br_true, p3, sbind, sbind, num_q o7, sbind, o6, sbind]
  unfold laws_FnAngleBetweenOriented_j3
  rw [br_true, fgt_q o3 Q_nought]
  generalize (A0 - B0) * (C1 - B1) - (A1 - B1) * (C0 - B0) = cr at *
  have c1 : ∀ {n : Int}, 1 ≤ n → (1 : Rat) ≤ (n : Rat) := fun h => Rat.intCast_le_intCast.2 h
  have c2 : ∀ {n : Int}, n ≤ -1 → (n : Rat) ≤ -1 := fun h => Rat.intCast_le_intCast.2 h
  rcases Int.lt_trichotomy cr 0 with h | h | h
  · have hs := o9 (c2 (by omega))
    rw [show sgn cr = -1 by unfold sgn; rw [if_pos h], decide_eq_false (by decide), br_false, decide_eq_false (by grind)]
    rfl
  · rw [show sgn cr = 0 by unfold sgn; rw [if_neg (by omega), if_pos h], decide_eq_true rfl, br_true]
    rfl
  · have hs := o8 (c1 (by omega))
    rw [show sgn cr = 1 by unfold sgn; rw [if_neg (by omega), if_neg (by omega)], decide_eq_false (by decide), br_false, decide_eq_true hs]
    rfl
theorem fact_FnAngleBetweenOriented (a0_0 a0_1 a1_0 a1_1 a2_0 a2_1 : Nat) (g0 : a0_0 < 18446744073709551616 ∧ a0_1 < 18446744073709551616) (g1 : a1_0 < 18446744073709551616 ∧ a1_1 < 18446744073709551616) (g2 : a2_0 < 18446744073709551616 ∧ a2_1 < 18446744073709551616) :
    laws_FnAngleBetweenOriented 2000 a0_0 a0_1 a1_0 a1_1 a2_0 a2_1 = some true := abo_main (by decide) g0.1 g0.2 g1.1 g1.2 g2.1 g2.2
end Go.Proofs.Ytmkhoplffiakmaa
