/-
  Triangles' areas and middles: sorted sides, the comparison of squares, the mean of three. Ours; it knows no program.
-/
import Derived.Test.YtnhbmhdjkibjaaaHeron
import Derived.Test.YtnhbmhdjkibjaaaSxT
namespace Go.Sx
open Ieee (signed)
set_option linter.unusedVariables false
set_option linter.unusedSimpArgs false
set_option maxRecDepth 100000

/-! #### words and numbers in order -/
theorem q_ilt {m n : Int} {a b : Rat} (h2 : (m : Rat) = a * Un) (h4 : (n : Rat) = b * Un) : (m < n) ↔ a < b := by
  have hU := Un_pos
  have k1 : (m < n) ↔ ((m : Rat) < (n : Rat)) := Rat.intCast_lt_intCast.symm
  rw [k1, h2, h4]
  constructor
  · intro h
    by_cases h5 : a < b
    · exact h5
    · exfalso
      have := Rat.mul_nonneg (show 0 ≤ a - b by grind) (Rat.le_of_lt hU)
      grind
  · intro h
    have := Rat.mul_pos (show 0 < b - a by grind) hU
    grind
theorem q_flt {x y : Nat} {a b : Rat} (hx : Q x a) (hy : Q y b) : flt x y = decide (a < b) := by
  obtain ⟨m, h1, h2⟩ := hx
  obtain ⟨n, h3, h4⟩ := hy
  rw [D_lt h1 h3]
  exact decide_eq_decide.2 (q_ilt h2 h4)
theorem q_fle {x y : Nat} {a b : Rat} (hx : Q x a) (hy : Q y b) : fle x y = decide (a ≤ b) := by
  obtain ⟨m, h1, h2⟩ := hx
  obtain ⟨n, h3, h4⟩ := hy
  rw [D_le h1 h3]
  apply decide_eq_decide.2
  have := q_ilt h4 h2
  constructor
  · intro h
    have : ¬ b < a := fun h' => by have := this.2 h'; omega
    grind
  · intro h
    have : ¬ n < m := fun h' => by have := this.1 h'; grind
    omega
theorem q_num {x : Nat} {a : Rat} (hx : Q x a) : num x = some x := by
  obtain ⟨n, h, _⟩ := hx
  have : isn x = false := D_num h
  unfold num; rw [this]; rfl
theorem q_nought : Q 0 0 := by
  have : D 0 ((0 : Int)) 1074 := D_zero 1074
  have := Q_whole this
  simpa using this
theorem abs_word (x : Nat) (hx : x < 2 ^ 64) : ffrom (iandn .u64 (fbits x) 9223372036854775808) = x % 2 ^ 63 := by
  have h1 := bv_nat64 x hx
  have e : iandn .u64 (x : Int) 9223372036854775808 = ((x % 2 ^ 63 : Nat) : Int) := by
    unfold iandn
    have e3 : (BitVec.ofInt IntKind.u64.bits (x : Int) &&& ~~~ BitVec.ofInt IntKind.u64.bits 9223372036854775808).toNat = x % 2 ^ 63 := by
      show (BitVec.ofInt 64 (x : Int) &&& ~~~ BitVec.ofInt 64 9223372036854775808).toNat = _
      rw [BitVec.toNat_and, h1, show (~~~ BitVec.ofInt 64 9223372036854775808).toNat = 2 ^ 63 - 1 from by decide, Nat.and_two_pow_sub_one_eq_mod]
    rw [e3]; exact wrap_u64_id (by omega) (by omega)
  unfold ffrom
  rw [show fbits x = (x : Int) from rfl, e, Int.toNat_natCast]
theorem Q_1072 {w : Nat} {F : Int} (h : D w F 1072) : Q w ((F : Rat) / 4) := by
  have h1 := Q_of h
  have hU := Un_pos
  have e : (2 : Rat) ^ 1072 * 4 = Un := by
    have : (4 : Rat) = 2 ^ 2 := by decide +kernel
    rw [this, ← ratpow_add]; rfl
  have e2 : (F : Rat) * 2 ^ 1072 / Un = (F : Rat) / 4 := by
    generalize (2 : Rat) ^ 1072 = z at *
    rw [← e] at hU ⊢
    grind
  rw [e2] at h1; exact h1
/-- a quarter -/
theorem quarter_u (e1074 e1072 e1000 e5074 e4000 e5128 : Nat) (h1 : e1074 = 1074) (h2 : e1074 = e1072 + 2) (h3 : e1000 = 1000) (h4 : e5074 = 5074) (h5 : e4000 = 4000) (h6 : e5128 = 5128) {x : Nat} {s : Int} (h : D x s e1074) (d4 : D 4616189618054758400 ((4 : Nat) : Int) e1074) (hs : s.natAbs ≤ 2 ^ 53) : D (gdiv x 4616189618054758400) s e1072 := by
  have h1000 : 4 < 2 ^ e1000 := Nat.lt_of_lt_of_le (show 4 < 2 ^ 3 by decide) (pow_le2 3 e1000 (by rw [h3]; decide))
  obtain ⟨N, n1, n2, up, dn⟩ := gdiv_near_u e1074 e1000 e5074 e4000 e5128 h1 h3 h4 h5 h6 h d4 hs (by decide) h1000
  have e : s.natAbs * 2 ^ e1074 = s.natAbs * 2 ^ e1072 * 4 := by
    rw [h2, Nat.pow_add, ← Nat.mul_assoc]
  have k1 := up s.natAbs e1072 hs (Nat.le_of_eq e)
  have k2 := dn s.natAbs e1072 hs (Nat.le_of_eq e.symm)
  have hN : N = s.natAbs * 2 ^ e1072 := Nat.le_antisymm k1 k2
  clear e k1 k2 up dn h1000
  have hc := cast_up N s.natAbs e1072 hN
  by_cases hn : s < 0
  · obtain ⟨sg, m, q, r1, r2⟩ := n1 hn
    refine ⟨sg, m, q, r1, ?_⟩
    have e1 : s = -(s.natAbs : Int) := by omega
    rw [r2, Int.neg_mul, hc, ← Int.neg_mul, ← e1]
  · obtain ⟨sg, m, q, r1, r2⟩ := n2 (by omega)
    refine ⟨sg, m, q, r1, ?_⟩
    have e1 : (s.natAbs : Int) = s := by omega
    rw [r2, hc, e1]
theorem quarter_is {x : Nat} {s : Int} (h : D x s 1074) (hs : s.natAbs ≤ 2 ^ 53) : D (gdiv x 4616189618054758400) s 1072 :=
  quarter_u 1074 1072 1000 5074 4000 5128 rfl rfl rfl rfl rfl rfl h (D_two 2 (by decide)) hs

/-! #### sorted sides -/
def sort2 (l1 l2 : Nat) : Nat × Nat := if flt l2 l1 = true then (l2, l1) else (l1, l2)
def sort3b (x1 x2 l3 : Nat) : Nat × Nat × Nat := if flt l3 x2 = true then (if flt l3 x1 = true then (l3, x1, x2) else (x1, l3, x2)) else (x1, x2, l3)
def sort3 (l1 l2 l3 : Nat) : Nat × Nat × Nat := sort3b (sort2 l1 l2).1 (sort2 l1 l2).2 l3
structure Side (C : Rat) (w : Nat) (r x : Rat) : Prop where
  q : Q w r
  p : 0 < r
  s : ∃ e, r * r = x * (1 + e) ∧ Sm e (32 * uu)
  lo : 1 ≤ x
  hi : x ≤ C
theorem sort2_is {C : Rat} {w1 w2 : Nat} {r1 r2 x1 x2 : Rat} (h1 : Side C w1 r1 x1) (h2 : Side C w2 r2 x2) : ∃ a b x y, Side C (sort2 w1 w2).1 a x ∧ Side C (sort2 w1 w2).2 b y ∧ a ≤ b ∧ ∀ z, HK x y z = HK x1 x2 z := by
  unfold sort2
  rw [q_flt h2.q h1.q]
  by_cases h : r2 < r1
  · rw [decide_eq_true h, if_pos rfl]
    exact ⟨r2, r1, x2, x1, h2, h1, by grind, fun z => by unfold HK; grind⟩
  · rw [decide_eq_false h, if_neg (by decide)]
    exact ⟨r1, r2, x1, x2, h1, h2, by grind, fun z => rfl⟩
theorem sort3_is {C : Rat} {w1 w2 w3 : Nat} {r1 r2 r3 x1 x2 x3 : Rat} (h1 : Side C w1 r1 x1) (h2 : Side C w2 r2 x2) (h3 : Side C w3 r3 x3) :
    ∃ a b c x y z, Side C (sort3 w1 w2 w3).1 a x ∧ Side C (sort3 w1 w2 w3).2.1 b y ∧ Side C (sort3 w1 w2 w3).2.2 c z ∧ a ≤ b ∧ b ≤ c ∧ HK x y z = HK x1 x2 x3 := by
  obtain ⟨a, b, x, y, k1, k2, k3, k4⟩ := sort2_is h1 h2
  unfold sort3 sort3b
  rw [q_flt h3.q k2.q, q_flt h3.q k1.q]
  by_cases hb : r3 < b
  · rw [decide_eq_true hb, if_pos rfl]
    by_cases ha : r3 < a
    · rw [decide_eq_true ha, if_pos rfl]
      exact ⟨r3, a, b, x3, x, y, h3, k1, k2, by grind, k3, by rw [← k4]; unfold HK; grind⟩
    · rw [decide_eq_false ha, if_neg (by decide)]
      exact ⟨a, r3, b, x, x3, y, k1, h3, k2, by grind, by grind, by rw [← k4]; unfold HK; grind⟩
  · rw [decide_eq_false hb, if_neg (by decide)]
    exact ⟨a, b, r3, x, y, x3, k1, k2, h3, k3, by grind, k4 x3⟩
theorem area_is {C : Rat} {w1 w2 w3 : Nat} {r1 r2 r3 x1 x2 x3 : Rat} (h1 : Side C w1 r1 x1) (h2 : Side C w2 r2 x2) (h3 : Side C w3 r3 x3) (hC : C ≤ 12000000) (hK : 4 ≤ HK x1 x2 x3) :
    (∃ v, Q (areap (sort3 w1 w2 w3).1 (sort3 w1 w2 w3).2.1 (sort3 w1 w2 w3).2.2) v) ∧ ∃ r, Q (areaw (sort3 w1 w2 w3).1 (sort3 w1 w2 w3).2.1 (sort3 w1 w2 w3).2.2) r ∧ (1 / 32 ≤ r ∧ r ≤ 33554432) ∧ Sm (r * r - HK x1 x2 x3 / 16) (25 * uu * (C * C)) := by
  obtain ⟨a, b, c, x, y, z, k1, k2, k3, k4, k5, k6⟩ := sort3_is h1 h2 h3
  obtain ⟨e1, s1, t1⟩ := k1.s
  obtain ⟨e2, s2, t2⟩ := k2.s
  obtain ⟨e3, s3, t3⟩ := k3.s
  rw [← k6] at hK ⊢
  exact heron k1.q k2.q k3.q k1.p k4 k5 s1 s2 s3 t1 t2 t3 k1.lo k2.lo k3.lo k1.hi k2.hi k3.hi hC hK

/-! #### the comparison -/
theorem Q_2to44 : Q 4805340802404319232 17592186044416 := by
  have : D 4805340802404319232 ((17592186044416 : Int)) 1074 := D_two 44 (by decide)
  have := Q_whole this
  simpa using this
theorem cmp_is {aw sw lw : Nat} {r S C : Rat} (qa : Q aw r) (b : 1 / 32 ≤ r ∧ r ≤ 33554432) (h : Sm (r * r - S) (25 * uu * (C * C))) (qs : Q sw S) (s0 : 0 ≤ S) (s1 : 2 * S ≤ C * C) (ql : Q lw C) (c0 : 1 ≤ C) (c1 : C ≤ 12000000) :
    num (gsub (gmul aw aw) sw) = some (gsub (gmul aw aw) sw) ∧ fle (gsub (gmul aw aw) sw % 2 ^ 63) (gdiv (gmul lw lw) 4805340802404319232) = true := by
  obtain ⟨b0, b1⟩ := b
  have hCC : 1 ≤ C * C := by
    have := Rat.mul_nonneg (show 0 ≤ C - 1 by grind) (show 0 ≤ C + 1 by grind)
    grind
  have hCC2 : C * C ≤ 144000000000000 := by
    have := Rat.mul_nonneg (show 0 ≤ 12000000 - C by grind) (show 0 ≤ 12000000 + C by grind)
    grind
  have R1 : Rg (1 / 32) 33554432 r := .inr (.inl ⟨b0, b1⟩)
  obtain ⟨d1, g1, v1⟩ := gmul_rel qa qa (rg_md (rg_mul R1 R1 (by grind) (by grind)) (by grind) (by grind))
  have rr0 := Rat.mul_nonneg (show 0 ≤ r by grind) (show 0 ≤ r by grind)
  obtain ⟨rr, hrr⟩ : ∃ rr, r * r = rr := ⟨_, rfl⟩
  obtain ⟨CC, hcc⟩ : ∃ CC, C * C = CC := ⟨_, rfl⟩
  rw [hrr] at g1 rr0 h
  rw [hcc] at h hCC hCC2 s1
  obtain ⟨h1, h2⟩ := h
  have hrb : rr ≤ CC := by grind
  have m1 := sm_mul (show Sm rr CC from ⟨by grind, hrb⟩) v1
  obtain ⟨t, ht⟩ : ∃ t, rr * d1 = t := ⟨_, rfl⟩
  rw [ht] at m1
  obtain ⟨m2, m3⟩ := m1
  have e1 : rr * (1 + d1) = rr + t := by rw [← ht]; grind
  rw [e1] at g1
  obtain ⟨d2, g2, v2⟩ := gsub_full g1 qs (by constructor <;> grind)
  obtain ⟨A, qA, A0, hA⟩ := Q_abs (gsub_lt _ _) g2
  have hD : Sm (rr + t - S) (26 * uu * CC) := ⟨by grind, by grind⟩
  have m4 := sm_mul hD v2
  obtain ⟨t2, ht2⟩ : ∃ t2, (rr + t - S) * d2 = t2 := ⟨_, rfl⟩
  rw [ht2] at m4
  have e2 : (rr + t - S) * (1 + d2) = rr + t - S + t2 := by rw [← ht2]; grind
  rw [e2] at hA
  have hAb : A ≤ 27 * uu * CC := by
    obtain ⟨h5, h6⟩ := hD
    obtain ⟨h7, h8⟩ := m4
    rcases hA with h9 | h9 <;> rw [h9] <;> grind
  have R2 : Rg 1 12000000 C := .inr (.inl ⟨c0, c1⟩)
  obtain ⟨d3, g3, v3⟩ := gmul_rel ql ql (rg_md (rg_mul R2 R2 (by grind) (by grind)) (by grind) (by grind))
  rw [hcc] at g3
  have R3 : Rg (1 / 2) 288000000000000 (CC * (1 + d3)) := by
    obtain ⟨u1, u2⟩ := v3
    have t1 := Rat.mul_nonneg (show 0 ≤ CC by grind) (show 0 ≤ d3 + 1 / 2 by grind)
    have t2 := Rat.mul_nonneg (show 0 ≤ CC by grind) (show 0 ≤ 1 - d3 by grind)
    exact .inr (.inl ⟨by grind, by grind⟩)
  have R4 : Rg (1 / 2 / 17592186044416) 288000000000000 (CC * (1 + d3) / 17592186044416) := by
    rcases R3 with h | ⟨h, h'⟩ | ⟨h, h'⟩
    · left; rw [h]; grind
    · right; left; exact ⟨by grind, by grind⟩
    · right; right; exact ⟨by grind, by grind⟩
  obtain ⟨d4, g4, v4⟩ := gdiv_rel g3 Q_2to44 (by grind) (rg_md2 R4 (by grind) (by grind))
  refine ⟨q_num g2, ?_⟩
  rw [q_fle qA g4]
  apply decide_eq_true
  refine Rat.le_trans hAb ?_
  obtain ⟨u1, u2⟩ := v3
  obtain ⟨u3, u4⟩ := v4
  have k1 := Rat.mul_nonneg (show 0 ≤ CC by grind) (show 0 ≤ d3 + 1 / 4 by grind)
  have k2 := Rat.mul_nonneg (show 0 ≤ CC * (1 + d3) / 17592186044416 by grind) (show 0 ≤ d4 + 1 / 4 by grind)
  grind

/-! #### the mean of three -/
theorem D_third : D 4599676419421066581 6004799503160661 1020 := by
  have := D_fields (E := 1021) (F := 1501199875790165) (by omega) (by omega) (by omega) (n := 6004799503160661) (v := 1020) rfl
  exact this
theorem Q_third : ∃ t, Q 4599676419421066581 t ∧ Sm (3 * t - 1) (1 / 9007199254740992) := by
  have h1 := Q_of D_third
  have hU := Un_pos
  have e : (2 : Rat) ^ 1020 * 18014398509481984 = Un := by
    have : (18014398509481984 : Rat) = 2 ^ 54 := by decide +kernel
    rw [this, ← ratpow_add]; rfl
  have e2 : ((6004799503160661 : Int) : Rat) * 2 ^ 1020 / Un = 6004799503160661 / 18014398509481984 := by
    have : ((6004799503160661 : Int) : Rat) = 6004799503160661 := by simp
    rw [this]
    generalize (2 : Rat) ^ 1020 = z at *
    rw [← e] at hU ⊢
    grind
  rw [e2] at h1
  exact ⟨_, h1, by constructor <;> grind⟩
theorem Q_three : Q 4613937818241073152 3 := by
  have h : D 4613937818241073152 3 1074 := by
    have := D_fields (E := 1024) (F := 2251799813685248) (by omega) (by omega) (by omega) (n := 3) (v := 1074) (by
      rw [show (1024 - 1 : Nat) = 1023 from rfl, show (1074 : Nat) = 51 + 1023 from rfl, Int.pow_add, ← Int.mul_assoc]; rfl)
    exact this
  have := Q_whole h
  simpa using this
theorem Q_tiny30 : Q 4472074429978902528 (1 / 1073741824) := by
  have h : D 4472074429978902528 1 1044 := by
    have := D_fields (E := 993) (F := 0) (by omega) (by omega) (by omega) (n := 1) (v := 1044) (by
      rw [Int.one_mul, show (1044 : Nat) = 52 + (993 - 1) from rfl, Int.pow_add]; rfl)
    exact this
  have h1 := Q_of h
  have hU := Un_pos
  have e : (2 : Rat) ^ 1044 * 1073741824 = Un := by
    have : (1073741824 : Rat) = 2 ^ 30 := by decide +kernel
    rw [this, ← ratpow_add]; rfl
  have e2 : ((1 : Int) : Rat) * 2 ^ 1044 / Un = 1 / 1073741824 := by
    have : ((1 : Int) : Rat) = 1 := by simp
    rw [this]
    generalize (2 : Rat) ^ 1044 = z at *
    rw [← e] at hU ⊢
    grind
  rw [e2] at h1; exact h1
theorem whole_rg {n : Int} (hn : n.natAbs ≤ 3000) : Rg (1 / 2) 3000 (n : Rat) ∧ Sm (n : Rat) 3000 := by
  have h1 : ((-3000 : Int) : Rat) ≤ (n : Rat) := Rat.intCast_le_intCast.2 (by omega)
  have h2 : (n : Rat) ≤ ((3000 : Int) : Rat) := Rat.intCast_le_intCast.2 (by omega)
  have e1 : ((-3000 : Int) : Rat) = -3000 := by simp
  have e2 : ((3000 : Int) : Rat) = 3000 := by simp
  rw [e1] at h1
  rw [e2] at h2
  refine ⟨?_, h1, h2⟩
  rcases Int.lt_trichotomy n 0 with h | h | h
  · right; right
    have : (n : Rat) ≤ ((-1 : Int) : Rat) := Rat.intCast_le_intCast.2 (by omega)
    have e : ((-1 : Int) : Rat) = -1 := by simp
    rw [e] at this
    constructor <;> grind
  · left; subst h; simp
  · right; left
    have : ((1 : Int) : Rat) ≤ (n : Rat) := Rat.intCast_le_intCast.2 (by omega)
    have e : ((1 : Int) : Rat) = 1 := by simp
    rw [e] at this
    constructor <;> grind
theorem cent_one {s : Nat} {n : Int} (h : D s n 1074) (hn : n.natAbs ≤ 3000) :
    num (gmul 4599676419421066581 s) = some (gmul 4599676419421066581 s) ∧ num (gsub (gmul 4599676419421066581 s) (gdiv s 4613937818241073152)) = some (gsub (gmul 4599676419421066581 s) (gdiv s 4613937818241073152)) ∧
      flt (gsub (gmul 4599676419421066581 s) (gdiv s 4613937818241073152) % 2 ^ 63) 4472074429978902528 = true := by
  obtain ⟨hr, hs⟩ := whole_rg hn
  have qs := Q_whole h
  obtain ⟨N, hN⟩ : ∃ N, (n : Rat) = N := ⟨_, rfl⟩
  rw [hN] at hr hs qs
  obtain ⟨t, qt, t1, t2⟩ := Q_third
  have Rt : Rg (1 / 4) 1 t := .inr (.inl ⟨by grind, by grind⟩)
  obtain ⟨d1, g1, v1⟩ := gmul_rel qt qs (rg_md (rg_mul Rt hr (by grind) (by grind)) (by grind) (by grind))
  have R3 : Rg (1 / 6) 1000 (N / 3) := by
    rcases hr with h | ⟨h, h'⟩ | ⟨h, h'⟩
    · left; rw [h]; grind
    · right; left; exact ⟨by grind, by grind⟩
    · right; right; exact ⟨by grind, by grind⟩
  obtain ⟨d2, g2, v2⟩ := gdiv_rel qs Q_three (by grind) (rg_md2 R3 (by grind) (by grind))
  -- the difference
  have m1 := sm_mul hs ⟨t1, t2⟩
  have m2 := sm_mul hs v1
  have m3 := sm_mul hs v2
  have m4 := sm_mul m2 (show Sm t 1 from ⟨by grind, by grind⟩)
  have hd : Sm (t * N * (1 + d1) - N / 3 * (1 + d2)) (1 / 2147483648) := by
    have e : t * N * (1 + d1) - N / 3 * (1 + d2) = N * (3 * t - 1) / 3 + N * d1 * t - N * d2 / 3 := by grind
    rw [e]
    obtain ⟨a1, a2⟩ := m1
    obtain ⟨a3, a4⟩ := m4
    obtain ⟨a5, a6⟩ := m3
    generalize N * (3 * t - 1) = z1 at *
    generalize N * d1 * t = z2 at *
    generalize N * d2 = z3 at *
    constructor <;> grind
  obtain ⟨d3, g3, v3⟩ := gsub_full g1 g2 (by obtain ⟨a1, a2⟩ := hd; constructor <;> grind)
  obtain ⟨A, qA, A0, hA⟩ := Q_abs (gsub_lt _ _) g3
  refine ⟨q_num g1, q_num g3, ?_⟩
  rw [q_flt qA Q_tiny30]
  apply decide_eq_true
  generalize t * N * (1 + d1) - N / 3 * (1 + d2) = X at *
  obtain ⟨a1, a2⟩ := hd
  obtain ⟨a3, a4⟩ := sm_mul ⟨a1, a2⟩ v3
  have e : X * (1 + d3) = X + X * d3 := by grind
  rw [e] at hA
  generalize X * d3 = z at *
  rcases hA with h9 | h9 <;> rw [h9] <;> grind

/-! #### the greatest of three -/
theorem fmax_D {x y : Nat} {a b : Int} {v : Nat} (hx : D x a v) (hy : D y b v) : ∃ z, fmax x y = some z ∧ D z (max a b) v ∧ (z = x ∨ z = y) := by
  unfold fmax
  rw [D_order hx hy]
  rcases Int.lt_trichotomy a b with h | h | h
  · rw [Int.compare_eq_lt.2 h, show max a b = b by omega]
    exact ⟨y, rfl, hy, .inr rfl⟩
  · subst h
    rw [show compare a a = .eq from Int.compare_eq_eq.2 rfl, show max a a = a by omega]
    exact ⟨_, rfl, by split <;> assumption, by split <;> simp⟩
  · rw [Int.compare_eq_gt.2 h, show max a b = a by omega]
    exact ⟨x, rfl, hx, .inl rfl⟩
theorem fmax3_D {x y z : Nat} {a b c : Int} {v : Nat} (hx : D x a v) (hy : D y b v) (hz : D z c v) : ∃ w, fmax3 x y z = some w ∧ D w (max (max a b) c) v := by
  obtain ⟨t, h1, h2, _⟩ := fmax_D hx hy
  obtain ⟨w, h3, h4, _⟩ := fmax_D h2 hz
  exact ⟨w, by unfold fmax3; rw [h1]; exact h3, h4⟩
end Go.Sx
