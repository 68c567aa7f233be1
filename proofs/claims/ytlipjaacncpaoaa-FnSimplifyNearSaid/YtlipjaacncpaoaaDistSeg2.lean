/-
  The way from a point to a segment, squared: the program's number against the true one. Ours.
-/
import Derived.Test.YtlipjaacncpaoaaDistSeg
namespace Go.Proofs.Ytlipjaacncpaoaa
open Go.Sx
open Ieee (signed)
set_option linter.unusedVariables false
set_option linter.unusedSimpArgs false
set_option maxRecDepth 100000

theorem D_ne0 {x : Nat} {a : Int} (hx : D x a 1074) : fne x 0 = !decide (a = 0) := D_ne hx (D_zero 1074)
theorem sq0 {a b : Int} : a * a + b * b = 0 ↔ a = 0 ∧ b = 0 := by
  constructor
  · intro h
    have h1 : 0 ≤ a * a := by rcases Int.le_total 0 a with h' | h'; exact Int.mul_nonneg h' h'; exact Int.mul_nonneg_of_nonpos_of_nonpos h' h'
    have h2 : 0 ≤ b * b := by rcases Int.le_total 0 b with h' | h'; exact Int.mul_nonneg h' h'; exact Int.mul_nonneg_of_nonpos_of_nonpos h' h'
    constructor
    · rcases Int.mul_eq_zero.1 (show a * a = 0 by omega) with h' | h' <;> exact h'
    · rcases Int.mul_eq_zero.1 (show b * b = 0 by omega) with h' | h' <;> exact h'
  · rintro ⟨rfl, rfl⟩; rfl
theorem sq_nn (a : Int) : 0 ≤ a * a := by rcases Int.le_total 0 a with h' | h'; exact Int.mul_nonneg h' h'; exact Int.mul_nonneg_of_nonpos_of_nonpos h' h'
/-- the quotient of two whole numbers -/
theorem quot_is {x y : Nat} {a b : Int} (hx : D x a 1074) (hy : D y b 1074) (hb : 0 < b) (ha : a.natAbs ≤ 1073741824) (hb2 : b ≤ 1073741824) :
    ∃ f e : Rat, fdiv x y = some (gdiv x y) ∧ Q (gdiv x y) (f * (1 + e)) ∧ f * (b : Rat) = (a : Rat) ∧ Sm e (3 * uu) := by
  have qx := Q_whole hx
  have qy := Q_whole hy
  have hb0 : (0 : Rat) + 1 ≤ (b : Rat) := int_lt_rat hb
  have hb3 : (b : Rat) ≤ 1073741824 := int_le_rat hb2
  obtain ⟨a1, a2⟩ := rat_bd ha
  have a3 : ((1073741824 : Nat) : Rat) = 1073741824 := rfl
  rw [a3] at a1 a2
  have hbp : (0 : Rat) < (b : Rat) := by grind
  obtain ⟨f, hf⟩ : ∃ f, f = (a : Rat) / b := ⟨_, rfl⟩
  have hfb : f * (b : Rat) = a := by rw [hf]; grind
  have hBB : (1152921504606846976 * 1152921504606846976 : Rat) ≤ BB := by decide +kernel
  have f1 : f ≤ 1073741824 := by rw [hf]; exact div_le' hbp (by grind)
  have f2 : -1073741824 ≤ f := by rw [hf]; exact div_ge hbp (by grind)
  obtain ⟨e, q, he⟩ := gdiv_rel qx qy (by grind) ⟨by
    rw [← hf]
    rcases Int.lt_trichotomy a 0 with h | h | h
    · right; right
      have h1 : (a : Rat) + 1 ≤ ((0 : Int) : Rat) := int_lt_rat h
      have h0 : ((0 : Int) : Rat) = 0 := rfl
      rw [h0] at h1
      have h2 : f ≤ -(1 / 1073741824) := by rw [hf]; exact div_le' hbp (by grind)
      have h3 := Rat.mul_nonneg (show 0 ≤ -f - 1 / 1073741824 by grind) (show 0 ≤ BB by grind)
      generalize BB = B at *
      grind
    · left; rw [hf, h]
      have h0 : ((0 : Int) : Rat) = 0 := rfl
      rw [h0]; grind
    · right; left
      have h1 : ((0 : Int) : Rat) + 1 ≤ (a : Rat) := int_lt_rat h
      have h0 : ((0 : Int) : Rat) = 0 := rfl
      rw [h0] at h1
      have h2 : (1 / 1073741824) ≤ f := by rw [hf]; exact div_ge hbp (by grind)
      have h3 := Rat.mul_nonneg (show 0 ≤ f - 1 / 1073741824 by grind) (show 0 ≤ BB by grind)
      generalize BB = B at *
      grind, by rw [← hf]; grind⟩
  rw [← hf] at q
  exact ⟨f, e, fdiv_q qx qy hbp, q, hfb, he⟩
theorem over_one {f e L A : Rat} (hf : f * L = A) (hL : 1 ≤ L) (hL2 : L ≤ 1073741824) (he : Sm e (3 * uu)) (h : 1 < f * (1 + e)) (hA : A + 1 ≤ L) : False := by
  obtain ⟨e1, e2⟩ := he
  have hu : 1073741824 * (3 * uu) < 1 := by decide +kernel
  have h1 : L < A * (1 + e) := by
    have := Rat.mul_pos (show 0 < f * (1 + e) - 1 by grind) (show 0 < L by grind)
    rw [← hf]; grind
  have he1 : 0 ≤ 1 + e := by have : 3 * uu ≤ 1 := by decide +kernel
                             grind
  have h2 := Rat.mul_nonneg (show 0 ≤ L - 1 - A by grind) he1
  have h3 := Rat.mul_nonneg (show 0 ≤ 3 * uu - e by grind) (show 0 ≤ L - 1 by grind)
  generalize uu = w at *
  have h4 := Rat.mul_nonneg (show 0 ≤ 1073741824 - L by grind) (show 0 ≤ 3 * w by grind)
  grind
theorem under_one {f e L A : Rat} (hf : f * L = A) (hL : 1 ≤ L) (hL2 : L ≤ 1073741824) (he : Sm e (3 * uu)) (h : f * (1 + e) ≤ 1) (hA : L + 1 ≤ A) : False := by
  obtain ⟨e1, e2⟩ := he
  have hu : 1073741824 * (3 * uu) + 3 * uu < 1 := by decide +kernel
  have h1 : A * (1 + e) ≤ L := by
    have := Rat.mul_nonneg (show 0 ≤ 1 - f * (1 + e) by grind) (show 0 ≤ L by grind)
    rw [← hf]; grind
  have he1 : 0 ≤ 1 + e := by have : 3 * uu ≤ 1 := by decide +kernel
                             grind
  have h2 := Rat.mul_nonneg (show 0 ≤ A - (L + 1) by grind) he1
  have h3 := Rat.mul_nonneg (show 0 ≤ 3 * uu + e by grind) (show 0 ≤ L + 1 by grind)
  have hu0 := uu_pos
  generalize uu = w at *
  have h4 := Rat.mul_nonneg (show 0 ≤ 1073741824 - L by grind) (show 0 ≤ 3 * w by grind)
  grind
theorem pos_quot {f e L A : Rat} (hf : f * L = A) (hL : 1 ≤ L) (he : Sm e (3 * uu)) : (0 < f * (1 + e) ↔ 0 < A) := by
  obtain ⟨e1, e2⟩ := he
  have he1 : 0 < 1 + e := by have : 3 * uu < 1 := by decide +kernel
                             grind
  rw [← hf]
  constructor
  · intro h
    by_cases h0 : 0 < f
    · exact Rat.mul_pos h0 (by grind)
    · have := Rat.mul_nonneg (show 0 ≤ -f by grind) (Rat.le_of_lt he1); grind
  · intro h
    by_cases h0 : 0 < f
    · exact Rat.mul_pos h0 he1
    · have := Rat.mul_nonneg (show 0 ≤ -f by grind) (show 0 ≤ L by grind); grind
theorem frac_bd {f L A : Rat} (hf : f * L = A) (hL : 1 ≤ L) (h0 : 0 ≤ A) (h1 : A ≤ L) : 0 ≤ f ∧ f ≤ 1 := by
  constructor
  · by_cases h : 0 ≤ f
    · exact h
    · have := Rat.mul_pos (show 0 < -f by grind) (show 0 < L by grind); grind
  · by_cases h : f ≤ 1
    · exact h
    · have := Rat.mul_pos (show 0 < f - 1 by grind) (show 0 < L by grind); grind
theorem mul_ops {x y : Nat} {a b : Int} (hx : D x a 1074) (hy : D y b 1074) (ha : a.natAbs ≤ 16384) (hb : b.natAbs ≤ 16384) : ∃ z, fmul x y = some z ∧ D z (a * b) 1074 := by
  have h := prod_bd ha hb
  have h2 : (16384 * 16384 : Nat) ≤ 2 ^ 53 := by decide
  exact D_mul hx hy rfl rfl (by decide) (Nat.le_trans h h2) (by decide)
theorem sum_ops {x y : Nat} {a b c : Int} (hx : D x a 1074) (hy : D y b 1074) (ha : a.natAbs ≤ 268435456) (hb : b.natAbs ≤ 268435456) (hc : c = a + b) : ∃ z, fadd x y = some z ∧ D z c 1074 := by
  have h2 : (a + b).natAbs ≤ 2 ^ 53 := Nat.le_trans (Int.natAbs_add_le a b) (by omega)
  exact D_sum hx hy hc.symm (by rw [hc]; exact h2) (by decide)
theorem sub_ops {x y : Nat} {a b c : Int} (hx : D x a 1074) (hy : D y b 1074) (ha : a.natAbs ≤ 8192) (hb : b.natAbs ≤ 8192) (hc : c = a - b) : ∃ z, fsub x y = some z ∧ D z c 1074 := by
  exact D_sub hx hy hc.symm (by omega) (by decide)
theorem big_prod {a b : Int} (h : a.natAbs ≤ 16384) (h' : b.natAbs ≤ 16384) : (a * b).natAbs ≤ 268435456 := prod_bd h h'
theorem e36_34 : 4 * e36 ≤ e34 := by decide +kernel
theorem e36_small : e36 ≤ 1 / 2 := by decide +kernel
set_option maxHeartbeats 4000000 in
theorem distSeg_is (k : Nat) {a0 a1 b0 b1 p0 p1 : Nat} {ta tb tp : List Nat} {ax ay bx by_ px py : Int}
    (da : D a0 ax 1074) (da' : D a1 ay 1074) (db : D b0 bx 1074) (db' : D b1 by_ 1074) (dp : D p0 px 1074) (dp' : D p1 py 1074)
    (ha : ax.natAbs ≤ 8192) (ha' : ay.natAbs ≤ 8192) (hb : bx.natAbs ≤ 8192) (hb' : by_.natAbs ≤ 8192) (hp : px.natAbs ≤ 8192) (hp' : py.natAbs ≤ 8192) :
    ∃ w φ u v u' v', xy_distanceFromSegmentSquared k (a0 :: a1 :: ta) (b0 :: b1 :: tb) (p0 :: p1 :: tp) = some w ∧ Q w φ ∧ u * u + v * v ≤ φ * (1 + 8 * uu) + 8 * uu ∧
      Way ax ay bx by_ px py u' v' ∧ (u' - e34 ≤ u ∧ u ≤ u' + e34) ∧ (v' - e34 ≤ v ∧ v ≤ v' + e34) := by
  have ia0 : idx (a0 :: a1 :: ta) 0 = some a0 := rfl
  have ia1 : idx (a0 :: a1 :: ta) 1 = some a1 := rfl
  have ib0 : idx (b0 :: b1 :: tb) 0 = some b0 := rfl
  have ib1 : idx (b0 :: b1 :: tb) 1 = some b1 := rfl
  have ip0 : idx (p0 :: p1 :: tp) 0 = some p0 := rfl
  have ip1 : idx (p0 :: p1 :: tp) 1 = some p1 := rfl
  obtain ⟨dx, hdx⟩ : ∃ d, d = bx - ax := ⟨_, rfl⟩
  obtain ⟨dy, hdy⟩ : ∃ d, d = by_ - ay := ⟨_, rfl⟩
  have d22 : D (gsub b0 a0) dx 1074 := gsub_D db da hdx.symm (by omega) (by omega)
  have d27 : D (gsub b1 a1) dy 1074 := gsub_D db' da' hdy.symm (by omega) (by omega)
  have hdxb : dx.natAbs ≤ 16384 := by omega
  have hdyb : dy.natAbs ≤ 16384 := by omega
  have qax := Q_whole da
  have qay := Q_whole da'
  have qbx := Q_whole db
  have qby := Q_whole db'
  have qpx := Q_whole dp
  have qpy := Q_whole dp'
  have c : ((8192 : Nat) : Rat) = 8192 := rfl
  have c2 : ((16384 : Nat) : Rat) = 16384 := rfl
  have rax := rat_bd ha
  have ray := rat_bd ha'
  have rbx := rat_bd hb
  have rby := rat_bd hb'
  have rpx := rat_bd hp
  have rpy := rat_bd hp'
  have rdx := rat_bd hdxb
  have rdy := rat_bd hdyb
  rw [c] at rax ray rbx rby rpx rpy
  rw [c2] at rdx rdy
  have edx : (dx : Rat) = bx - ax := by rw [hdx, Rat.intCast_sub]
  have edy : (dy : Rat) = by_ - ay := by rw [hdy, Rat.intCast_sub]
  have hlen : lenZ ax ay bx by_ = dx * dx + dy * dy := by unfold lenZ; rw [hdx, hdy]
  have hdot : dotZ ax ay bx by_ px py = (px - ax) * dx + (py - ay) * dy := by unfold dotZ; rw [hdx, hdy, Int.mul_comm (bx - ax), Int.mul_comm (by_ - ay)]
  unfold xy_distanceFromSegmentSquared
  simp only [ia0, ia1, ib0, ib1, sbind]
  have key : ∀ x1 : Bool, (x1 = true ↔ (dx ≠ 0 ∨ dy ≠ 0)) → ∃ w φ u v u' v', xy_distanceFromSegmentSquared_j1 k (p0 :: p1 :: tp) a0 (gsub b0 a0) a1 (gsub b1 a1) (b0 :: b1 :: tb) x1 = some w ∧ Q w φ ∧ u * u + v * v ≤ φ * (1 + 8 * uu) + 8 * uu ∧
      Way ax ay bx by_ px py u' v' ∧ (u' - e34 ≤ u ∧ u ≤ u' + e34) ∧ (v' - e34 ≤ v ∧ v ≤ v' + e34) := by
    intro x1 hx1
    have h34 := e36_34
    have h36 := e36_small
    have h340 : (0 : Rat) ≤ e36 := by decide +kernel
    -- at the first point
    have atA : dotZ ax ay bx by_ px py ≤ 0 ∨ lenZ ax ay bx by_ = 0 → ∃ w φ u v u' v', xy_distanceFromSegmentSquared_j2 k (p0 :: p1 :: tp) a0 a1 = some w ∧ Q w φ ∧ u * u + v * v ≤ φ * (1 + 8 * uu) + 8 * uu ∧
      Way ax ay bx by_ px py u' v' ∧ (u' - e34 ≤ u ∧ u ≤ u' + e34) ∧ (v' - e34 ≤ v ∧ v ≤ v' + e34) := by
      intro h
      obtain ⟨w, φ, u, v, t1, t2, t3, t4, t5⟩ := tail_is k (tp := tp) qpx qpy qax qay ⟨by grind, by grind⟩ ⟨by grind, by grind⟩
      have h0 : ¬ (0 < dotZ ax ay bx by_ px py) := by
        rcases h with h | h
        · omega
        · have h1 := sq0.1 (hlen.symm.trans h)
          rw [hdot, h1.1, h1.2, Int.mul_zero, Int.mul_zero]; decide
      refine ⟨w, φ, u, v, _, _, t1, t2, t3, ⟨fun _ => ⟨rfl, rfl⟩, fun h' => absurd h' h0, fun h' => absurd h' h0⟩, ?_, ?_⟩
      · rw [Rat.intCast_sub]; grind
      · rw [Rat.intCast_sub]; grind
    unfold xy_distanceFromSegmentSquared_j1
    cases x1 with
    | false =>
      rw [br_false]
      have h1 : lenZ ax ay bx by_ = 0 := by
        rw [hlen]
        have h2 : ¬ (dx ≠ 0 ∨ dy ≠ 0) := fun h => by have := hx1.2 h; cases this
        exact sq0.2 ⟨by omega, by omega⟩
      exact atA (.inr h1)
    | true =>
      rw [br_true]
      have hne : dx ≠ 0 ∨ dy ≠ 0 := hx1.1 rfl
      obtain ⟨ux, hux⟩ : ∃ d, d = px - ax := ⟨_, rfl⟩
      obtain ⟨uy, huy⟩ : ∃ d, d = py - ay := ⟨_, rfl⟩
      obtain ⟨L, hL⟩ : ∃ L, L = dx * dx + dy * dy := ⟨_, rfl⟩
      obtain ⟨A, hA⟩ : ∃ A, A = ux * dx + uy * dy := ⟨_, rfl⟩
      have hlen' : lenZ ax ay bx by_ = L := by rw [hlen, hL]
      have hdot' : dotZ ax ay bx by_ px py = A := by rw [hdot, hA, hux, huy]
      have hux2 : ux.natAbs ≤ 16384 := by omega
      have huy2 : uy.natAbs ≤ 16384 := by omega
      have bb1 := big_prod hux2 hdxb
      have bb2 := big_prod huy2 hdyb
      have bb3 := big_prod hdxb hdxb
      have bb4 := big_prod hdyb hdyb
      have n1 := sq_nn dx
      have n2 := sq_nn dy
      have hLp : 0 < L := by
        have h1 : ¬ (dx * dx + dy * dy = 0) := fun h => by have := sq0.1 h; omega
        omega
      obtain ⟨z1, o1, z1d⟩ := sub_ops dp da hp ha hux
      obtain ⟨z2, o2, z2d⟩ := mul_ops z1d d22 hux2 hdxb
      obtain ⟨z3, o3, z3d⟩ := sub_ops dp' da' hp' ha' huy
      obtain ⟨z4, o4, z4d⟩ := mul_ops z3d d27 huy2 hdyb
      obtain ⟨z5, o5, z5d⟩ := sum_ops z2d z4d bb1 bb2 hA
      obtain ⟨z6, o6, z6d⟩ := mul_ops d22 d22 hdxb hdxb
      obtain ⟨z7, o7, z7d⟩ := mul_ops d27 d27 hdyb hdyb
      obtain ⟨z8, o8, z8d⟩ := sum_ops z6d z7d bb3 bb4 hL
      have hLb : L ≤ 1073741824 := by omega
      have hAb : A.natAbs ≤ 1073741824 := by omega
      obtain ⟨f, e, o9, q9, hf, he⟩ := quot_is z5d z8d hLp hAb hLb
      have nm22 : num (gsub b0 a0) = some (gsub b0 a0) := num_q (Q_whole d22)
      have nm27 : num (gsub b1 a1) = some (gsub b1 a1) := num_q (Q_whole d27)
      have qone : Q 4607182418800017408 1 := by have := Q_whole D_one; exact this
      have hL1 : (1 : Rat) ≤ L := by
        have := int_lt_rat hLp
        have h0 : ((0 : Int) : Rat) = 0 := rfl
        rw [h0] at this; grind
      have hL2 : (L : Rat) ≤ 1073741824 := int_le_rat (n := 1073741824) hLb
      simp only [ip0, ip1, ib0, ib1, o1, o2, o3, o4, o5, o6, o7, o8, o9, nm22, nm27, sbind]
      rw [fgt_q q9 qone, fgt_q q9 q_zero]
      by_cases g1 : (1 : Rat) < f * (1 + e)
      · rw [decide_eq_true g1, br_true]
        have hAL : L ≤ A := by
          by_cases h : L ≤ A
          · exact h
          · exact (over_one hf hL1 hL2 he g1 (int_lt_rat (show A < L by omega))).elim
        obtain ⟨w, φ, u, v, t1, t2, t3, t4, t5⟩ := tail_is k (tp := tp) qpx qpy qbx qby ⟨by grind, by grind⟩ ⟨by grind, by grind⟩
        refine ⟨w, φ, u, v, ((px - bx : Int) : Rat), ((py - by_ : Int) : Rat), t1, t2, t3, ⟨?_, fun _ _ => ⟨rfl, rfl⟩, ?_⟩, ?_, ?_⟩
        · intro h; rw [hlen', hdot'] at h; omega
        · intro _ h; rw [hlen', hdot'] at h; omega
        · rw [Rat.intCast_sub]; grind
        · rw [Rat.intCast_sub]; grind
      · rw [decide_eq_false g1, br_false]
        by_cases g2 : (0 : Rat) < f * (1 + e)
        · rw [decide_eq_true g2, br_true]
          have hA0 : 0 < A := by
            have := (pos_quot hf hL1 he).1 g2
            have h0 : ((0 : Int) : Rat) < (A : Rat) := this
            exact Rat.intCast_lt_intCast.1 h0
          have hAL : A ≤ L := by
            by_cases h : A ≤ L
            · exact h
            · exact (under_one hf hL1 hL2 he (by grind) (int_lt_rat (show L < A by omega))).elim
          have hfb := frac_bd hf hL1 (int_le_rat (m := 0) (by omega)) (int_le_rat hAL)
          obtain ⟨T, hT⟩ : ∃ T, T = f * (1 + e) := ⟨_, rfl⟩
          rw [← hT] at q9 g1 g2
          have hT1 : 0 ≤ T ∧ T ≤ 1 := ⟨by grind, by grind⟩
          have m1 := bd_prod rdx (b := T) (B := 1) ⟨by grind, by grind⟩
          have m2 := bd_prod rdy (b := T) (B := 1) ⟨by grind, by grind⟩
          obtain ⟨r1, q10, e10⟩ := mul_near (Q_whole d22) q9 ⟨by grind, by grind⟩
          obtain ⟨r2, q11, e11⟩ := mul_near (Q_whole d27) q9 ⟨by grind, by grind⟩
          obtain ⟨X, q12, e12⟩ := add_near qax q10 ⟨by grind, by grind⟩
          obtain ⟨Y, q13, e13⟩ := add_near qay q11 ⟨by grind, by grind⟩
          have np1 := near_point rdx hfb hT he e10 e12
          have np2 := near_point rdy hfb hT he e11 e13
          obtain ⟨w, φ, u, v, t1, t2, t3, t4, t5⟩ := tail_is k (tp := tp) qpx qpy q12 q13 ⟨by grind, by grind⟩ ⟨by grind, by grind⟩
          refine ⟨w, φ, u, v, ((px - ax : Int) : Rat) - f * ((bx - ax : Int) : Rat), ((py - ay : Int) : Rat) - f * ((by_ - ay : Int) : Rat), t1, t2, t3, ⟨?_, ?_, ?_⟩, ?_, ?_⟩
          · intro h; rw [hlen', hdot'] at h; omega
          · intro _ h; rw [hlen', hdot'] at h
            have hAL' : A = L := by omega
            have f1 : f = 1 := by
              rw [hAL'] at hf
              have h5 : (f - 1) * (L : Rat) = 0 := by grind
              rcases Rat.mul_eq_zero.1 h5 with h6 | h6
              · grind
              · grind
            rw [f1]
            simp only [Rat.intCast_sub]
            constructor <;> grind
          · intro _ _; exact ⟨f, by rw [hlen', hdot']; exact hf, rfl, rfl⟩
          · rw [Rat.intCast_sub, ← hdx]; grind
          · rw [Rat.intCast_sub, ← hdy]; grind
        · rw [decide_eq_false g2, br_false]
          have hA0 : A ≤ 0 := by
            by_cases h : A ≤ 0
            · exact h
            · have h1 : ((0 : Int) : Rat) < (A : Rat) := Rat.intCast_lt_intCast.2 (by omega)
              exact absurd ((pos_quot hf hL1 he).2 h1) g2
          exact atA (.inl (by rw [hdot']; exact hA0))
  rw [D_ne0 d22, D_ne0 d27]
  by_cases h : dx = 0
  · rw [decide_eq_true h, Bool.not_true, br_false]
    exact key _ (by simp [h])
  · rw [decide_eq_false h, Bool.not_false, br_true]
    exact key _ (by simp [h])
end Go.Proofs.Ytlipjaacncpaoaa
