/-
  The distance of two places is the root of the exact square: the plain statement. Ours.
-/
import Derived.Test.YtnemkhcjmenfnaaPlaneTo
import Derived.Test.YtnemkhcjmenfnaaExact6
import Derived.Test.YtnemkhcjmenfnaaSxY
namespace Go.Proofs.Ytnemkhcjmenfnaa
open Go.Sx
open Ieee (signed)
set_option linter.unusedVariables false
set_option linter.unusedSimpArgs false
set_option maxRecDepth 100000

theorem sq_nat (n : Int) : n * n = ((n.natAbs * n.natAbs : Nat) : Int) := by rw [Int.natCast_mul]; exact (Int.natAbs_mul_self' _).symm
theorem sq_le42 {n : Int} (h : n.natAbs ≤ 2097152) : n.natAbs * n.natAbs ≤ 4398046511104 := Nat.mul_le_mul h h

theorem tiny_is : D 4517110426252607488 1 1054 := by
  have := Go.Sx.D_fields (E := 1003) (F := 0) (by omega) (by omega) (by omega) (n := 1) (v := 1054) (by
    rw [Int.one_mul, show (1054 : Nat) = 52 + (1003 - 1) from rfl, Int.pow_add]; rfl)
  exact this

/-- the sum of the squares -/
def csq (ax ay bx by_ : Int) : Nat := (ax - bx).natAbs * (ax - bx).natAbs + (ay - by_).natAbs * (ay - by_).natAbs

theorem dist_is {a0 a1 b0 b1 : Nat} {ax ay bx by_ : Int} (k : Nat) (d1 : D a0 ax 1074) (d2 : D a1 ay 1074) (d3 : D b0 bx 1074) (d4 : D b1 by_ 1074)
    (h1 : ax.natAbs ≤ 1048576) (h2 : ay.natAbs ≤ 1048576) (h3 : bx.natAbs ≤ 1048576) (h4 : by_.natAbs ≤ 1048576) :
    ∃ w, D w ((csq ax ay bx by_ : Nat) : Int) 1074 ∧ impl_PlaceDistance k a0 a1 b0 b1 = some (gsqrt w) := by
  obtain ⟨u, hu, du⟩ := D_sub d1 d3 rfl (by omega) (by omega)
  obtain ⟨v, hv, dv⟩ := D_sub d2 d4 rfl (by omega) (by omega)
  have s1 := sq_le42 (n := ax - bx) (by omega)
  have s2 := sq_le42 (n := ay - by_) (by omega)
  have e1 := gmul_D (u := 1074) du du (sq_nat _) rfl (by omega) (by omega) (by omega)
  have e2 := gmul_D (u := 1074) dv dv (sq_nat _) rfl (by omega) (by omega) (by omega)
  have e3 := gadd_D e1 e2 (c := ((csq ax ay bx by_ : Nat) : Int)) (by unfold csq; omega) (by unfold csq; omega) (by omega)
  have hnum : num (gadd (gmul u u) (gmul v v)) = some (gadd (gmul u u) (gmul v v)) := by unfold num; rw [Go.Sx.isn_D e3]; rfl
  refine ⟨_, e3, ?_⟩
  unfold impl_PlaceDistance impl_coord xy_Distance inner_Distance2D math_Sqrt
  simp only [Option.bind_eq_bind, Option.bind_some]
  rw [show idx [a0, a1] 0 = some a0 from rfl, show idx [b0, b1] 0 = some b0 from rfl, show idx [a0, a1] 1 = some a1 from rfl, show idx [b0, b1] 1 = some b1 from rfl]
  simp only [Option.bind_some, hu, hv, hnum]

theorem csq_swap (ax ay bx by_ : Int) : csq bx by_ ax ay = csq ax ay bx by_ := by
  unfold csq
  rw [show (bx - ax).natAbs = (ax - bx).natAbs from by omega, show (by_ - ay).natAbs = (ay - by_).natAbs from by omega]

theorem exactly_is {k : Nat} {x y : Nat} {m n : Int} (hx : x < 2 ^ 64) (hy : y < 2 ^ 64) (d1 : D x m 1074) (d2 : D y n 1074) (hk : 2 < k) :
    ∃ s1 l1 e1 s2 l2 e2, laws_exactly k x y = some (s1, l1, e1, s2, l2, e2) ∧ Dr (-1074) 971 2 s1 l1 e1 (m * 2 ^ 1074) ∧ Dr (-1074) 971 2 s2 l2 e2 (n * 2 ^ 1074) := by
  obtain ⟨s1, l1, e1, r1, w1⟩ := dyadicOf_is (k := k) hx d1 hk
  obtain ⟨s2, l2, e2, r2, w2⟩ := dyadicOf_is (k := k) hy d2 hk
  exact ⟨s1, l1, e1, s2, l2, e2, by simp [laws_exactly, spec_PointOf, r1, r2], w1, w2⟩

theorem fact_FnPlaceDistance (a0 a1 b0 b1 : Nat) (g0 : a0 < 18446744073709551616 ∧ a1 < 18446744073709551616) (g1 : b0 < 18446744073709551616 ∧ b1 < 18446744073709551616) :
    laws_FnPlaceDistance 1000 a0 a1 b0 b1 = some true := by
  have hw : D 4697254411347427328 ((1048576 : Nat) : Int) 1074 := by
    have := Go.Sx.D_fields (E := 1043) (F := 0) (by omega) (by omega) (by omega) (n := ((1048576 : Nat) : Int)) (v := 1074) (by
      rw [show (1048576 : Nat) = 2 ^ 20 from rfl, ← Go.Sx.powcast2 20, ← Int.pow_add, show ((2 ^ 52 + 0 : Nat) : Int) = 2 ^ 52 from rfl, ← Int.pow_add])
    exact this
  obtain ⟨r, r1, r2⟩ := planeTo_is (k := 1000) 4697254411347427328 1048576 hw (by omega) [(a0, a1), (b0, b1)] (fun x hx => by
    simp at hx
    rcases hx with rfl | rfl <;> constructor <;> omega) (by simp) (by simp)
  unfold laws_FnPlaceDistance
  rw [r1, sbind]
  cases r with
  | false => rfl
  | true =>
    obtain ⟨ax, ay, d1, h1, d2, h2⟩ := r2 rfl (a0, a1) (by simp)
    obtain ⟨bx, by_, d3, h3, d4, h4⟩ := r2 rfl (b0, b1) (by simp)
    simp only at d1 d2 d3 d4
    obtain ⟨w, dw, hv⟩ := dist_is 1000 d1 d2 d3 d4 h1 h2 h3 h4
    obtain ⟨w', dw', hv'⟩ := dist_is 1000 d3 d4 d1 d2 h3 h4 h1 h2
    rw [csq_swap] at dw'
    simp only [Bool.not_true, br_false, hv, sbind]
    rw [D_eq d1 d3, D_eq d2 d4]
    by_cases hax : ax = bx ∨ ay = by_
    · have hb : br (decide (ax = bx)) (laws_FnPlaceDistance_j1 1000 a0 b0 a1 b1 (gsqrt w) true) (laws_FnPlaceDistance_j1 1000 a0 b0 a1 b1 (gsqrt w) (decide (ay = by_))) = laws_FnPlaceDistance_j1 1000 a0 b0 a1 b1 (gsqrt w) true := by
        rcases hax with h | h
        · rw [decide_eq_true h, br_true]
        · rw [decide_eq_true h, br_same]
      rw [hb]
      unfold laws_FnPlaceDistance_j1
      rw [br_true]
      obtain ⟨u, hu, du⟩ := D_sub d1 d3 rfl (by omega) (by omega)
      obtain ⟨v, hv2, dv⟩ := D_sub d2 d4 rfl (by omega) (by omega)
      have lu : u < 2 ^ 64 := by rw [fsub_g hu]; exact gsub_lt _ _
      have lv : v < 2 ^ 64 := by rw [fsub_g hv2]; exact gsub_lt _ _
      have eu := D_absn lu du
      have ev := D_absn lv dv
      obtain ⟨z, hz, dz⟩ := D_sum eu ev rfl (by omega) (by omega)
      rw [hu, hv2]
      simp only [sbind, abs_is _ _ lu, abs_is _ _ lv, hz]
      have hroot : D (gsqrt w) (((ax - bx).natAbs : Int) + ((ay - by_).natAbs : Int)) 1074 := by
        have e : csq ax ay bx by_ = ((ax - bx).natAbs + (ay - by_).natAbs) * ((ax - bx).natAbs + (ay - by_).natAbs) := by
          unfold csq
          rcases hax with h | h
          · subst h; simp
          · subst h; simp
        rw [e] at dw
        have := gsqrt_square dw (by omega)
        rw [Int.natCast_add] at this
        exact this
      rw [D_eq hroot dz]; simp
    · have hx : ¬ ax = bx := fun h => hax (.inl h)
      have hy : ¬ ay = by_ := fun h => hax (.inr h)
      rw [decide_eq_false hx, decide_eq_false hy, br_false]
      unfold laws_FnPlaceDistance_j1
      rw [br_false]
      obtain ⟨s1, l1, e1, s2, l2, e2, x1, w1, w2⟩ := exactly_is (k := 1000) (x := a0) (y := a1) (by omega) (by omega) d1 d2 (by omega)
      obtain ⟨s3, l3, e3, s4, l4, e4, x2, w3, w4⟩ := exactly_is (k := 1000) (x := b0) (y := b1) (by omega) (by omega) d3 d4 (by omega)
      obtain ⟨t1, m1, f1, q1, v1⟩ := dsub_is (k := 1000) w3 w1 (by decide) (by decide) (by decide) (by decide) (by decide)
      obtain ⟨t2, m2, f2, q2, v2⟩ := dsub_is (k := 1000) w4 w2 (by decide) (by decide) (by decide) (by decide) (by decide)
      obtain ⟨t5, m5, f5, q5, v5⟩ := dmul_is (k := 1000) v1 v1 (by decide) (by decide) (by decide) (by decide) (by decide) (by decide) (by decide)
      obtain ⟨t6, m6, f6, q6, v6⟩ := dmul_is (k := 1000) v2 v2 (by decide) (by decide) (by decide) (by decide) (by decide) (by decide) (by decide)
      obtain ⟨t7, m7, f7, q7, v7⟩ := dadd_is (k := 1000) v5 v6 (by decide) (by decide) (by decide) (by decide) (by decide)
      obtain ⟨zz, wz, hz⟩ := v7.ex
      have hlo := v7.lo; have hhi := v7.hi; have hlen := v7.len
      have c1 := sq_le42 (n := ax - bx) (by omega)
      have c2 := sq_le42 (n := ay - by_) (by omega)
      have hX : zz * 2 ^ (f7 + ((2148 : Nat) : Int)).toNat = ((csq ax ay bx by_ : Nat) : Int) * 2 ^ 2148 := by
        have e : (f7 + ((2148 : Nat) : Int)).toNat = (f7 - (-1074 + -1074)).toNat := by omega
        rw [e, ← hz, show (2148 : Nat) = 1074 + 1074 from rfl, Int.pow_add]
        generalize (2 : Int) ^ 1074 = P
        unfold csq
        rw [Int.natCast_add, ← sq_nat, ← sq_nat]
        grind
      obtain ⟨o, o1, o2⟩ := float_is (k := 1000) (K := 2148) wz (by simp at hlen; omega) (by omega) (by omega) (by simp at hhi; omega) (by omega) hX (by unfold csq; omega)
      have hsq : spec_Square 1000 s1 l1 e1 s2 l2 e2 s3 l3 e3 s4 l4 e4 = some (t7, m7, f7) := by
        simp [spec_Square, spec_Dot, q1, q2, q5, q6, q7]
      have hc0 : csq ax ay bx by_ ≠ 0 := by
        unfold csq
        have : 0 < (ax - bx).natAbs := by omega
        have := Nat.mul_pos this this
        omega
      have hcz : ((csq ax ay bx by_ : Nat) : Int) ≠ 0 := by omega
      have hcb : csq ax ay bx by_ < 2 ^ 1000 := by
        exact Nat.lt_of_lt_of_le (show csq ax ay bx by_ < 2 ^ 50 by unfold csq; omega) (pow_le2 50 1000 (by omega))
      have same : gsqrt o = gsqrt w := gsqrt_read (D_read o2 dw hcz)
      have same' : gsqrt w' = gsqrt w := gsqrt_read (D_read dw' dw hcz)
      obtain ⟨N, dN, _⟩ := gsqrt_near dw hcb
      have n1 : num o = some o := by unfold num; rw [Go.Sx.isn_D o2]; rfl
      have n2 : num (gsqrt w) = some (gsqrt w) := by unfold num; rw [Go.Sx.isn_D dN]; rfl
      have n3 : num (gsub (gsqrt w) (gsqrt w)) = some (gsub (gsqrt w) (gsqrt w)) := by unfold num; rw [Go.Sx.isn_D (near_self dN)]; rfl
      rw [x1, x2]
      simp only [sbind, hsq, o1, n1, math_Sqrt, same, n2, laws_nearTo, n3, abs_is _ _ (gsub_lt _ _), hv', same', laws_FnPlaceDistance_j2]
      rw [D_lt (D_nought (gsub_lt _ _) (near_self dN) 1054) tiny_is]
      rw [show decide ((0 : Int) < 1) = true from rfl, br_true, D_eq dN dN]
      simp
end Go.Proofs.Ytnemkhcjmenfnaa
