/-
  The way from a point to a segment, squared, as the program computes it: its parts are nearer than 2^-34 to the true ones. Ours.
-/
import Derived.Test.YtlipjaacncpaoaaRootOf
import Derived.Test.YtlipjaacncpaoaaSquareTo
namespace Go.Proofs.Ytlipjaacncpaoaa
open Go.Sx
open Ieee (signed)
set_option linter.unusedVariables false
set_option linter.unusedSimpArgs false
set_option maxRecDepth 100000

theorem bd_prod {a b A B : Rat} (ha : -A ≤ a ∧ a ≤ A) (hb : -B ≤ b ∧ b ≤ B) : -(A * B) ≤ a * b ∧ a * b ≤ A * B := by
  obtain ⟨h1, h2⟩ := ha
  obtain ⟨h3, h4⟩ := hb
  have a1 := Rat.mul_nonneg (show 0 ≤ A - a by grind) (show 0 ≤ B + b by grind)
  have a2 := Rat.mul_nonneg (show 0 ≤ A + a by grind) (show 0 ≤ B - b by grind)
  have a3 := Rat.mul_nonneg (show 0 ≤ A - a by grind) (show 0 ≤ B - b by grind)
  have a4 := Rat.mul_nonneg (show 0 ≤ A + a by grind) (show 0 ≤ B + b by grind)
  constructor <;> grind
/-- 2^-36 -/
abbrev e36 : Rat := 1 / 68719476736
/-- 2^-34 -/
abbrev e34 : Rat := 1 / 17179869184
theorem mul_near {x y : Nat} {a b : Rat} (hx : Q x a) (hy : Q y b) (h : -65536 ≤ a * b ∧ a * b ≤ 65536) : ∃ r, Q (gmul x y) r ∧ a * b - e36 ≤ r ∧ r ≤ a * b + e36 := by
  have hBB : (1099511627776 : Rat) ≤ BB := by decide +kernel
  obtain ⟨e, d, q, he, hd⟩ := gmul_abs hx hy ⟨by grind, by grind⟩
  refine ⟨_, q, ?_⟩
  have h1 := bd_prod h he
  have hu : (65536 : Rat) * uu + uu ≤ e36 := by decide +kernel
  obtain ⟨d1, d2⟩ := hd
  generalize a * b = m at *
  generalize uu = u at *
  generalize e36 = v at *
  grind
theorem add_near {x y : Nat} {a b : Rat} (hx : Q x a) (hy : Q y b) (h : -65536 ≤ a + b ∧ a + b ≤ 65536) : ∃ r, Q (gadd x y) r ∧ a + b - e36 ≤ r ∧ r ≤ a + b + e36 := by
  have hBB : (1099511627776 : Rat) ≤ BB := by decide +kernel
  obtain ⟨e, q, he⟩ := gadd_full hx hy ⟨by grind, by grind⟩
  refine ⟨_, q, ?_⟩
  have h1 := bd_prod h he
  have hu : (65536 : Rat) * uu + uu ≤ e36 := by decide +kernel
  have hu0 := uu_pos
  generalize uu = u at *
  generalize e36 = v at *
  grind
theorem sub_near {x y : Nat} {a b : Rat} (hx : Q x a) (hy : Q y b) (h : -65536 ≤ a - b ∧ a - b ≤ 65536) : ∃ r, Q (gsub x y) r ∧ a - b - e36 ≤ r ∧ r ≤ a - b + e36 := by
  have hBB : (1099511627776 : Rat) ≤ BB := by decide +kernel
  obtain ⟨e, q, he⟩ := gsub_full hx hy ⟨by grind, by grind⟩
  refine ⟨_, q, ?_⟩
  have h1 := bd_prod h he
  have hu : (65536 : Rat) * uu + uu ≤ e36 := by decide +kernel
  have hu0 := uu_pos
  generalize uu = u at *
  generalize e36 = v at *
  grind
/-- the square of a sum of squares, as it is computed -/
theorem sq_end {x y : Nat} {u v : Rat} (hx : Q x u) (hy : Q y v) (hu : -65536 ≤ u ∧ u ≤ 65536) (hv : -65536 ≤ v ∧ v ≤ 65536) :
    ∃ φ, Q (gadd (gmul x x) (gmul y y)) φ ∧ u * u + v * v ≤ φ * (1 + 8 * uu) + 8 * uu := by
  have hBB : (1099511627776 : Rat) ≤ BB := by decide +kernel
  have u2 := bd_prod hu hu
  have v2 := bd_prod hv hv
  have u0 : 0 ≤ u * u := by
    rcases (show 0 ≤ u ∨ 0 ≤ -u by grind) with h | h
    · exact Rat.mul_nonneg h h
    · have := Rat.mul_nonneg h h; grind
  have v0 : 0 ≤ v * v := by
    rcases (show 0 ≤ v ∨ 0 ≤ -v by grind) with h | h
    · exact Rat.mul_nonneg h h
    · have := Rat.mul_nonneg h h; grind
  obtain ⟨e1, d1, q1, he1, hd1⟩ := gmul_abs hx hx ⟨by grind, by grind⟩
  obtain ⟨e2, d2, q2, he2, hd2⟩ := gmul_abs hy hy ⟨by grind, by grind⟩
  have b1 := bd_prod (A := 4294967296) (a := u * u) ⟨by grind, by grind⟩ he1
  have b2 := bd_prod (A := 4294967296) (a := v * v) ⟨by grind, by grind⟩ he2
  have hu1 : (4294967296 : Rat) * uu ≤ 1 := by decide +kernel
  have hu2 : uu ≤ 1 := by decide +kernel
  obtain ⟨p1, p2⟩ := hd1
  obtain ⟨p3, p4⟩ := hd2
  obtain ⟨A, hA⟩ : ∃ A, A = u * u * (1 + e1) + d1 := ⟨_, rfl⟩
  obtain ⟨B, hB⟩ : ∃ B, B = v * v * (1 + e2) + d2 := ⟨_, rfl⟩
  rw [← hA] at q1
  rw [← hB] at q2
  have hA1 : -2 ≤ A ∧ A ≤ 4294967296 + 2 := by
    generalize u * u = X at *
    generalize uu = w at *
    grind
  have hB1 : -2 ≤ B ∧ B ≤ 4294967296 + 2 := by
    generalize v * v = X at *
    generalize uu = w at *
    grind
  obtain ⟨e3, q3, he3⟩ := gadd_full q1 q2 ⟨by grind, by grind⟩
  refine ⟨_, q3, ?_⟩
  -- u u (1 - uu) - uu <= A
  have c1 : u * u * (1 - uu) - uu ≤ A := by
    have := Rat.mul_nonneg u0 (show 0 ≤ e1 + uu by have := he1.1; grind)
    generalize u * u = X at *
    generalize uu = w at *
    grind
  have c2 : v * v * (1 - uu) - uu ≤ B := by
    have := Rat.mul_nonneg v0 (show 0 ≤ e2 + uu by have := he2.1; grind)
    generalize v * v = X at *
    generalize uu = w at *
    grind
  generalize u * u = X at *
  generalize v * v = Y at *
  -- S = A + B >= (X+Y)(1-uu) - 2uu, and S (1+e3) (1 + 8uu) >= ...
  have c3 : (X + Y) * (1 - uu) - 2 * uu ≤ A + B := by generalize uu = w at *; grind
  obtain ⟨l1, l2⟩ := he3
  have c4 : 0 ≤ X + Y := by grind
  clear hA1 hB1 c1 c2 b1 b2 u0 v0 u2 v2 hA hB q1 q2 q3 hx hy hBB he1 he2 hu hv p1 p2 p3 p4
  generalize A + B = S at *
  generalize X + Y = Z at *
  rcases (show 0 ≤ S ∨ S ≤ 0 by grind) with h | h
  · have m1 := Rat.mul_nonneg h (show 0 ≤ e3 + uu by grind)
    have m2 : S * (1 - uu) ≤ S * (1 + e3) := by generalize uu = w at *; grind
    generalize S * (1 + e3) = F at *
    grind
  · have m1 := Rat.mul_nonneg (show 0 ≤ -S by grind) (show 0 ≤ uu - e3 by grind)
    have m2 : S * (1 + uu) ≤ S * (1 + e3) := by generalize uu = w at *; grind
    generalize S * (1 + e3) = F at *
    grind

theorem tail_is (k : Nat) {p0 p1 x2 x3 : Nat} {tp : List Nat} {px py X Y : Rat} (qx : Q p0 px) (qy : Q p1 py) (qX : Q x2 X) (qY : Q x3 Y)
    (h1 : -65000 ≤ px - X ∧ px - X ≤ 65000) (h2 : -65000 ≤ py - Y ∧ py - Y ≤ 65000) :
    ∃ w φ u v, xy_distanceFromSegmentSquared_j2 k (p0 :: p1 :: tp) x2 x3 = some w ∧ Q w φ ∧ u * u + v * v ≤ φ * (1 + 8 * uu) + 8 * uu ∧
      (px - X - e36 ≤ u ∧ u ≤ px - X + e36) ∧ (py - Y - e36 ≤ v ∧ v ≤ py - Y + e36) := by
  obtain ⟨u, q1, u1, u2⟩ := sub_near qx qX ⟨by grind, by grind⟩
  obtain ⟨v, q2, v1, v2⟩ := sub_near qy qY ⟨by grind, by grind⟩
  obtain ⟨φ, q3, f1⟩ := sq_end q1 q2 ⟨by grind, by grind⟩ ⟨by grind, by grind⟩
  have i0 : idx (p0 :: p1 :: tp) 0 = some p0 := rfl
  have i1 : idx (p0 :: p1 :: tp) 1 = some p1 := rfl
  unfold xy_distanceFromSegmentSquared_j2
  simp only [i0, i1, sbind]
  exact ⟨_, φ, u, v, rfl, q3, f1, ⟨u1, u2⟩, ⟨v1, v2⟩⟩
/-- where the nearest point lies -/
def Way (ax ay bx by_ px py : Int) (u v : Rat) : Prop :=
  ((lenZ ax ay bx by_ = 0 ∨ dotZ ax ay bx by_ px py ≤ 0) → u = ((px - ax : Int) : Rat) ∧ v = ((py - ay : Int) : Rat)) ∧
  (0 < dotZ ax ay bx by_ px py → lenZ ax ay bx by_ ≤ dotZ ax ay bx by_ px py → u = ((px - bx : Int) : Rat) ∧ v = ((py - by_ : Int) : Rat)) ∧
  (0 < dotZ ax ay bx by_ px py → dotZ ax ay bx by_ px py < lenZ ax ay bx by_ → ∃ f : Rat, f * (lenZ ax ay bx by_ : Int) = (dotZ ax ay bx by_ px py : Int) ∧ u = ((px - ax : Int) : Rat) - f * ((bx - ax : Int) : Rat) ∧ v = ((py - ay : Int) : Rat) - f * ((by_ - ay : Int) : Rat))
theorem rat_bd {n : Int} {b : Nat} (h : n.natAbs ≤ b) : -(b : Rat) ≤ (n : Rat) ∧ (n : Rat) ≤ b := by
  have h1 := Rat.intCast_le_intCast.2 (show -(b : Int) ≤ n by omega)
  have h2 := Rat.intCast_le_intCast.2 (show n ≤ (b : Int) by omega)
  rw [Rat.intCast_neg, Rat.intCast_natCast] at h1
  rw [Rat.intCast_natCast] at h2
  exact ⟨h1, h2⟩
theorem prod_bd {a b : Int} {m n : Nat} (h : a.natAbs ≤ m) (h' : b.natAbs ≤ n) : (a * b).natAbs ≤ m * n := by rw [Int.natAbs_mul]; exact Nat.mul_le_mul h h'
theorem int_lt_rat {m n : Int} (h : m < n) : (m : Rat) + 1 ≤ (n : Rat) := by
  have := Rat.intCast_le_intCast.2 (show m + 1 ≤ n by omega)
  rw [Rat.intCast_add] at this; exact this
theorem int_le_rat {m n : Int} (h : m ≤ n) : (m : Rat) ≤ (n : Rat) := Rat.intCast_le_intCast.2 h
theorem near_point {ax dx r70 X f T e : Rat} (hdx : -16384 ≤ dx ∧ dx ≤ 16384) (hf : 0 ≤ f ∧ f ≤ 1) (hT : T = f * (1 + e)) (he : Sm e (3 * uu))
    (h1 : dx * T - e36 ≤ r70 ∧ r70 ≤ dx * T + e36) (h2 : ax + r70 - e36 ≤ X ∧ X ≤ ax + r70 + e36) : ax + f * dx - 3 * e36 ≤ X ∧ X ≤ ax + f * dx + 3 * e36 := by
  have h3 := bd_prod (a := f) (A := 1) ⟨by grind, hf.2⟩ he
  have h4 := bd_prod hdx h3
  have h5 : 16384 * (1 * (3 * uu)) ≤ e36 := by decide +kernel
  have h6 : dx * T = f * dx + dx * (f * e) := by rw [hT]; grind
  rw [h6] at h1
  generalize dx * (f * e) = g at *
  generalize f * dx = h at *
  grind
end Go.Proofs.Ytlipjaacncpaoaa
