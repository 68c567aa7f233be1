/-
  The eight extreme places of a row: what the program finds, and what the law reckons. Ours.
-/
import Derived.Test.YtlipjaacncpaoaaFlatTo
namespace Go.Proofs.Ytlipjaacncpaoaa
open Go.Sx
set_option linter.unusedVariables false
set_option linter.unusedSimpArgs false
set_option linter.unusedSectionVars false
set_option maxRecDepth 100000

def best (key : Nat → Int) : Nat → Nat
  | 0 => 0
  | i + 1 => if key (best key i) < key (i + 1) then i + 1 else best key i
theorem best_le (key : Nat → Int) : ∀ i, best key i ≤ i
  | 0 => Nat.le_refl _
  | i + 1 => by unfold best; split <;> have := best_le key i <;> omega

structure Row (a : List Nat) (w T : Nat) (X Y : Nat → Int) : Prop where
  w2 : 2 ≤ w
  w8 : w ≤ 8
  T0 : 1 ≤ T
  T60 : T ≤ 60
  len : a.length = T * w
  x : ∀ i, i < T → ∃ v, a[i * w]? = some v ∧ D v (X i) 1074
  y : ∀ i, i < T → ∃ v, a[i * w + 1]? = some v ∧ D v (Y i) 1074
  bx : ∀ i, i < T → (X i).natAbs ≤ 16777216
  by_ : ∀ i, i < T → (Y i).natAbs ≤ 16777216
variable {a : List Nat} {w T : Nat} {X Y : Nat → Int}
theorem Row.small (h : Row a w T X Y) : a.length ≤ 480 := by
  rw [h.len]; have := Nat.mul_le_mul h.T60 h.w8; omega
theorem Row.at (h : Row a w T X Y) {i j : Nat} (hi : i < T) (hj : j < w) : i * w + j < a.length := by
  rw [h.len]
  have := Nat.mul_le_mul_right w (show i + 1 ≤ T by omega)
  rw [Nat.add_mul, Nat.one_mul] at this; omega

theorem copyl {F : Nat → (List Nat × Int) → Option (List Nat)} (a : List Nat) (w src off N : Nat)
    (step : ∀ k x (j : Nat), j < w → F (k + 1) (x, (j : Int)) = (idx a ((src + j : Nat) : Int) >>= fun r => idx x ((off + j : Nat) : Int) >>= fun _ => F k (x.set (off + j) r, ((j + 1 : Nat) : Int))))
    (stop : ∀ k x, F (k + 1) (x, (w : Int)) = some x) (hs : src + w ≤ a.length) (ho : off + w ≤ N) : ∀ (n j k : Nat) (x : List Nat), w - j = n → n < k → j ≤ w → x.length = N →
    ∃ y, F k (x, (j : Int)) = some y ∧ y.length = N ∧ (∀ q, j ≤ q → q < w → y[off + q]? = a[src + q]?) ∧ ∀ q, (q < off + j ∨ off + w ≤ q) → y[q]? = x[q]? := by
  intro n
  induction n with
  | zero =>
    intro j k x hn hk hj hx
    obtain ⟨k, rfl⟩ : ∃ j, k = j + 1 := ⟨k - 1, by omega⟩
    obtain rfl : j = w := by omega
    exact ⟨x, stop k x, hx, fun q h1 h2 => by omega, fun _ _ => rfl⟩
  | succ n ih =>
    intro j k x hn hk hj hx
    obtain ⟨k, rfl⟩ : ∃ j, k = j + 1 := ⟨k - 1, by omega⟩
    have h1 : src + j < a.length := by omega
    have h2 : off + j < x.length := by omega
    rw [step k x j (by omega), idx_get h1, sbind, idx_get h2, sbind]
    obtain ⟨y, y1, y2, y3, y4⟩ := ih (j + 1) k (x.set (off + j) a[src + j]) (by omega) (by omega) (by omega) (by rw [List.length_set]; exact hx)
    refine ⟨y, y1, y2, fun q hq1 hq2 => ?_, fun q hq => ?_⟩
    · by_cases e : q = j
      · subst e
        rw [y4 (off + q) (by omega), List.getElem?_set_self h2, List.getElem?_eq_getElem h1]
      · exact y3 q (by omega) hq2
    · rw [y4 q (by omega), List.getElem?_set_ne (by omega)]

def Inv (a : List Nat) (w : Nat) (b : Nat → Nat) (p : List Nat) : Prop := p.length = 8 * w ∧ ∀ m, m < 8 → ∀ j, j < w → p[m * w + j]? = a[b m * w + j]?
def upd (b : Nat → Nat) (m i : Nat) : Nat → Nat := fun q => if q = m then i else b q
theorem inv_copy {b : Nat → Nat} {p y : List Nat} {m i : Nat} (hm : m < 8) (h : Inv a w b p) (hl : y.length = 8 * w) (h1 : ∀ q, 0 ≤ q → q < w → y[m * w + q]? = a[i * w + q]?) (h2 : ∀ q, (q < m * w + 0 ∨ m * w + w ≤ q) → y[q]? = p[q]?) : Inv a w (upd b m i) y := by
  refine ⟨hl, fun m' hm' j hj => ?_⟩
  unfold upd
  by_cases e : m' = m
  · subst e; rw [if_pos rfl]; exact h1 j (Nat.zero_le _) hj
  · rw [if_neg e, h2, h.2 m' hm' j hj]
    rcases Nat.lt_or_gt_of_ne e with h3 | h3
    · left
      have := Nat.mul_le_mul_right w (show m' + 1 ≤ m by omega)
      rw [Nat.add_mul, Nat.one_mul] at this; omega
    · right
      have := Nat.mul_le_mul_right w (show m + 1 ≤ m' by omega)
      rw [Nat.add_mul, Nat.one_mul] at this; omega
theorem Inv.len {b : Nat → Nat} {p : List Nat} (h : Inv a w b p) {m j : Nat} (hm : m < 8) (hj : j < w) : m * w + j < p.length := by
  rw [h.1]
  have := Nat.mul_le_mul_right w (show m + 1 ≤ 8 by omega)
  rw [Nat.add_mul, Nat.one_mul] at this; omega
theorem Inv.xy (hr : Row a w T X Y) {b : Nat → Nat} {p : List Nat} (h : Inv a w b p) {m : Nat} (hm : m < 8) (hb : b m < T) :
    ∃ u v, idx p ((m * w : Nat) : Int) = some u ∧ D u (X (b m)) 1074 ∧ idx p ((m * w + 1 : Nat) : Int) = some v ∧ D v (Y (b m)) 1074 := by
  obtain ⟨u, u1, u2⟩ := hr.x (b m) hb
  obtain ⟨v, v1, v2⟩ := hr.y (b m) hb
  have w2 := hr.w2
  refine ⟨u, v, ?_, u2, ?_, v2⟩
  · rw [idx_nat, ← Nat.add_zero (m * w), h.2 m hm 0 (by omega), Nat.add_zero]; exact u1
  · rw [idx_nat, h.2 m hm 1 (by omega)]; exact v1
theorem Row.xy (hr : Row a w T X Y) {i : Nat} (hi : i < T) : ∃ u v, idx a ((i * w : Nat) : Int) = some u ∧ D u (X i) 1074 ∧ idx a ((i * w + 1 : Nat) : Int) = some v ∧ D v (Y i) 1074 := by
  obtain ⟨u, u1, u2⟩ := hr.x i hi
  obtain ⟨v, v1, v2⟩ := hr.y i hi
  exact ⟨u, v, by rw [idx_nat]; exact u1, u2, by rw [idx_nat]; exact v1, v2⟩

/-! #### the program: eight comparisons a place -/
def dirs : List (Int × Int) := [(-1, 0), (-1, 1), (0, 1), (1, 1), (1, 0), (1, -1), (0, -1), (-1, -1)]
def key (X Y : Nat → Int) (m i : Nat) : Int := ((dirs.getD m (0, 0)).1) * X i + ((dirs.getD m (0, 0)).2) * Y i
def turnb (X Y : Nat → Int) (i m : Nat) (b : Nat → Nat) : Nat → Nat := if key X Y m (b m) < key X Y m i then upd b m i else b
theorem fadd_D {x y : Nat} {a b : Int} (hx : D x a 1074) (hy : D y b 1074) (h : (a + b).natAbs ≤ 2 ^ 53) : ∃ z, fadd x y = some z ∧ D z (a + b) 1074 := D_sum hx hy rfl h (by decide)
theorem fsub_D {x y : Nat} {a b : Int} (hx : D x a 1074) (hy : D y b 1074) (h : (a - b).natAbs ≤ 2 ^ 53) : ∃ z, fsub x y = some z ∧ D z (a - b) 1074 := D_sub hx hy rfl h (by decide)

section
variable (hr : Row a w T X Y) {i : Nat} (hi : i < T) {k : Nat} (hk : 9 < k) {p : List Nat} {b : Nat → Nat} (hp : Inv a w b p) (hb : ∀ m, m < 8 → b m < T)
  {rec20 : (List Nat × Int) → Option (List Nat)} {Po : Option (List Nat) → Prop}
include hr hi hk hp hb
theorem mulw (m : Nat) (hm : m ≤ 8) : imul .i64 (m : Int) (w : Int) = ((m * w : Nat) : Int) := by
  have h8 := hr.w8
  have h1 : m * w ≤ 8 * 8 := Nat.mul_le_mul hm h8
  have h2 : (m : Int) * (w : Int) = ((m * w : Nat) : Int) := by push_cast; rfl
  rw [imul_i64 (by omega) (by omega), h2]
theorem addw {x y : Nat} (h : x + y ≤ 1000) : iadd .i64 (x : Int) (y : Int) = ((x + y : Nat) : Int) := by
  rw [iadd_i64 (by omega) (by omega)]; omega
theorem copy_at (m : Nat) (hm : m < 8) {F : Nat → (List Nat × Int) → Option (List Nat)}
    (step : ∀ k x (j : Nat), j < w → F (k + 1) (x, (j : Int)) = (idx a ((i * w + j : Nat) : Int) >>= fun r => idx x ((m * w + j : Nat) : Int) >>= fun _ => F k (x.set (m * w + j) r, ((j + 1 : Nat) : Int))))
    (stop : ∀ k x, F (k + 1) (x, (w : Int)) = some x) : ∃ y, F k (p, 0) = some y ∧ Inv a w (upd b m i) y := by
  have h8 := hr.w8
  have h2 := hr.w2
  obtain ⟨y, y1, y2, y3, y4⟩ := copyl (F := F) a w (i * w) (m * w) (8 * w) step stop (by have := hr.at hi (show w - 1 < w by omega); omega) (by have := hp.len hm (show w - 1 < w by omega); rw [hp.1] at this; omega) w 0 k p (by omega) (by omega) (by omega) hp.1
  exact ⟨y, y1, inv_copy hm hp y2 y3 y4⟩
theorem ph7 (hn : ∀ p', Inv a w (turnb X Y i 7 b) p' → Po (rec20 (p', ((i * w + w : Nat) : Int)))) :
    Po (xy_convexHullCalculator_computeOctPts_j15 k a ((i * w : Nat) : Int) (w : Int) rec20 p) := by
  have hs := hr.small
  have h2 := hr.w2
  have hw8 := hr.w8
  have hil := hr.at hi (show w - 1 < w by omega)
  obtain ⟨u, v, a1, a2, a3, a4⟩ := hr.xy hi
  obtain ⟨u', v', b1, b2, b3, b4⟩ := hp.xy hr (show 7 < 8 by decide) (hb 7 (by decide))
  have x1 := hr.bx i hi
  have x2 := hr.by_ i hi
  have x3 := hr.bx (b 7) (hb 7 (by decide))
  have x4 := hr.by_ (b 7) (hb 7 (by decide))
  have c1 : ((1 : Nat) : Int) = 1 := rfl
  have o1 := addw hr hi hk hp hb (x := i * w) (y := 1) (by omega)
  have o3 := addw hr hi hk hp hb (x := i * w) (y := w) (by omega)
  obtain ⟨s1, e1, d1⟩ := fadd_D a2 a4 (by omega)
  obtain ⟨s2, e2, d2⟩ := fadd_D b2 b4 (by omega)
  have cm : ((7 : Nat) : Int) = 7 := rfl
  have mm := mulw hr hi hk hp hb 7 (by decide)
  rw [cm] at mm
  have o2 := addw hr hi hk hp hb (x := 7 * w) (y := 1) (by omega)
  rw [c1] at o1 o2
  unfold xy_convexHullCalculator_computeOctPts_j15
  rw [a1, sbind, o1, a3, sbind, e1, sbind, mm, b1, sbind, o2, b3, sbind, e2, sbind, D_lt d1 d2]
  have hkey : (key X Y 7 (b 7) < key X Y 7 i) ↔ (X i + Y i < X (b 7) + Y (b 7)) := by
    show (-1) * X (b 7) + (-1) * Y (b 7) < (-1) * X i + (-1) * Y i ↔ _
    omega
  have hend : ∀ p', Inv a w (turnb X Y i 7 b) p' → Po (xy_convexHullCalculator_computeOctPts_j16 k rec20 ((i * w : Nat) : Int) (w : Int) p') := fun p' h => by
    unfold xy_convexHullCalculator_computeOctPts_j16
    rw [o3]; exact hn p' h
  by_cases hc : X i + Y i < X (b 7) + Y (b 7)
  · rw [decide_eq_true hc, br_true]
    obtain ⟨y, y1, y2⟩ := copy_at hr hi hk hp hb 7 (by decide) (F := xy_convexHullCalculator_computeOctPts_l19 (w : Int) a ((i * w : Nat) : Int)) (fun k x j hj => by
      have hij := hr.at hi hj
      have q1 := addw hr hi hk hp hb (x := i * w) (y := j) (by omega)
      have q2 := addw hr hi hk hp hb (x := 7 * w) (y := j) (by omega)
      have q3 := addw hr hi hk hp hb (x := j) (y := 1) (by omega)
      rw [c1] at q3
      simp only [xy_convexHullCalculator_computeOctPts_l19, xy_convexHullCalculator_computeOctPts_l19s, lt_true hj, br_true, q1, q2, q3, mm]
      rfl) (fun k x => by simp only [xy_convexHullCalculator_computeOctPts_l19, xy_convexHullCalculator_computeOctPts_l19s, lt_false (Nat.lt_irrefl _), br_false])
    rw [y1, sbind]
    exact hend y (by unfold turnb; rw [if_pos (hkey.2 hc)]; exact y2)
  · rw [decide_eq_false hc, br_false]
    exact hend p (by unfold turnb; rw [if_neg (fun h => hc (hkey.1 h))]; exact hp)
theorem ph6 (hn : ∀ p', Inv a w (turnb X Y i 6 b) p' → Po (xy_convexHullCalculator_computeOctPts_j15 k a ((i * w : Nat) : Int) (w : Int) rec20 p')) :
    Po (xy_convexHullCalculator_computeOctPts_j14 k a ((i * w : Nat) : Int) (w : Int) rec20 p) := by
  have hs := hr.small
  have h2 := hr.w2
  have hw8 := hr.w8
  have hil := hr.at hi (show w - 1 < w by omega)
  obtain ⟨u, v, a1, a2, a3, a4⟩ := hr.xy hi
  obtain ⟨u', v', b1, b2, b3, b4⟩ := hp.xy hr (show 6 < 8 by decide) (hb 6 (by decide))
  have x1 := hr.bx i hi
  have x2 := hr.by_ i hi
  have x3 := hr.bx (b 6) (hb 6 (by decide))
  have x4 := hr.by_ (b 6) (hb 6 (by decide))
  have c1 : ((1 : Nat) : Int) = 1 := rfl
  have o1 := addw hr hi hk hp hb (x := i * w) (y := 1) (by omega)
  have o3 := addw hr hi hk hp hb (x := i * w) (y := w) (by omega)
  have cm : ((6 : Nat) : Int) = 6 := rfl
  have mm := mulw hr hi hk hp hb 6 (by decide)
  rw [cm] at mm
  have o2 := addw hr hi hk hp hb (x := 6 * w) (y := 1) (by omega)
  rw [c1] at o1 o2
  unfold xy_convexHullCalculator_computeOctPts_j14
  rw [o1, a3, sbind, mm, o2, b3, sbind, D_lt a4 b4]
  have hkey : (key X Y 6 (b 6) < key X Y 6 i) ↔ (Y i < Y (b 6)) := by
    show (0) * X (b 6) + (-1) * Y (b 6) < (0) * X i + (-1) * Y i ↔ _
    omega
  have hend := hn
  by_cases hc : Y i < Y (b 6)
  · rw [decide_eq_true hc, br_true]
    obtain ⟨y, y1, y2⟩ := copy_at hr hi hk hp hb 6 (by decide) (F := xy_convexHullCalculator_computeOctPts_l18 (w : Int) a ((i * w : Nat) : Int)) (fun k x j hj => by
      have hij := hr.at hi hj
      have q1 := addw hr hi hk hp hb (x := i * w) (y := j) (by omega)
      have q2 := addw hr hi hk hp hb (x := 6 * w) (y := j) (by omega)
      have q3 := addw hr hi hk hp hb (x := j) (y := 1) (by omega)
      rw [c1] at q3
      simp only [xy_convexHullCalculator_computeOctPts_l18, xy_convexHullCalculator_computeOctPts_l18s, lt_true hj, br_true, q1, q2, q3, mm]
      rfl) (fun k x => by simp only [xy_convexHullCalculator_computeOctPts_l18, xy_convexHullCalculator_computeOctPts_l18s, lt_false (Nat.lt_irrefl _), br_false])
    rw [y1, sbind]
    exact hend y (by unfold turnb; rw [if_pos (hkey.2 hc)]; exact y2)
  · rw [decide_eq_false hc, br_false]
    exact hend p (by unfold turnb; rw [if_neg (fun h => hc (hkey.1 h))]; exact hp)
theorem ph5 (hn : ∀ p', Inv a w (turnb X Y i 5 b) p' → Po (xy_convexHullCalculator_computeOctPts_j14 k a ((i * w : Nat) : Int) (w : Int) rec20 p')) :
    Po (xy_convexHullCalculator_computeOctPts_j13 k a ((i * w : Nat) : Int) (w : Int) rec20 p) := by
  have hs := hr.small
  have h2 := hr.w2
  have hw8 := hr.w8
  have hil := hr.at hi (show w - 1 < w by omega)
  obtain ⟨u, v, a1, a2, a3, a4⟩ := hr.xy hi
  obtain ⟨u', v', b1, b2, b3, b4⟩ := hp.xy hr (show 5 < 8 by decide) (hb 5 (by decide))
  have x1 := hr.bx i hi
  have x2 := hr.by_ i hi
  have x3 := hr.bx (b 5) (hb 5 (by decide))
  have x4 := hr.by_ (b 5) (hb 5 (by decide))
  have c1 : ((1 : Nat) : Int) = 1 := rfl
  have o1 := addw hr hi hk hp hb (x := i * w) (y := 1) (by omega)
  have o3 := addw hr hi hk hp hb (x := i * w) (y := w) (by omega)
  obtain ⟨s1, e1, d1⟩ := fsub_D a2 a4 (by omega)
  obtain ⟨s2, e2, d2⟩ := fsub_D b2 b4 (by omega)
  have cm : ((5 : Nat) : Int) = 5 := rfl
  have mm := mulw hr hi hk hp hb 5 (by decide)
  rw [cm] at mm
  have o2 := addw hr hi hk hp hb (x := 5 * w) (y := 1) (by omega)
  rw [c1] at o1 o2
  unfold xy_convexHullCalculator_computeOctPts_j13
  rw [a1, sbind, o1, a3, sbind, e1, sbind, mm, b1, sbind, o2, b3, sbind, e2, sbind, D_gt d1 d2]
  have hkey : (key X Y 5 (b 5) < key X Y 5 i) ↔ (X (b 5) - Y (b 5) < X i - Y i) := by
    show (1) * X (b 5) + (-1) * Y (b 5) < (1) * X i + (-1) * Y i ↔ _
    omega
  have hend := hn
  by_cases hc : X (b 5) - Y (b 5) < X i - Y i
  · rw [decide_eq_true hc, br_true]
    obtain ⟨y, y1, y2⟩ := copy_at hr hi hk hp hb 5 (by decide) (F := xy_convexHullCalculator_computeOctPts_l17 (w : Int) a ((i * w : Nat) : Int)) (fun k x j hj => by
      have hij := hr.at hi hj
      have q1 := addw hr hi hk hp hb (x := i * w) (y := j) (by omega)
      have q2 := addw hr hi hk hp hb (x := 5 * w) (y := j) (by omega)
      have q3 := addw hr hi hk hp hb (x := j) (y := 1) (by omega)
      rw [c1] at q3
      simp only [xy_convexHullCalculator_computeOctPts_l17, xy_convexHullCalculator_computeOctPts_l17s, lt_true hj, br_true, q1, q2, q3, mm]
      rfl) (fun k x => by simp only [xy_convexHullCalculator_computeOctPts_l17, xy_convexHullCalculator_computeOctPts_l17s, lt_false (Nat.lt_irrefl _), br_false])
    rw [y1, sbind]
    exact hend y (by unfold turnb; rw [if_pos (hkey.2 hc)]; exact y2)
  · rw [decide_eq_false hc, br_false]
    exact hend p (by unfold turnb; rw [if_neg (fun h => hc (hkey.1 h))]; exact hp)
theorem ph4 (hn : ∀ p', Inv a w (turnb X Y i 4 b) p' → Po (xy_convexHullCalculator_computeOctPts_j13 k a ((i * w : Nat) : Int) (w : Int) rec20 p')) :
    Po (xy_convexHullCalculator_computeOctPts_j12 k a ((i * w : Nat) : Int) (w : Int) rec20 p) := by
  have hs := hr.small
  have h2 := hr.w2
  have hw8 := hr.w8
  have hil := hr.at hi (show w - 1 < w by omega)
  obtain ⟨u, v, a1, a2, a3, a4⟩ := hr.xy hi
  obtain ⟨u', v', b1, b2, b3, b4⟩ := hp.xy hr (show 4 < 8 by decide) (hb 4 (by decide))
  have x1 := hr.bx i hi
  have x2 := hr.by_ i hi
  have x3 := hr.bx (b 4) (hb 4 (by decide))
  have x4 := hr.by_ (b 4) (hb 4 (by decide))
  have c1 : ((1 : Nat) : Int) = 1 := rfl
  have o1 := addw hr hi hk hp hb (x := i * w) (y := 1) (by omega)
  have o3 := addw hr hi hk hp hb (x := i * w) (y := w) (by omega)
  have cm : ((4 : Nat) : Int) = 4 := rfl
  have mm := mulw hr hi hk hp hb 4 (by decide)
  rw [cm] at mm
  have o2 := addw hr hi hk hp hb (x := 4 * w) (y := 1) (by omega)
  rw [c1] at o1 o2
  unfold xy_convexHullCalculator_computeOctPts_j12
  rw [a1, sbind, mm, b1, sbind, D_gt a2 b2]
  have hkey : (key X Y 4 (b 4) < key X Y 4 i) ↔ (X (b 4) < X i) := by
    show (1) * X (b 4) + (0) * Y (b 4) < (1) * X i + (0) * Y i ↔ _
    omega
  have hend := hn
  by_cases hc : X (b 4) < X i
  · rw [decide_eq_true hc, br_true]
    obtain ⟨y, y1, y2⟩ := copy_at hr hi hk hp hb 4 (by decide) (F := xy_convexHullCalculator_computeOctPts_l16 (w : Int) a ((i * w : Nat) : Int)) (fun k x j hj => by
      have hij := hr.at hi hj
      have q1 := addw hr hi hk hp hb (x := i * w) (y := j) (by omega)
      have q2 := addw hr hi hk hp hb (x := 4 * w) (y := j) (by omega)
      have q3 := addw hr hi hk hp hb (x := j) (y := 1) (by omega)
      rw [c1] at q3
      simp only [xy_convexHullCalculator_computeOctPts_l16, xy_convexHullCalculator_computeOctPts_l16s, lt_true hj, br_true, q1, q2, q3, mm]
      rfl) (fun k x => by simp only [xy_convexHullCalculator_computeOctPts_l16, xy_convexHullCalculator_computeOctPts_l16s, lt_false (Nat.lt_irrefl _), br_false])
    rw [y1, sbind]
    exact hend y (by unfold turnb; rw [if_pos (hkey.2 hc)]; exact y2)
  · rw [decide_eq_false hc, br_false]
    exact hend p (by unfold turnb; rw [if_neg (fun h => hc (hkey.1 h))]; exact hp)
theorem ph3 (hn : ∀ p', Inv a w (turnb X Y i 3 b) p' → Po (xy_convexHullCalculator_computeOctPts_j12 k a ((i * w : Nat) : Int) (w : Int) rec20 p')) :
    Po (xy_convexHullCalculator_computeOctPts_j11 k a ((i * w : Nat) : Int) (w : Int) rec20 p) := by
  have hs := hr.small
  have h2 := hr.w2
  have hw8 := hr.w8
  have hil := hr.at hi (show w - 1 < w by omega)
  obtain ⟨u, v, a1, a2, a3, a4⟩ := hr.xy hi
  obtain ⟨u', v', b1, b2, b3, b4⟩ := hp.xy hr (show 3 < 8 by decide) (hb 3 (by decide))
  have x1 := hr.bx i hi
  have x2 := hr.by_ i hi
  have x3 := hr.bx (b 3) (hb 3 (by decide))
  have x4 := hr.by_ (b 3) (hb 3 (by decide))
  have c1 : ((1 : Nat) : Int) = 1 := rfl
  have o1 := addw hr hi hk hp hb (x := i * w) (y := 1) (by omega)
  have o3 := addw hr hi hk hp hb (x := i * w) (y := w) (by omega)
  obtain ⟨s1, e1, d1⟩ := fadd_D a2 a4 (by omega)
  obtain ⟨s2, e2, d2⟩ := fadd_D b2 b4 (by omega)
  have cm : ((3 : Nat) : Int) = 3 := rfl
  have mm := mulw hr hi hk hp hb 3 (by decide)
  rw [cm] at mm
  have o2 := addw hr hi hk hp hb (x := 3 * w) (y := 1) (by omega)
  rw [c1] at o1 o2
  unfold xy_convexHullCalculator_computeOctPts_j11
  rw [a1, sbind, o1, a3, sbind, e1, sbind, mm, b1, sbind, o2, b3, sbind, e2, sbind, D_gt d1 d2]
  have hkey : (key X Y 3 (b 3) < key X Y 3 i) ↔ (X (b 3) + Y (b 3) < X i + Y i) := by
    show (1) * X (b 3) + (1) * Y (b 3) < (1) * X i + (1) * Y i ↔ _
    omega
  have hend := hn
  by_cases hc : X (b 3) + Y (b 3) < X i + Y i
  · rw [decide_eq_true hc, br_true]
    obtain ⟨y, y1, y2⟩ := copy_at hr hi hk hp hb 3 (by decide) (F := xy_convexHullCalculator_computeOctPts_l15 (w : Int) a ((i * w : Nat) : Int)) (fun k x j hj => by
      have hij := hr.at hi hj
      have q1 := addw hr hi hk hp hb (x := i * w) (y := j) (by omega)
      have q2 := addw hr hi hk hp hb (x := 3 * w) (y := j) (by omega)
      have q3 := addw hr hi hk hp hb (x := j) (y := 1) (by omega)
      rw [c1] at q3
      simp only [xy_convexHullCalculator_computeOctPts_l15, xy_convexHullCalculator_computeOctPts_l15s, lt_true hj, br_true, q1, q2, q3, mm]
      rfl) (fun k x => by simp only [xy_convexHullCalculator_computeOctPts_l15, xy_convexHullCalculator_computeOctPts_l15s, lt_false (Nat.lt_irrefl _), br_false])
    rw [y1, sbind]
    exact hend y (by unfold turnb; rw [if_pos (hkey.2 hc)]; exact y2)
  · rw [decide_eq_false hc, br_false]
    exact hend p (by unfold turnb; rw [if_neg (fun h => hc (hkey.1 h))]; exact hp)
theorem ph2 (hn : ∀ p', Inv a w (turnb X Y i 2 b) p' → Po (xy_convexHullCalculator_computeOctPts_j11 k a ((i * w : Nat) : Int) (w : Int) rec20 p')) :
    Po (xy_convexHullCalculator_computeOctPts_j10 k a ((i * w : Nat) : Int) (w : Int) rec20 p) := by
  have hs := hr.small
  have h2 := hr.w2
  have hw8 := hr.w8
  have hil := hr.at hi (show w - 1 < w by omega)
  obtain ⟨u, v, a1, a2, a3, a4⟩ := hr.xy hi
  obtain ⟨u', v', b1, b2, b3, b4⟩ := hp.xy hr (show 2 < 8 by decide) (hb 2 (by decide))
  have x1 := hr.bx i hi
  have x2 := hr.by_ i hi
  have x3 := hr.bx (b 2) (hb 2 (by decide))
  have x4 := hr.by_ (b 2) (hb 2 (by decide))
  have c1 : ((1 : Nat) : Int) = 1 := rfl
  have o1 := addw hr hi hk hp hb (x := i * w) (y := 1) (by omega)
  have o3 := addw hr hi hk hp hb (x := i * w) (y := w) (by omega)
  have cm : ((2 : Nat) : Int) = 2 := rfl
  have mm := mulw hr hi hk hp hb 2 (by decide)
  rw [cm] at mm
  have o2 := addw hr hi hk hp hb (x := 2 * w) (y := 1) (by omega)
  rw [c1] at o1 o2
  unfold xy_convexHullCalculator_computeOctPts_j10
  rw [o1, a3, sbind, mm, o2, b3, sbind, D_gt a4 b4]
  have hkey : (key X Y 2 (b 2) < key X Y 2 i) ↔ (Y (b 2) < Y i) := by
    show (0) * X (b 2) + (1) * Y (b 2) < (0) * X i + (1) * Y i ↔ _
    omega
  have hend := hn
  by_cases hc : Y (b 2) < Y i
  · rw [decide_eq_true hc, br_true]
    obtain ⟨y, y1, y2⟩ := copy_at hr hi hk hp hb 2 (by decide) (F := xy_convexHullCalculator_computeOctPts_l14 (w : Int) a ((i * w : Nat) : Int)) (fun k x j hj => by
      have hij := hr.at hi hj
      have q1 := addw hr hi hk hp hb (x := i * w) (y := j) (by omega)
      have q2 := addw hr hi hk hp hb (x := 2 * w) (y := j) (by omega)
      have q3 := addw hr hi hk hp hb (x := j) (y := 1) (by omega)
      rw [c1] at q3
      simp only [xy_convexHullCalculator_computeOctPts_l14, xy_convexHullCalculator_computeOctPts_l14s, lt_true hj, br_true, q1, q2, q3, mm]
      rfl) (fun k x => by simp only [xy_convexHullCalculator_computeOctPts_l14, xy_convexHullCalculator_computeOctPts_l14s, lt_false (Nat.lt_irrefl _), br_false])
    rw [y1, sbind]
    exact hend y (by unfold turnb; rw [if_pos (hkey.2 hc)]; exact y2)
  · rw [decide_eq_false hc, br_false]
    exact hend p (by unfold turnb; rw [if_neg (fun h => hc (hkey.1 h))]; exact hp)
theorem ph1 (hn : ∀ p', Inv a w (turnb X Y i 1 b) p' → Po (xy_convexHullCalculator_computeOctPts_j10 k a ((i * w : Nat) : Int) (w : Int) rec20 p')) :
    Po (xy_convexHullCalculator_computeOctPts_j9 k a ((i * w : Nat) : Int) (w : Int) rec20 p) := by
  have hs := hr.small
  have h2 := hr.w2
  have hw8 := hr.w8
  have hil := hr.at hi (show w - 1 < w by omega)
  obtain ⟨u, v, a1, a2, a3, a4⟩ := hr.xy hi
  obtain ⟨u', v', b1, b2, b3, b4⟩ := hp.xy hr (show 1 < 8 by decide) (hb 1 (by decide))
  have x1 := hr.bx i hi
  have x2 := hr.by_ i hi
  have x3 := hr.bx (b 1) (hb 1 (by decide))
  have x4 := hr.by_ (b 1) (hb 1 (by decide))
  have c1 : ((1 : Nat) : Int) = 1 := rfl
  have o1 := addw hr hi hk hp hb (x := i * w) (y := 1) (by omega)
  have o3 := addw hr hi hk hp hb (x := i * w) (y := w) (by omega)
  obtain ⟨s1, e1, d1⟩ := fsub_D a2 a4 (by omega)
  obtain ⟨s2, e2, d2⟩ := fsub_D b2 b4 (by omega)
  rw [Nat.one_mul] at b1 b3
  have o2 := addw hr hi hk hp hb (x := w) (y := 1) (by omega)
  rw [c1] at o1 o2
  unfold xy_convexHullCalculator_computeOctPts_j9
  rw [a1, sbind, o1, a3, sbind, e1, sbind, b1, sbind, o2, b3, sbind, e2, sbind, D_lt d1 d2]
  have hkey : (key X Y 1 (b 1) < key X Y 1 i) ↔ (X i - Y i < X (b 1) - Y (b 1)) := by
    show (-1) * X (b 1) + (1) * Y (b 1) < (-1) * X i + (1) * Y i ↔ _
    omega
  have hend := hn
  by_cases hc : X i - Y i < X (b 1) - Y (b 1)
  · rw [decide_eq_true hc, br_true]
    obtain ⟨y, y1, y2⟩ := copy_at hr hi hk hp hb 1 (by decide) (F := xy_convexHullCalculator_computeOctPts_l13 (w : Int) a ((i * w : Nat) : Int)) (fun k x j hj => by
      have hij := hr.at hi hj
      have q1 := addw hr hi hk hp hb (x := i * w) (y := j) (by omega)
      have q2 := addw hr hi hk hp hb (x := w) (y := j) (by omega)
      rw [Nat.one_mul]
      have q3 := addw hr hi hk hp hb (x := j) (y := 1) (by omega)
      rw [c1] at q3
      simp only [xy_convexHullCalculator_computeOctPts_l13, xy_convexHullCalculator_computeOctPts_l13s, lt_true hj, br_true, q1, q2, q3]
      rfl) (fun k x => by simp only [xy_convexHullCalculator_computeOctPts_l13, xy_convexHullCalculator_computeOctPts_l13s, lt_false (Nat.lt_irrefl _), br_false])
    rw [y1, sbind]
    exact hend y (by unfold turnb; rw [if_pos (hkey.2 hc)]; exact y2)
  · rw [decide_eq_false hc, br_false]
    exact hend p (by unfold turnb; rw [if_neg (fun h => hc (hkey.1 h))]; exact hp)
theorem ph0 (hn : ∀ p', Inv a w (turnb X Y i 0 b) p' → Po (xy_convexHullCalculator_computeOctPts_j9 k a ((i * w : Nat) : Int) (w : Int) rec20 p')) :
    Po (xy_convexHullCalculator_computeOctPts_l20s a (w : Int) k rec20 p ((i * w : Nat) : Int)) := by
  have hs := hr.small
  have h2 := hr.w2
  have hw8 := hr.w8
  have hil := hr.at hi (show w - 1 < w by omega)
  obtain ⟨u, v, a1, a2, a3, a4⟩ := hr.xy hi
  obtain ⟨u', v', b1, b2, b3, b4⟩ := hp.xy hr (show 0 < 8 by decide) (hb 0 (by decide))
  have x1 := hr.bx i hi
  have x2 := hr.by_ i hi
  have x3 := hr.bx (b 0) (hb 0 (by decide))
  have x4 := hr.by_ (b 0) (hb 0 (by decide))
  have c1 : ((1 : Nat) : Int) = 1 := rfl
  have o1 := addw hr hi hk hp hb (x := i * w) (y := 1) (by omega)
  have o3 := addw hr hi hk hp hb (x := i * w) (y := w) (by omega)
  rw [Nat.zero_mul] at b1
  have b1 : idx p 0 = some u' := b1
  rw [c1] at o1
  unfold xy_convexHullCalculator_computeOctPts_l20s
  rw [lt_true (show i * w < a.length by omega), br_true]
  rw [a1, sbind, b1, sbind, D_lt a2 b2]
  have hkey : (key X Y 0 (b 0) < key X Y 0 i) ↔ (X i < X (b 0)) := by
    show (-1) * X (b 0) + (0) * Y (b 0) < (-1) * X i + (0) * Y i ↔ _
    omega
  have hend := hn
  by_cases hc : X i < X (b 0)
  · rw [decide_eq_true hc, br_true]
    obtain ⟨y, y1, y2⟩ := copy_at hr hi hk hp hb 0 (by decide) (F := xy_convexHullCalculator_computeOctPts_l12 (w : Int) a ((i * w : Nat) : Int)) (fun k x j hj => by
      have hij := hr.at hi hj
      have q1 := addw hr hi hk hp hb (x := i * w) (y := j) (by omega)
      rw [Nat.zero_mul, Nat.zero_add]
      have q3 := addw hr hi hk hp hb (x := j) (y := 1) (by omega)
      rw [c1] at q3
      simp only [xy_convexHullCalculator_computeOctPts_l12, xy_convexHullCalculator_computeOctPts_l12s, lt_true hj, br_true, q1, q3]
      rfl) (fun k x => by simp only [xy_convexHullCalculator_computeOctPts_l12, xy_convexHullCalculator_computeOctPts_l12s, lt_false (Nat.lt_irrefl _), br_false])
    rw [y1, sbind]
    exact hend y (by unfold turnb; rw [if_pos (hkey.2 hc)]; exact y2)
  · rw [decide_eq_false hc, br_false]
    exact hend p (by unfold turnb; rw [if_neg (fun h => hc (hkey.1 h))]; exact hp)
end
end Go.Proofs.Ytlipjaacncpaoaa
