/-
  The centroid of places in a row is near the means: the plain statement. Ours.
-/
import Derived.Test.YtnemkhcjmenfnaaPlaneTo
import Derived.Test.YtnemkhcjmenfnaaExact3
import Derived.Test.YtnemkhcjmenfnaaSxY
namespace Go.Proofs.Ytnemkhcjmenfnaa
open Go.Sx
open Ieee (signed)
set_option linter.unusedVariables false
set_option linter.unusedSimpArgs false
set_option maxRecDepth 100000

/-! #### any word as a dyadic number -/
theorem dyadic_any (k x : Nat) (hx : x < 2 ^ 64) (hk : 2 < k) : ∃ s l e N, spec_DyadicOf k x = some (s, l, e) ∧ Dr (-1074) 971 2 s l e N ∧ ∀ m v, D x m v → N = m * 2 ^ v := by
  by_cases hE : x / 2 ^ 52 % 2048 = 2047
  · have hx' : (x : Int) < 18446744073709551616 := by
      have : (2 : Nat) ^ 64 = 18446744073709551616 := by decide
      omega
    have r52 : ishr .u64 (fbits x) 52 = some ((x / 2 ^ 52 : Nat) : Int) := by
      have := ishr_u64 (a := (x : Int)) (n := 52) (by omega) hx' (by omega)
      rw [show fbits x = (x : Int) from rfl, show (52 : Int) = ((52 : Nat) : Int) from rfl, this]
      congr 1
    have iE : iand .u64 ((x / 2 ^ 52 : Nat) : Int) 2047 = ((2047 : Nat) : Int) := by
      have := Go.Sx.iand_mask (a := x / 2 ^ 52) (t := 11) (by omega) (by omega)
      rw [← hE]; exact this
    have cE : icv .i64 ((2047 : Nat) : Int) = ((2047 : Nat) : Int) := icv_i64 (by omega) (by omega)
    refine ⟨false, [], 0, 0, ?_, ⟨⟨0, wh_nil, (Int.zero_mul _).symm⟩, by omega, by omega, Nat.zero_le _⟩, fun m v hD => ?_⟩
    · unfold spec_DyadicOf
      rw [r52]
      simp only [Option.bind_eq_bind, Option.bind_some, iE, cE]
      rfl
    · obtain ⟨sg, mm, q, h1, h2⟩ := hD
      obtain ⟨_, hf⟩ := Go.Sx.read_fields hx h1
      rcases hf with ⟨a, b, c⟩ | ⟨a, b, c, d⟩ <;> omega
  · have hr : ∃ s m q, FloatKind.f64.format.read x = .number s m ((q : Nat) - 1074 : Int) := by
      rw [fmt_is]
      unfold Ieee.Format.read
      simp only [Go.Sx.sign_is, binade_is, inf_is, least_is]
      split
      · exact ⟨_, _, 0, rfl⟩
      · split
        · exact ⟨_, _, x % 2 ^ 63 / 2 ^ 52 - 1, by rw [Int.add_comm, ← Int.sub_eq_add_neg]⟩
        · exfalso
          have : x % 2 ^ 63 / 2 ^ 52 = x / 2 ^ 52 % 2048 := by omega
          omega
    obtain ⟨sg, m, q, h1⟩ := hr
    have hD : D x (signed sg m q) 0 := ⟨sg, m, q, h1, by simp⟩
    obtain ⟨s, l, e, r1, r2⟩ := dyadicOf_is (k := k) hx hD hk
    refine ⟨s, l, e, _, r1, r2, fun m' v' hD' => ?_⟩
    obtain ⟨s2, m2, q2, t1, t2⟩ := hD'
    rw [h1] at t1
    simp only [Ieee.Datum.number.injEq] at t1
    obtain ⟨rfl, rfl, t3⟩ := t1
    have : q = q2 := by omega
    subst this
    rw [← t2]; simp

/-! #### sums -/
def SUM (f : Nat → Int) (j : Nat) : Nat → Int
  | 0 => 0
  | n + 1 => f j + SUM f (j + 1) n
theorem SUM_scale (f g : Nat → Int) (c : Int) : ∀ (n j : Nat), (∀ i, j ≤ i → i < j + n → g i = f i * c) → SUM g j n = SUM f j n * c
  | 0, _, _ => by simp [SUM]
  | n + 1, j, h => by
    simp only [SUM]
    rw [h j (by omega) (by omega), SUM_scale f g c n (j + 1) (fun i h1 h2 => h i (by omega) (by omega)), Int.add_mul]

abbrev Tup := Bool × (List Int) × Int × Bool × (List Int) × Int
/-- what the exact places are -/
def Rel (l : List (Nat × Nat)) (E : List Tup) (F G : Nat → Int) : Prop :=
  E.length = l.length ∧ ∀ i (h : i < l.length) (h' : i < E.length), Dr (-1074) 971 2 E[i].1 E[i].2.1 E[i].2.2.1 (F i) ∧ Dr (-1074) 971 2 E[i].2.2.2.1 E[i].2.2.2.2.1 E[i].2.2.2.2.2 (G i) ∧
    (∀ m, D l[i].1 m 1074 → F i = m * 2 ^ 1074) ∧ (∀ m, D l[i].2 m 1074 → G i = m * 2 ^ 1074)

theorem exact_one (k x y : Nat) (hx : x < 2 ^ 64) (hy : y < 2 ^ 64) (hk : 2 < k) : ∃ (t : Tup) (M N : Int), laws_exactly k x y = some t ∧ Dr (-1074) 971 2 t.1 t.2.1 t.2.2.1 M ∧ Dr (-1074) 971 2 t.2.2.2.1 t.2.2.2.2.1 t.2.2.2.2.2 N ∧ (∀ m, D x m 1074 → M = m * 2 ^ 1074) ∧ (∀ m, D y m 1074 → N = m * 2 ^ 1074) := by
  obtain ⟨s1, l1, e1, M, r1, w1, u1⟩ := dyadic_any k x hx hk
  obtain ⟨s2, l2, e2, N, r2, w2, u2⟩ := dyadic_any k y hy hk
  exact ⟨(s1, l1, e1, s2, l2, e2), M, N, by simp [laws_exactly, spec_PointOf, r1, r2], w1, w2, fun m h => u1 m _ h, fun m h => u2 m _ h⟩

theorem exacts_loop (l : List (Nat × Nat)) (hl : l.length ≤ 200) (hw : ∀ p ∈ l, p.1 < 2 ^ 64 ∧ p.2 < 2 ^ 64) : ∀ (n i k : Nat) (E : List Tup) (F G : Nat → Int), l.length - i = n → n + 3 < k → i ≤ l.length → Rel (l.take i) E F G →
    ∃ E' F' G', laws_exacts_l1 l k (E, (i : Int)) = some E' ∧ Rel l E' F' G' := by
  intro n
  induction n with
  | zero =>
    intro i k E F G hn hk hi hR
    obtain ⟨k, rfl⟩ : ∃ j, k = j + 1 := ⟨k - 1, by omega⟩
    rw [List.take_of_length_le (by omega)] at hR
    exact ⟨E, F, G, by simp only [laws_exacts_l1, laws_exacts_l1s, lt_false (show ¬ i < l.length by omega), br_false], hR⟩
  | succ n ih =>
    intro i k E F G hn hk hi hR
    obtain ⟨k, rfl⟩ : ∃ j, k = j + 1 := ⟨k - 1, by omega⟩
    have hlt : i < l.length := by omega
    have hwi := hw _ (List.getElem_mem hlt)
    obtain ⟨t, M, N, t1, t2, t3, t4, t5⟩ := exact_one k l[i].1 l[i].2 hwi.1 hwi.2 (by omega)
    have hEl : E.length = i := by rw [hR.1, List.length_take]; omega
    have hR' : Rel (l.take (i + 1)) (E ++ [t]) (fun j => if j = i then M else F j) (fun j => if j = i then N else G j) := by
      refine ⟨by rw [List.length_append, hEl, List.length_take]; simp; omega, fun j h h' => ?_⟩
      rw [List.length_take] at h
      by_cases hj : j = i
      · subst hj
        simp only [if_true]
        rw [List.getElem_take]
        have : (E ++ [t])[j] = t := by rw [List.getElem_append_right (by omega)]; simp [hEl]
        rw [this]
        exact ⟨t2, t3, t4, t5⟩
      · have hji : j < i := by omega
        have h1 := hR.2 j (by rw [List.length_take]; omega) (by omega)
        simp only [if_neg hj]
        rw [List.getElem_take] at h1 ⊢
        rw [List.getElem_append_left (show j < E.length by omega)]
        exact h1
    obtain ⟨E', F', G', r1, r2⟩ := ih (i + 1) k _ _ _ (by omega) (by omega) (by omega) hR'
    refine ⟨E', F', G', ?_, r2⟩
    have ha : apd 80 E [(t.1, t.2.1, t.2.2.1, t.2.2.2.1, t.2.2.2.2.1, t.2.2.2.2.2)] = some (E ++ [t]) := apd_some (by simp; omega) (by simp; omega)
    simp only [laws_exacts_l1, laws_exacts_l1s, lt_true hlt, br_true, idx_get hlt, Option.bind_eq_bind, Option.bind_some, t1, ha, iadd_one (show i < 9223372036854775807 by omega)]
    exact r1
theorem exacts_is (k : Nat) (l : List (Nat × Nat)) (hl : l.length ≤ 200) (hw : ∀ p ∈ l, p.1 < 2 ^ 64 ∧ p.2 < 2 ^ 64) (hk : 300 < k) : ∃ E F G, laws_exacts k l = some E ∧ Rel l E F G := by
  obtain ⟨E, F, G, h1, h2⟩ := exacts_loop l hl hw l.length 0 k [] (fun _ => 0) (fun _ => 0) (by omega) (by omega) (by omega) ⟨by simp, fun i h _ => by simp at h⟩
  have h1' : laws_exacts_l1 l k ([], 0) = some E := h1
  exact ⟨E, F, G, by unfold laws_exacts; rw [h1', sbind], h2⟩

theorem mean_loop (l : List (Nat × Nat)) (E : List Tup) (F G : Nat → Int) (hl : l.length ≤ 200) (hR : Rel l E F G) : ∀ (n i k : Nat) (s1 : Bool) (l1 : List Int) (e1 : Int) (s2 : Bool) (l2 : List Int) (e2 X Y : Int), E.length - i = n → 14000 + n < k → i ≤ E.length →
    Dr (-1074) 971 (2 + 66 * i) s1 l1 e1 X → Dr (-1074) 971 (2 + 66 * i) s2 l2 e2 Y →
    ∃ s1' l1' e1' s2' l2' e2', spec_Mean_l1 E k (s1, l1, e1, s2, l2, e2, (i : Int)) = some (s1', l1', e1', s2', l2', e2') ∧ Dr (-1074) 971 13300 s1' l1' e1' (X + SUM F i n) ∧ Dr (-1074) 971 13300 s2' l2' e2' (Y + SUM G i n) := by
  have hEl := hR.1
  intro n
  induction n with
  | zero =>
    intro i k s1 l1 e1 s2 l2 e2 X Y hn hk hi hX hY
    obtain ⟨k, rfl⟩ : ∃ j, k = j + 1 := ⟨k - 1, by omega⟩
    refine ⟨s1, l1, e1, s2, l2, e2, ?_, ?_, ?_⟩
    · simp only [spec_Mean_l1, spec_Mean_l1s, lt_false (show ¬ i < E.length by omega), br_false]
    · simp only [SUM, Int.add_zero]; exact hX.mono (by omega) (by omega)
    · simp only [SUM, Int.add_zero]; exact hY.mono (by omega) (by omega)
  | succ n ih =>
    intro i k s1 l1 e1 s2 l2 e2 X Y hn hk hi hX hY
    obtain ⟨k, rfl⟩ : ∃ j, k = j + 1 := ⟨k - 1, by omega⟩
    have hlt : i < E.length := by omega
    obtain ⟨a1, a2, _, _⟩ := hR.2 i (by omega) hlt
    obtain ⟨t1, m1, f1, q1, v1⟩ := dadd_is (k := k) hX (a1.mono (T' := 971) (L' := 2 + 66 * i) (by omega) (by omega)) (by decide) (by decide) (by decide) (by omega) (by simp; omega)
    obtain ⟨t2, m2, f2, q2, v2⟩ := dadd_is (k := k) hY (a2.mono (T' := 971) (L' := 2 + 66 * i) (by omega) (by omega)) (by decide) (by decide) (by decide) (by omega) (by simp; omega)
    obtain ⟨s1', l1', e1', s2', l2', e2', r1, r2, r3⟩ := ih (i + 1) k t1 m1 f1 t2 m2 f2 _ _ (by omega) (by omega) (by omega) (v1.mono (T' := 971) (L' := 2 + 66 * (i + 1)) (by omega) (by simp; omega)) (v2.mono (T' := 971) (L' := 2 + 66 * (i + 1)) (by omega) (by simp; omega))
    refine ⟨s1', l1', e1', s2', l2', e2', ?_, ?_, ?_⟩
    · simp only [spec_Mean_l1, spec_Mean_l1s, lt_true hlt, br_true, idx_get hlt, Option.bind_eq_bind, Option.bind_some, q1, q2, iadd_one (show i < 9223372036854775807 by omega)]
      exact r1
    · simp only [SUM]; rw [← Int.add_assoc]; exact r2
    · simp only [SUM]; rw [← Int.add_assoc]; exact r3

theorem mean_is (k : Nat) (l : List (Nat × Nat)) (E : List Tup) (F G : Nat → Int) (hl : l.length ≤ 200) (hR : Rel l E F G) (hk : 15000 < k) :
    ∃ s1 l1 e1 s2 l2 e2 s3 l3, spec_Mean k E = some (s1, l1, e1, s3, l3, 0, s2, l2, e2, decide (0 < (E.length : Int))) ∧ Dr (-1074) 971 13300 s1 l1 e1 (SUM F 0 l.length) ∧ Dr (-1074) 971 13300 s2 l2 e2 (SUM G 0 l.length) ∧ Wh s3 l3 (l.length : Int) ∧ l3.length ≤ 2 := by
  have hEl := hR.1
  have z : Dr (-1074) 971 (2 + 66 * 0) false [] 0 0 := ⟨⟨0, wh_nil, (Int.zero_mul _).symm⟩, by omega, by omega, Nat.zero_le _⟩
  obtain ⟨s1, l1, e1, s2, l2, e2, r1, r2, r3⟩ := mean_loop l E F G hl hR l.length 0 k false [] 0 false [] 0 0 0 (by omega) (by omega) (by omega) z z
  have r1' : spec_Mean_l1 E k (false, [], 0, false, [], 0, 0) = some (s1, l1, e1, s2, l2, e2) := r1
  obtain ⟨s3, l3, w1, w2, w3⟩ := wholeOf_is (k := k) (n := (E.length : Int)) (by omega) (by omega) (by omega)
  rw [Int.zero_add] at r2 r3
  refine ⟨s1, l1, e1, s2, l2, e2, s3, l3, ?_, r2, r3, by rw [← hEl]; exact w2, w3⟩
  unfold spec_Mean spec_IntOf
  rw [r1']
  simp only [sbind, w1]

/-! #### the places of a row -/
def pl (a : List Nat) (s j : Nat) : Nat → List (Nat × Nat)
  | 0 => []
  | n + 1 => (a.getD (j * s) 0, a.getD (j * s + 1) 0) :: pl a s (j + 1) n
theorem pl_length (a : List Nat) (s : Nat) : ∀ n j, (pl a s j n).length = n
  | 0, _ => rfl
  | n + 1, j => by simp [pl, pl_length a s n (j + 1)]
theorem pl_get (a : List Nat) (s : Nat) : ∀ n j i (h : i < (pl a s j n).length), (pl a s j n)[i] = (a.getD ((j + i) * s) 0, a.getD ((j + i) * s + 1) 0)
  | 0, _, _, h => by simp [pl] at h
  | n + 1, j, 0, _ => by simp [pl]
  | n + 1, j, i + 1, h => by
    simp only [pl, List.getElem_cons_succ]
    rw [pl_get a s n (j + 1) i (by simpa [pl] using h), show j + 1 + i = j + (i + 1) from by omega]
theorem pl_words (a : List Nat) (s : Nat) (ha : ∀ x ∈ a, x < 18446744073709551616) : ∀ n j, ∀ p ∈ pl a s j n, p.1 < 2 ^ 64 ∧ p.2 < 2 ^ 64 := by
  have hg : ∀ i, a.getD i 0 < 2 ^ 64 := fun i => by
    by_cases h : i < a.length
    · rw [show a.getD i 0 = a[i] from by simp [List.getD, List.getElem?_eq_getElem h]]
      have := ha _ (List.getElem_mem h); omega
    · rw [show a.getD i 0 = 0 from by simp [List.getD, List.getElem?_eq_none (by omega : a.length ≤ i)]]; omega
  intro n
  induction n with
  | zero => intro j p hp; simp [pl] at hp
  | succ n ih =>
    intro j p hp
    simp only [pl, List.mem_cons] at hp
    rcases hp with rfl | hp
    · exact ⟨hg _, hg _⟩
    · exact ih _ _ hp

theorem flat_loop (a : List Nat) (s T : Nat) (hs : 2 ≤ s ∧ s ≤ 8) (hT : a.length = T * s) (hTl : T ≤ 200) : ∀ (n j k : Nat) (L : List (Nat × Nat)), T - j = n → n < k → j ≤ T → L.length = j →
    laws_flatTo_l1 a (s : Int) k (L, ((j * s : Nat) : Int)) = some (L ++ pl a s j n) := by
  intro n
  induction n with
  | zero =>
    intro j k L hn hk hj hL
    obtain ⟨k, rfl⟩ : ∃ j, k = j + 1 := ⟨k - 1, by omega⟩
    have hge : ¬ j * s < a.length := by rw [hT]; have := Nat.mul_le_mul_right s (show T ≤ j by omega); omega
    simp only [laws_flatTo_l1, laws_flatTo_l1s, lt_false hge, br_false, pl, List.append_nil]
  | succ n ih =>
    intro j k L hn hk hj hL
    obtain ⟨k, rfl⟩ : ∃ j, k = j + 1 := ⟨k - 1, by omega⟩
    obtain ⟨i, hi⟩ : ∃ i, j * s = i := ⟨_, rfl⟩
    have hi2 : i + s ≤ a.length := by
      have := Nat.mul_le_mul_right s (show j + 1 ≤ T by omega)
      rw [Nat.add_mul, Nat.one_mul] at this; omega
    have hal : a.length ≤ 1600 := by rw [hT]; have := Nat.mul_le_mul hTl hs.2; omega
    have hnx : ((i + s : Nat) : Int) = (((j + 1) * s : Nat) : Int) := by rw [Nat.add_mul, Nat.one_mul, hi]
    have j1 : i < a.length := by omega
    have j3 : i + 1 < a.length := by omega
    have e3 : iadd .i64 (i : Int) 1 = ((i + 1 : Nat) : Int) := iadd_one (by omega)
    have e6 : iadd .i64 (i : Int) (s : Int) = ((i + s : Nat) : Int) := by rw [iadd_i64 (by omega) (by omega)]; omega
    have ha : apd 16 L [(a[i], a[i + 1])] = some (L ++ [(a[i], a[i + 1])]) := apd_some (by simp; omega) (by simp; omega)
    have g1 : a.getD i 0 = a[i] := by simp [List.getD, List.getElem?_eq_getElem j1]
    have g2 : a.getD (i + 1) 0 = a[i + 1] := by simp [List.getD, List.getElem?_eq_getElem j3]
    have := ih (j + 1) k (L ++ [(a[i], a[i + 1])]) (by omega) (by omega) (by omega) (by simp [hL])
    rw [← hnx] at this
    rw [hi]
    simp only [laws_flatTo_l1, laws_flatTo_l1s, lt_true j1, br_true, e3, e6, idx_get j1, idx_get j3, Option.bind_eq_bind, Option.bind_some, ha, this, pl]
    rw [hi, g1, g2, List.append_assoc]; rfl

theorem cent_loop (a : List Nat) (s T : Nat) (hs : 2 ≤ s ∧ s ≤ 8) (hT : a.length = T * s) (hTl : T ≤ 200) (f g : Nat → Int)
    (hf : ∀ i, i < T → D (a.getD (i * s) 0) (f i) 1074 ∧ (f i).natAbs ≤ 1048576) (hg : ∀ i, i < T → D (a.getD (i * s + 1) 0) (g i) 1074 ∧ (g i).natAbs ≤ 1048576) :
    ∀ (n j k : Nat) (x y u v : Nat) (X Y : Int), T - j = n → n < k → j ≤ T → D x X 1074 → D y Y 1074 → X.natAbs ≤ j * 1048576 → Y.natAbs ≤ j * 1048576 →
    ∃ x' y', xy_PointsCentroidFlat_l1 a (s : Int) k ((j : Int), [x, y], [u, v], ((j * s : Nat) : Int)) = some ((T : Int), [x', y']) ∧ D x' (X + SUM f j n) 1074 ∧ D y' (Y + SUM g j n) 1074 ∧ (X + SUM f j n).natAbs ≤ T * 1048576 ∧ (Y + SUM g j n).natAbs ≤ T * 1048576 := by
  intro n
  induction n with
  | zero =>
    intro j k x y u v X Y hn hk hj dx dy bx by_
    obtain ⟨k, rfl⟩ : ∃ j, k = j + 1 := ⟨k - 1, by omega⟩
    have hge : ¬ j * s < a.length := by rw [hT]; have := Nat.mul_le_mul_right s (show T ≤ j by omega); omega
    have hjT : j = T := by omega
    subst hjT
    refine ⟨x, y, ?_, by simpa [SUM] using dx, by simpa [SUM] using dy, by simpa [SUM] using bx, by simpa [SUM] using by_⟩
    simp only [xy_PointsCentroidFlat_l1, xy_PointsCentroidFlat_l1s, lt_false hge, br_false]
  | succ n ih =>
    intro j k x y u v X Y hn hk hj dx dy bx by_
    obtain ⟨k, rfl⟩ : ∃ j, k = j + 1 := ⟨k - 1, by omega⟩
    obtain ⟨i, hi⟩ : ∃ i, j * s = i := ⟨_, rfl⟩
    have hi2 : i + s ≤ a.length := by
      have := Nat.mul_le_mul_right s (show j + 1 ≤ T by omega)
      rw [Nat.add_mul, Nat.one_mul] at this; omega
    have hal : a.length ≤ 1600 := by rw [hT]; have := Nat.mul_le_mul hTl hs.2; omega
    have hnx : ((i + s : Nat) : Int) = (((j + 1) * s : Nat) : Int) := by rw [Nat.add_mul, Nat.one_mul, hi]
    have j1 : i < a.length := by omega
    have j3 : i + 1 < a.length := by omega
    have e3 : iadd .i64 (i : Int) 1 = ((i + 1 : Nat) : Int) := iadd_one (by omega)
    have e4 : iadd .i64 (j : Int) 1 = ((j + 1 : Nat) : Int) := iadd_one (by omega)
    have e6 : iadd .i64 (i : Int) (s : Int) = ((i + s : Nat) : Int) := by rw [iadd_i64 (by omega) (by omega)]; omega
    have g1 : a.getD i 0 = a[i] := by simp [List.getD, List.getElem?_eq_getElem j1]
    have g2 : a.getD (i + 1) 0 = a[i + 1] := by simp [List.getD, List.getElem?_eq_getElem j3]
    obtain ⟨p1, p2⟩ := hf j (by omega)
    obtain ⟨q1, q2⟩ := hg j (by omega)
    rw [hi, g1] at p1; rw [hi, g2] at q1
    have hj2 : j * 1048576 ≤ 200 * 1048576 := Nat.mul_le_mul_right _ (by omega)
    obtain ⟨x1, x2, x3⟩ := D_sum dx p1 rfl (by omega) (by omega)
    obtain ⟨y1, y2, y3⟩ := D_sum dy q1 rfl (by omega) (by omega)
    obtain ⟨x', y', r1, r2, r3, r4, r5⟩ := ih (j + 1) k x1 y1 a[i] a[i + 1] _ _ (by omega) (by omega) (by omega) x3 y3 (by rw [Nat.add_mul, Nat.one_mul]; omega) (by rw [Nat.add_mul, Nat.one_mul]; omega)
    rw [← hnx] at r1
    refine ⟨x', y', ?_, ?_, ?_, ?_, ?_⟩
    · rw [hi]
      simp only [xy_PointsCentroidFlat_l1, xy_PointsCentroidFlat_l1s, lt_true j1, br_true, e3, e6, idx_get j1, idx_get j3, Option.bind_eq_bind, Option.bind_some, xy_PointCentroidCalculator_AddCoord]
      simp only [show idx [u, v] 0 = some u from rfl, Option.bind_some, show ([u, v] : List Nat).set (0 : Int).toNat a[i] = [a[i], v] from rfl, show idx [a[i], v] 1 = some v from rfl, show ([a[i], v] : List Nat).set (1 : Int).toNat a[i + 1] = [a[i], a[i + 1]] from rfl,
        show idx [x, y] 0 = some x from rfl, show idx [a[i], a[i + 1]] 0 = some a[i] from rfl, x2, show ([x, y] : List Nat).set (0 : Int).toNat x1 = [x1, y] from rfl, show idx [x1, y] 1 = some y from rfl, show idx [a[i], a[i + 1]] 1 = some a[i + 1] from rfl, y2, show ([x1, y] : List Nat).set (1 : Int).toNat y1 = [x1, y1] from rfl, e4]
      exact r1
    · simp only [SUM]; rw [← Int.add_assoc]; exact r2
    · simp only [SUM]; rw [← Int.add_assoc]; exact r3
    · simp only [SUM]; rw [← Int.add_assoc]; exact r4
    · simp only [SUM]; rw [← Int.add_assoc]; exact r5

/-! #### the quotient is near -/
theorem near_mean (v w u a b N : Nat) (hw : w = v + 2) (hu : u = v + 22) (ha : a ≤ 2 ^ 28) (hb : 0 < b)
    (up : ∀ n, n ≤ 2 ^ 53 → a * 2 ^ u ≤ n * 2 ^ v * b → N ≤ n * 2 ^ v) (dn : ∀ n, n ≤ 2 ^ 53 → n * 2 ^ v * b ≤ a * 2 ^ u → n * 2 ^ v ≤ N) :
    N * b < a * 2 ^ u + b * 2 ^ w ∧ a * 2 ^ u < N * b + b * 2 ^ w := by
  subst hw; subst hu
  have hV : 0 < 2 ^ v := Nat.two_pow_pos v
  obtain ⟨n0, hn0⟩ : ∃ n0, a * 2 ^ 22 / b = n0 := ⟨_, rfl⟩
  have hdm := Nat.div_add_mod (a * 2 ^ 22) b
  have hml := Nat.mod_lt (a * 2 ^ 22) hb
  rw [hn0] at hdm
  have hn0b : n0 ≤ 2 ^ 50 := by
    rw [← hn0]
    exact Nat.le_trans (Nat.div_le_self _ _) (by omega)
  rw [Nat.pow_add 2 v 22, Nat.pow_add 2 v 2] at *
  obtain ⟨V, hVe⟩ : ∃ V, 2 ^ v = V := ⟨_, rfl⟩
  rw [hVe] at up dn hV ⊢
  have e1 : a * (V * 2 ^ 22) = a * 2 ^ 22 * V := by grind
  rw [e1] at up dn ⊢
  have h1 := up (n0 + 1) (by omega) (by
    have : a * 2 ^ 22 * V ≤ (b * n0 + b) * V := Nat.mul_le_mul_right _ (by omega)
    have e : (b * n0 + b) * V = (n0 + 1) * V * b := by grind
    rw [e] at this; exact this)
  have h2 := dn n0 (by omega) (by
    have : b * n0 * V ≤ a * 2 ^ 22 * V := Nat.mul_le_mul_right _ (by omega)
    have e : b * n0 * V = n0 * V * b := by grind
    rw [e] at this; exact this)
  have h3 := Nat.mul_le_mul_right b h1
  have h4 := Nat.mul_le_mul_right b h2
  have e2 : (n0 + 1) * V * b = b * n0 * V + b * V := by grind
  have e3 : n0 * V * b = b * n0 * V := by grind
  have e4 : b * (V * 2 ^ 2) = 4 * (b * V) := by grind
  have h5 : b * n0 * V ≤ a * 2 ^ 22 * V := Nat.mul_le_mul_right _ (by omega)
  have h6 : a * 2 ^ 22 * V < (b * n0 + b) * V := Nat.mul_lt_mul_of_pos_right (by omega) hV
  rw [Nat.add_mul] at h6
  have h7 : 0 < b * V := Nat.mul_pos hb hV
  rw [e2] at h3; rw [e3] at h4; rw [e4]
  omega

/-- the quotient of a sum by a number, held against the fraction -/
theorem nearRatio_is (k : Nat) (z : Nat) (X : Int) (b : Nat) (s1 : Bool) (l1 : List Int) (e1 : Int) (s3 : Bool) (l3 : List Int) (hx : D z X 1074) (hX : X.natAbs ≤ 209715200) (hb : 0 < b) (hb2 : b ≤ 200)
    (h1 : Dr (-1074) 971 13300 s1 l1 e1 (X * 2 ^ 1074)) (h3 : Wh s3 l3 (b : Int)) (h3l : l3.length ≤ 2) (hk : 20000 < k) :
    laws_nearRatio k (gdiv z (i2f (b : Int))) s1 l1 e1 s3 l3 0 (-20) = some true := by
  have hbig : b < 2 ^ 1000 := Nat.lt_of_le_of_lt (show b ≤ 2 ^ 8 by omega) (pow_lt2 8 1000 (by omega))
  have hX53 : X.natAbs ≤ 2 ^ 53 := by omega
  have hXs : X.natAbs ≤ 2 ^ 28 := by omega
  have hbd : D (i2f (b : Int)) (b : Int) 1074 := D_i2f (by omega)
  obtain ⟨N, n1, n2, n3, n4⟩ := gdiv_near hx hbd hX53 hb hbig
  obtain ⟨c1, c2⟩ := near_mean 1052 1054 1074 X.natAbs b N rfl rfl hXs hb (fun n h => n3 n 1052 h) (fun n h => n4 n 1052 h)
  have hC : ∃ C : Int, D (gdiv z (i2f (b : Int))) C 0 ∧ ((0 ≤ X ∧ C = N) ∨ (X < 0 ∧ C = -(N : Int))) := by
    by_cases h : X < 0
    · exact ⟨_, n1 h, .inr ⟨h, rfl⟩⟩
    · exact ⟨_, n2 (Int.not_lt.1 h), .inl ⟨Int.not_lt.1 h, rfl⟩⟩
  obtain ⟨C, hC1, hC2⟩ := hC
  have hlt : (C * b - X * 2 ^ 1074).natAbs < b * 2 ^ 1054 := by
    generalize (2 : Nat) ^ 1054 = Q at c1 c2 ⊢
    have eP : (2 : Int) ^ 1074 = ((2 ^ 1074 : Nat) : Int) := powcast2 1074
    rw [eP]
    generalize (2 : Nat) ^ 1074 = P at c1 c2 ⊢
    rcases hC2 with ⟨h0, rfl⟩ | ⟨h0, rfl⟩
    · obtain ⟨A, rfl⟩ := Int.eq_ofNat_of_zero_le h0
      rw [Int.natAbs_natCast] at c1 c2
      have e : (N : Int) * b - (A : Int) * (P : Int) = ((N * b : Nat) : Int) - ((A * P : Nat) : Int) := by push_cast; rfl
      rw [e]; omega
    · obtain ⟨A, hA⟩ := Int.eq_ofNat_of_zero_le (show 0 ≤ -X by omega)
      have hXA : X = -(A : Int) := by omega
      subst hXA
      rw [Int.natAbs_neg, Int.natAbs_natCast] at c1 c2
      have e : -(N : Int) * b - -(A : Int) * (P : Int) = ((A * P : Nat) : Int) - ((N * b : Nat) : Int) := by push_cast; rw [Int.neg_mul, Int.neg_mul]; omega
      rw [e]; omega
  obtain ⟨sc, lc, ec, r1, w1⟩ := dyadicOf_is (k := k) (gdiv_lt z (i2f (b : Int))) hC1 (by omega)
  have hD3 : Dr 0 0 2 s3 l3 0 (b : Int) := ⟨⟨b, h3, by simp⟩, by omega, by omega, h3l⟩
  have hD3' : Dr (-1074) 971 13300 s3 l3 (-20) ((b : Int) * 2 ^ 1054) := ⟨⟨b, h3, by rw [show ((-20 : Int) - -1074).toNat = 1054 from rfl]⟩, by omega, by omega, by omega⟩
  obtain ⟨t1, m1, f1, q1, v1⟩ := dmul_is (k := k) w1 hD3 (by decide) (by decide) (by decide) (by decide) (by decide) (by decide) (by omega)
  have v1' : Dr (-1074) 971 13300 t1 m1 f1 (C * 2 ^ 0 * (b : Int)) := ⟨v1.ex, v1.lo, v1.hi, by have := v1.len; omega⟩
  obtain ⟨t2, m2, f2, q2, v2⟩ := dsub_is (k := k) v1' h1 (by decide) (by decide) (by decide) (by decide) (by simp; omega)
  rw [Int.pow_zero, Int.mul_one] at v2
  have habs : ∃ t3, spec_Dyadic_Abs k t2 m2 f2 = some (t3, m2, f2) ∧ Dr (-1074) 971 13400 t3 m2 f2 (((C * b - X * 2 ^ 1074).natAbs : Nat) : Int) := by
    unfold spec_Dyadic_Abs
    rw [dsign_is v2]
    simp only [sbind]
    generalize C * b - X * 2 ^ 1074 = Z at v2 ⊢
    by_cases h : Z < 0
    · obtain ⟨t3, a1, a2⟩ := dminus_is (k := k) v2
      rw [decide_eq_true (show sgn Z < 0 by unfold sgn; rw [if_pos h]; decide), br_true, a1]
      refine ⟨t3, rfl, ?_⟩
      have : ((Z.natAbs : Nat) : Int) = -Z := by omega
      rw [this]; exact a2.mono (by omega) (by simp)
    · rw [decide_eq_false (show ¬ sgn Z < 0 by unfold sgn; rw [if_neg h]; split <;> decide), br_false]
      refine ⟨t2, rfl, ?_⟩
      have : ((Z.natAbs : Nat) : Int) = Z := by omega
      rw [this]; exact v2.mono (by omega) (by simp)
  obtain ⟨t3, a1, a2⟩ := habs
  obtain ⟨t4, m4, f4, q4, v4⟩ := dsub_is (k := k) a2 (hD3'.mono (T' := 971) (L' := 13400) (by omega) (by omega)) (by decide) (by decide) (by decide) (by decide) (by simp; omega)
  have hneg : sgn ((((C * b - X * 2 ^ 1074).natAbs : Nat) : Int) - (b : Int) * 2 ^ 1054) = -1 := by
    have e : (b : Int) * 2 ^ 1054 = ((b * 2 ^ 1054 : Nat) : Int) := by rw [Int.natCast_mul, Go.Sx.powcast2]
    rw [e]
    generalize (C * b - X * 2 ^ 1074).natAbs = A at hlt ⊢
    generalize b * 2 ^ 1054 = B at hlt ⊢
    unfold sgn; rw [if_pos (by omega)]
  have hfin : spec_Finite k (gdiv z (i2f (b : Int))) = some true := by
    unfold spec_Finite
    rw [sbind, D_eq (near_self hC1) (D_zero 0)]; rfl
  unfold laws_nearRatio
  rw [hfin]
  simp only [sbind, br_true, r1, q1, q2, a1, spec_Dyadic_Shift, show iadd .i64 0 (-20) = -20 from by decide, spec_Dyadic_Cmp, q4, dsign_is v4, hneg, laws_nearRatio_j1]
  rfl

def stri (a : Int) : Int := if a < 1 then 0 else if a = 1 then 2 else if a = 2 ∨ a = 3 then 3 else a
theorem stride_is (k : Nat) (a : Int) : spec_Stride k a = some (stri a) := by
  unfold spec_Stride spec_Stride_j1 stri
  by_cases h1 : a < 1
  · rw [decide_eq_true h1, if_pos h1]; rfl
  by_cases h2 : a = 1
  · subst h2; rfl
  by_cases h3 : a = 2
  · subst h3; rfl
  by_cases h4 : a = 3
  · subst h4; rfl
  rw [decide_eq_false h1, decide_eq_false h2, decide_eq_false h3, decide_eq_false h4, if_neg h1, if_neg h2, if_neg (by omega)]; rfl
theorem lstride_is (k : Nat) (a : Int) (h : 1 ≤ a) : gogeom_Layout_Stride k a = some (stri a) := by
  unfold gogeom_Layout_Stride stri
  by_cases h2 : a = 1
  · subst h2; rfl
  by_cases h3 : a = 2
  · subst h3; rfl
  by_cases h4 : a = 3
  · subst h4; rfl
  by_cases h5 : a = 4
  · subst h5; rfl
  rw [decide_eq_false (show ¬ a = 0 by omega), decide_eq_false h2, decide_eq_false h3, decide_eq_false h4, decide_eq_false h5, if_neg (by omega), if_neg h2, if_neg (by omega)]; rfl

theorem hw20 : D 4697254411347427328 ((1048576 : Nat) : Int) 1074 := by
  have := Go.Sx.D_fields (E := 1043) (F := 0) (by omega) (by omega) (by omega) (n := ((1048576 : Nat) : Int)) (v := 1074) (by
    rw [show (1048576 : Nat) = 2 ^ 20 from rfl, ← Go.Sx.powcast2 20, ← Int.pow_add, show ((2 ^ 52 + 0 : Nat) : Int) = 2 ^ 52 from rfl, ← Int.pow_add])
  exact this

/-- laws.flatTo: what it tells -/
theorem flatTo_is (k : Nat) (a0 : Int) (a1 : List Nat) (hl : a1.length ≤ 2147483647) (ha : ∀ x ∈ a1, x < 18446744073709551616) (hk : 1000 < k) :
    ∃ l b, laws_flatTo k a0 a1 4697254411347427328 200 = some (l, b) ∧ l.length ≤ 200 ∧ (∀ p ∈ l, p.1 < 2 ^ 64 ∧ p.2 < 2 ^ 64) ∧
      (b = true → ∃ s T : Nat, stri a0 = (s : Int) ∧ 1 ≤ a0 ∧ 2 ≤ s ∧ s ≤ 8 ∧ a1.length = T * s ∧ T ≤ 200 ∧ l = pl a1 s 0 T ∧ ∀ p ∈ l, ∃ m n : Int, D p.1 m 1074 ∧ m.natAbs ≤ 1048576 ∧ D p.2 n 1074 ∧ n.natAbs ≤ 1048576) := by
  have none_ : ∃ l b, (some (([] : List (Nat × Nat)), false) : Option _) = some (l, b) ∧ l.length ≤ 200 ∧ (∀ p ∈ l, p.1 < 2 ^ 64 ∧ p.2 < 2 ^ 64) ∧
      (b = true → ∃ s T : Nat, stri a0 = (s : Int) ∧ 1 ≤ a0 ∧ 2 ≤ s ∧ s ≤ 8 ∧ a1.length = T * s ∧ T ≤ 200 ∧ l = pl a1 s 0 T ∧ ∀ p ∈ l, ∃ m n : Int, D p.1 m 1074 ∧ m.natAbs ≤ 1048576 ∧ D p.2 n 1074 ∧ n.natAbs ≤ 1048576) :=
    ⟨[], false, rfl, by simp, fun p hp => by simp at hp, fun h => by cases h⟩
  unfold laws_flatTo
  by_cases h1 : a0 < 1
  · rw [decide_eq_true h1, br_true]; unfold laws_flatTo_j1; rw [br_true]; exact none_
  rw [decide_eq_false h1, br_false]
  unfold laws_flatTo_j1
  by_cases h8 : 8 < a0
  · rw [decide_eq_true h8, br_true]; exact none_
  rw [decide_eq_false h8, br_false]
  obtain ⟨s, hs⟩ : ∃ s : Nat, stri a0 = (s : Int) := Int.eq_ofNat_of_zero_le (by unfold stri; repeat' split <;> omega)
  have hs2 : 2 ≤ s ∧ s ≤ 8 := by
    have h : 2 ≤ stri a0 ∧ stri a0 ≤ 8 := by unfold stri; repeat' split <;> omega
    omega
  have hstr : spec_Stride k a0 = some (s : Int) := by rw [stride_is, hs]
  rw [hstr, sbind]
  have hr : irem (a1.length : Int) (s : Int) = some ((a1.length % s : Nat) : Int) := by
    unfold irem; rw [if_neg (by omega), Int.tmod_eq_emod_of_nonneg (by omega)]; rfl
  rw [hr, sbind]
  unfold laws_flatTo_j2
  by_cases hm : a1.length % s = 0
  · rw [decide_eq_true (show ((a1.length % s : Nat) : Int) = 0 by omega), Bool.not_true, br_false]
    have e200 : imul .i64 (s : Int) 200 = ((s * 200 : Nat) : Int) := by rw [imul_i64 (by omega) (by omega)]; push_cast; rfl
    rw [e200]
    by_cases hb : s * 200 < a1.length
    · rw [lt_true hb, br_true]; exact none_
    · rw [lt_false hb, br_false]
      obtain ⟨T, hT, hTl⟩ : ∃ T, a1.length = T * s ∧ T ≤ 200 := by
        refine ⟨a1.length / s, (Nat.div_mul_cancel (Nat.dvd_of_mod_eq_zero hm)).symm, ?_⟩
        have := Nat.div_le_div_right (c := s) (show a1.length ≤ 200 * s by omega)
        rw [Nat.mul_div_cancel _ (by omega)] at this; exact this
      have hf := flat_loop a1 s T hs2 hT hTl T 0 k [] rfl (by omega) (by omega) rfl
      rw [Nat.zero_mul] at hf
      have hf' : laws_flatTo_l1 a1 (s : Int) k ([], 0) = some (pl a1 s 0 T) := by simpa using hf
      rw [hf', sbind]
      have hlen := pl_length a1 s T 0
      obtain ⟨r, r1, r2⟩ := planeTo_is (k := k) 4697254411347427328 1048576 hw20 (by omega) (pl a1 s 0 T) (pl_words a1 s ha _ _) (by omega) (by omega)
      rw [r1, sbind]
      exact ⟨_, r, rfl, by omega, pl_words a1 s ha _ _, fun h => ⟨s, T, hs, by omega, hs2.1, hs2.2, hT, hTl, rfl, r2 h⟩⟩
  · rw [decide_eq_false (show ¬ ((a1.length % s : Nat) : Int) = 0 by omega), Bool.not_false, br_true, br_true]; exact none_

theorem fact_FnPointsCentroidFlat (a0 : Int) (a1 : List Nat) {p : Prop} (g0 : p) (g1 : a1.length ≤ maxLen ∧ ∀ x ∈ a1, x < 18446744073709551616) : laws_FnPointsCentroidFlat 30000 a0 a1 = some true := by
  unfold laws_FnPointsCentroidFlat
  by_cases h1 : 2147483647 < (a1.length : Int)
  · rw [decide_eq_true h1, br_true]
  rw [decide_eq_false h1, br_false]
  obtain ⟨l, b, f1, f2, f3, f4⟩ := flatTo_is 30000 a0 a1 (by omega) g1.2 (by omega)
  obtain ⟨E, F, G, e1, e2⟩ := exacts_is 30000 l f2 f3 (by omega)
  obtain ⟨s1, l1, x1, s2, l2, x2, s3, l3, m1, m2, m3, m4, m5⟩ := mean_is 30000 l E F G f2 e2 (by omega)
  rw [f1]
  simp only [sbind, e1, m1]
  cases b with
  | false => rfl
  | true =>
    simp only [Bool.not_true, br_false]
    obtain ⟨s, T, hs, ha0, hs2, hs8, hT, hTl, rfl, hall⟩ := f4 rfl
    have hlen := pl_length a1 s T 0
    rw [hlen] at m2 m3 m4
    rw [e2.1, hlen]
    unfold laws_FnPointsCentroidFlat_j1
    by_cases hT0 : 0 < T
    · rw [decide_eq_true (show (0 : Int) < (T : Int) by omega), Bool.not_true, br_false]
      have hex : ∀ i, i < T → ∃ mn : Int × Int, D (a1.getD (i * s) 0) mn.1 1074 ∧ mn.1.natAbs ≤ 1048576 ∧ D (a1.getD (i * s + 1) 0) mn.2 1074 ∧ mn.2.natAbs ≤ 1048576 := fun i hi => by
        have hlt : i < (pl a1 s 0 T).length := by omega
        obtain ⟨m, n, d1, d2, d3, d4⟩ := hall _ (List.getElem_mem hlt)
        rw [pl_get a1 s T 0 i hlt, Nat.zero_add] at d1 d3
        exact ⟨(m, n), d1, d2, d3, d4⟩
      obtain ⟨fg, hfg⟩ : ∃ fg : Nat → Int × Int, ∀ i, i < T → D (a1.getD (i * s) 0) (fg i).1 1074 ∧ (fg i).1.natAbs ≤ 1048576 ∧ D (a1.getD (i * s + 1) 0) (fg i).2 1074 ∧ (fg i).2.natAbs ≤ 1048576 :=
        ⟨fun i => if hi : i < T then Classical.choose (hex i hi) else (0, 0), fun i hi => by simp only [hi, dif_pos]; exact Classical.choose_spec (hex i hi)⟩
      have hF : SUM F 0 T = SUM (fun i => (fg i).1) 0 T * 2 ^ 1074 := SUM_scale _ _ _ T 0 fun i _ hi => by
        have hlt : i < (pl a1 s 0 T).length := by omega
        have := (e2.2 i hlt (by rw [e2.1]; exact hlt)).2.2.1 (fg i).1
        rw [pl_get a1 s T 0 i hlt, Nat.zero_add] at this
        exact this (hfg i (by omega)).1
      have hG : SUM G 0 T = SUM (fun i => (fg i).2) 0 T * 2 ^ 1074 := SUM_scale _ _ _ T 0 fun i _ hi => by
        have hlt : i < (pl a1 s 0 T).length := by omega
        have := (e2.2 i hlt (by rw [e2.1]; exact hlt)).2.2.2 (fg i).2
        rw [pl_get a1 s T 0 i hlt, Nat.zero_add] at this
        exact this (hfg i (by omega)).2.2.1
      rw [hF] at m2; rw [hG] at m3
      obtain ⟨x', y', r1, r2, r3, r4, r5⟩ := cent_loop a1 s T ⟨hs2, hs8⟩ hT hTl (fun i => (fg i).1) (fun i => (fg i).2) (fun i hi => ⟨(hfg i hi).1, (hfg i hi).2.1⟩) (fun i hi => ⟨(hfg i hi).2.2.1, (hfg i hi).2.2.2⟩) T 0 30000 0 0 0 0 0 0 rfl (by omega) (by omega) (D_zero _) (D_zero _) (by simp) (by simp)
      rw [Int.zero_add] at r2 r3 r4 r5
      have r1' : xy_PointsCentroidFlat_l1 a1 (s : Int) 30000 (0, [0, 0], [0, 0], 0) = some ((T : Int), [x', y']) := by
        rw [Nat.zero_mul] at r1; exact r1
      have hb4 : T * 1048576 ≤ 200 * 1048576 := Nat.mul_le_mul_right _ hTl
      have hTd : D (i2f (T : Int)) (T : Int) 1074 := D_i2f (by omega)
      have n1 := nearRatio_is 30000 x' _ T s1 l1 x1 s3 l3 r2 (by omega) hT0 hTl m2 m4 m5 (by omega)
      have n2 := nearRatio_is 30000 y' _ T s2 l2 x2 s3 l3 r3 (by omega) hT0 hTl m3 m4 m5 (by omega)
      have hq1 := fdiv_some r2 hTd hT0
      have hq2 := fdiv_some r3 hTd hT0
      have himp : impl_PointsCentroidFlat 30000 a0 a1 = some ([gdiv x' (i2f (T : Int)), gdiv y' (i2f (T : Int))], true) := by
        unfold impl_PointsCentroidFlat xy_PointsCentroidFlat xy_NewPointCentroidCalculator
        rw [lstride_is _ _ ha0, hs]
        simp only [sbind, r1', xy_PointCentroidCalculator_GetCentroid]
        simp only [show idx [x', y'] 0 = some x' from rfl, show idx [x', y'] 1 = some y' from rfl, sbind, hq1, hq2, show idx [0, 0] 0 = some 0 from rfl]
        unfold impl_floats
        simp only [show ∀ w : Nat, ([0, 0] : List Nat).set (0 : Int).toNat w = [w, 0] from fun _ => rfl, show ∀ w : Nat, idx [w, 0] 1 = some 0 from fun _ => rfl, sbind, show ∀ w z : Nat, ([w, 0] : List Nat).set (1 : Int).toNat z = [w, z] from fun _ _ => rfl]
        rw [apd_some (by simp) (by simp)]
        rfl
      rw [himp]
      simp only [sbind, br_true]
      unfold laws_centred
      rw [show (!decide ((([gdiv x' (i2f (T : Int)), gdiv y' (i2f (T : Int))] : List Nat).length : Int) = 2)) = false from rfl, br_false, show decide ((2 : Int) < 2) = false from rfl]
      unfold laws_centred_j1
      rw [br_false, show idx [gdiv x' (i2f (T : Int)), gdiv y' (i2f (T : Int))] 0 = some (gdiv x' (i2f (T : Int))) from rfl, sbind, n1, sbind]
      unfold laws_centred_j2
      rw [Bool.not_true, br_false, show idx [gdiv x' (i2f (T : Int)), gdiv y' (i2f (T : Int))] 1 = some (gdiv y' (i2f (T : Int))) from rfl, sbind, n2, sbind]
      unfold laws_centred_j3
      rw [Bool.not_true, br_false, cut_some (by omega) (by simp) (by simp), sbind]
      rfl
    · rw [decide_eq_false (show ¬ (0 : Int) < (T : Int) by omega), Bool.not_false, br_true]
end Go.Proofs.Ytnemkhcjmenfnaa
