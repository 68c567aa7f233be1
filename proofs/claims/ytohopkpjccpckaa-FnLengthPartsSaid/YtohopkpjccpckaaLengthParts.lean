/-
  The length of a geometry of parts is the sum of those of its parts: the plain statement. Ours.
-/
import Derived.Test.YtohopkpjccpckaaGeomCopy
import Derived.Test.YtohopkpjccpckaaSxY
import Derived.Test.YtohopkpjccpckaaSxL
namespace Go.Proofs.Ytohopkpjccpckaa
open Go.Sx
open Ieee (signed)
set_option linter.unusedVariables false
set_option linter.unusedSimpArgs false
set_option maxRecDepth 100000

theorem D_thousand : D 4652007308841189376 ((1000 : Nat) : Int) 1074 := by
  have := D_fields (E := 1032) (F := 4292493394837504) (by omega) (by omega) (by omega) (n := ((1000 : Nat) : Int)) (v := 1074) (by
    rw [show (1074 : Nat) = 43 + (1032 - 1) from rfl, Int.pow_add, ← Int.mul_assoc]; congr 1)
  exact this
theorem D_tiny : D 4517110426252607488 1 1054 := by
  have := D_fields (E := 1003) (F := 0) (by omega) (by omega) (by omega) (n := 1) (v := 1054) (by
    rw [Int.one_mul, show (1054 : Nat) = 52 + (1003 - 1) from rfl, Int.pow_add]; rfl)
  exact this
theorem abs_is (k x : Nat) (hx : x < 2 ^ 64) : math_Abs k x = some (x % 2 ^ 63) := by
  have h1 := bv_nat64 x hx
  have e : iandn .u64 (x : Int) 9223372036854775808 = ((x % 2 ^ 63 : Nat) : Int) := by
    unfold iandn
    have e3 : (BitVec.ofInt IntKind.u64.bits (x : Int) &&& ~~~ BitVec.ofInt IntKind.u64.bits 9223372036854775808).toNat = x % 2 ^ 63 := by
      show (BitVec.ofInt 64 (x : Int) &&& ~~~ BitVec.ofInt 64 9223372036854775808).toNat = _
      rw [BitVec.toNat_and, h1, show (~~~ BitVec.ofInt 64 9223372036854775808).toNat = 2 ^ 63 - 1 from by decide, Nat.and_two_pow_sub_one_eq_mod]
    rw [e3]; exact wrap_u64_id (by omega) (by omega)
  unfold math_Abs ffrom
  rw [show fbits x = (x : Int) from rfl, e, Int.toNat_natCast]

/-! #### whole numbers -/
theorem each_one (k x : Nat) (hx : x < 2 ^ 64) : ∃ b, laws_FnLengthParts_1 k x = some b ∧ (b = true → ∃ n : Int, D x n 1074 ∧ n.natAbs ≤ 1000) := by
  have hw : laws_gWhole k x = some (fge x 13920626448202203136 && fle x 4697254411347427328 && feq x (gint .zero x)) := by
    unfold laws_gWhole laws_gWhole_j1 laws_gWhole_j2 math_Trunc
    cases fge x 13920626448202203136 <;> cases fle x 4697254411347427328 <;> rfl
  unfold laws_FnLengthParts_1 laws_FnLengthParts_1_j1 laws_FnLengthParts_1_j2
  rw [hw, sbind]
  cases h1 : (fge x 13920626448202203136 && fle x 4697254411347427328 && feq x (gint .zero x)) with
  | false => rw [br_false]; exact ⟨_, rfl, fun h => by cases h⟩
  | true =>
    rw [br_true]
    cases h2 : fge x 13875379345695965184 with
    | false => rw [br_false]; exact ⟨_, rfl, fun h => by cases h⟩
    | true =>
      rw [br_true]
      refine ⟨_, rfl, fun h3 => ?_⟩
      simp only [Bool.and_eq_true] at h1
      exact grid_one hx (by omega) D_thousand h2 h3 (by rw [fne_feq, h1.2]; rfl)
theorem each_loop (xs : List Nat) (hx : ∀ x ∈ xs, x < 2 ^ 64) (hl : xs.length ≤ 2147483647) : ∀ (n k i : Nat), xs.length - i = n → n < k → i ≤ xs.length →
    ∃ y, laws_gEach_l1 xs k (i : Int) = some y ∧ (y = .inr () → ∀ j x, i ≤ j → xs[j]? = some x → ∃ n : Int, D x n 1074 ∧ n.natAbs ≤ 1000) := by
  intro n
  induction n with
  | zero =>
    intro k i hn hk hi
    obtain ⟨k, rfl⟩ : ∃ j, k = j + 1 := ⟨k - 1, by omega⟩
    exact ⟨.inr (), by simp only [laws_gEach_l1, laws_gEach_l1s, lt_false (show ¬ i < xs.length by omega), br_false], fun _ j x hj h => by
      rw [List.getElem?_eq_none (by omega)] at h; cases h⟩
  | succ n ih =>
    intro k i hn hk hi
    obtain ⟨k, rfl⟩ : ∃ j, k = j + 1 := ⟨k - 1, by omega⟩
    have hlt : i < xs.length := by omega
    obtain ⟨b, h1, h2⟩ := each_one k xs[i] (hx _ (List.getElem_mem hlt))
    obtain ⟨y, y1, y2⟩ := ih k (i + 1) (by omega) (by omega) (by omega)
    cases b with
    | false =>
      refine ⟨.inl (), ?_, fun h => by cases h⟩
      simp only [laws_gEach_l1, laws_gEach_l1s, lt_true hlt, br_true, idx_get hlt, Option.bind_eq_bind, Option.bind_some, h1, Bool.not_false]
    | true =>
      refine ⟨y, ?_, fun h j x hj hjx => ?_⟩
      · simp only [laws_gEach_l1, laws_gEach_l1s, lt_true hlt, br_true, br_false, idx_get hlt, Option.bind_eq_bind, Option.bind_some, h1, Bool.not_true, iadd_one (show i < 9223372036854775807 by omega), y1]
      · by_cases hji : j = i
        · subst hji
          rw [List.getElem?_eq_getElem hlt] at hjx
          cases hjx
          exact h2 rfl
        · exact y2 h j x (by omega) hjx
def Thou (a : List Nat) : Prop := ∀ i (h : i < a.length), ∃ n : Int, D a[i] n 1074 ∧ n.natAbs ≤ 1000
theorem gEach_is (k : Nat) (x0 x1 x2 : Int) (x3 : List Nat) (x4 : List Int) (x5 : List (List Int)) (hx : ∀ x ∈ x3, x < 18446744073709551616) (hl : x3.length ≤ 2147483647) (hk : x3.length + 3 < k) :
    ∃ b, laws_gEach k x0 x1 x2 x3 x4 x5 [] = some b ∧ (b = true → Thou x3) := by
  obtain ⟨k, rfl⟩ : ∃ j, k = j + 2 := ⟨k - 2, by omega⟩
  show ∃ b, laws_gEach_b (laws_gEach (k + 1)) (k + 1) x0 x1 x2 x3 x4 x5 [] = some b ∧ _
  obtain ⟨y, y1, y2⟩ := each_loop x3 (fun x h => by have := hx x h; omega) hl x3.length (k + 1) 0 (by omega) (by omega) (by omega)
  have y1' : laws_gEach_l1 x3 (k + 1) 0 = some y := y1
  unfold laws_gEach_b
  rw [y1', sbind]
  cases y with
  | inl u => exact ⟨false, rfl, fun h => by cases h⟩
  | inr u => exact ⟨true, rfl, fun _ i h => y2 rfl i _ (by omega) (List.getElem?_eq_getElem h)⟩

/-! #### the length of a line, as a word -/
theorem sq_bound {a b : Int} (ha : a.natAbs ≤ 1000) (hb : b.natAbs ≤ 1000) : ∃ q : Nat, (a - b) * (a - b) = (q : Int) ∧ q ≤ 4000000 := by
  have h1 : (a - b).natAbs ≤ 2000 := by omega
  refine ⟨(a - b).natAbs * (a - b).natAbs, by rw [Int.natCast_mul]; exact (Int.natAbs_mul_self' _).symm, ?_⟩
  have := Nat.mul_le_mul h1 h1
  omega
def UU (a : List Nat) (s i : Nat) : Nat :=
  gadd (gmul (gsub (a.getD i 0) (a.getD (i - s) 0)) (gsub (a.getD i 0) (a.getD (i - s) 0))) (gmul (gsub (a.getD (i + 1) 0) (a.getD (i + 1 - s) 0)) (gsub (a.getD (i + 1) 0) (a.getD (i + 1 - s) 0)))
def LW (a : List Nat) (s : Nat) : Nat → Nat → Nat → Nat
  | 0, _, x => x
  | n + 1, i, x => LW a s n (i + s) (gadd x (gsqrt (UU a s i)))
theorem getD_is {a : List Nat} {i : Nat} (h : i < a.length) : a.getD i 0 = a[i] := by simp [List.getD, List.getElem?_eq_getElem h]
theorem UU_is (a : List Nat) (ha : Thou a) (s i : Nat) (hi : i + 1 < a.length) : ∃ c : Nat, D (UU a s i) (c : Int) 1074 ∧ c ≤ 8000000 ∧ fsub (a.getD i 0) (a.getD (i - s) 0) = some (gsub (a.getD i 0) (a.getD (i - s) 0)) ∧ fsub (a.getD (i + 1) 0) (a.getD (i + 1 - s) 0) = some (gsub (a.getD (i + 1) 0) (a.getD (i + 1 - s) 0)) := by
  obtain ⟨n1, d1, b1⟩ := ha i (by omega)
  obtain ⟨n2, d2, b2⟩ := ha (i - s) (by omega)
  obtain ⟨n3, d3, b3⟩ := ha (i + 1) hi
  obtain ⟨n4, d4, b4⟩ := ha (i + 1 - s) (by omega)
  rw [← getD_is] at d1 d2 d3 d4
  obtain ⟨u, hu, du⟩ := D_sub d1 d2 rfl (by omega) (by omega)
  obtain ⟨v, hv, dv⟩ := D_sub d3 d4 rfl (by omega) (by omega)
  have eu := fsub_g hu
  have ev := fsub_g hv
  obtain ⟨p, hp, hpb⟩ := sq_bound b1 b2
  obtain ⟨q, hq, hqb⟩ := sq_bound b3 b4
  have du2 := gmul_D (u := 1074) du du hp rfl (by omega) (by omega) (by omega)
  have dv2 := gmul_D (u := 1074) dv dv hq rfl (by omega) (by omega) (by omega)
  have dc := gadd_D du2 dv2 (c := ((p + q : Nat) : Int)) (by omega) (by omega) (by omega)
  refine ⟨p + q, ?_, by omega, by rw [hu, eu], by rw [hv, ev]⟩
  unfold UU; rw [← eu, ← ev]; exact dc
theorem root_bound {x c : Nat} (h : D x (c : Int) 1074) (hc : c ≤ 8000000) : ∃ N : Nat, D (gsqrt x) (N : Int) 0 ∧ N ≤ 1 * 2 ^ 1086 := by
  obtain ⟨N, dN, N1, N2⟩ := gsqrt_near h (Nat.lt_of_lt_of_le (show c < 2 ^ 24 by omega) (pow_le2 24 1000 (by omega)))
  exact ⟨N, dN, N1 1 1086 (by omega) (sq_bound2 c 24 2148 1086 0 (by omega) rfl)⟩
theorem add_bound {x y A B M K v : Nat} (hx : D x (A : Int) 0) (hy : D y (B : Int) 0) (hA : A ≤ M * 2 ^ v) (hB : B ≤ K * 2 ^ v) (hM : M + K ≤ 2 ^ 53) (hv : v ≤ 2000) : ∃ N : Nat, D (gadd x y) (N : Int) 0 ∧ N ≤ (M + K) * 2 ^ v := by
  have h1 : A + B ≤ (M + K) * 2 ^ v := by rw [Nat.add_mul]; exact Nat.add_le_add hA hB
  have h2 : (M + K) * 2 ^ v < 2 ^ 2096 := mul_pow_lt2 (M + K) 54 v 2096 (by omega) (by omega)
  obtain ⟨N, n1, n2, n3⟩ := gadd_near hx hy (Nat.lt_of_le_of_lt h1 h2)
  exact ⟨N, n1, n2 (M + K) v hM h1⟩
theorem LW_bound (a : List Nat) (ha : Thou a) (s : Nat) (hs : 2 ≤ s) : ∀ (n i x A M : Nat), s ≤ i → (n = 0 ∨ i + n * s ≤ a.length) → D x (A : Int) 0 → A ≤ M * 2 ^ 1086 → M + n ≤ 2 ^ 53 → ∃ B : Nat, D (LW a s n i x) (B : Int) 0 ∧ B ≤ (M + n) * 2 ^ 1086
  | 0, _, x, A, M, _, _, hx, hA, _ => ⟨A, hx, hA⟩
  | n + 1, i, x, A, M, h1, h2, hx, hA, hM => by
    have h3 : i + s + n * s ≤ a.length := by
      rcases h2 with h | h
      · omega
      · rw [Nat.add_mul, Nat.one_mul] at h; omega
    obtain ⟨c, c1, c2, _⟩ := UU_is a ha s i (by omega)
    obtain ⟨N, n1, n2⟩ := root_bound c1 c2
    obtain ⟨B, b1, b2⟩ := add_bound hx n1 hA n2 (by omega) (by omega)
    obtain ⟨C, d1, d2⟩ := LW_bound a ha s hs n (i + s) _ B (M + 1) (by omega) (.inr (by omega)) b1 b2 (by omega)
    refine ⟨C, d1, ?_⟩
    rw [show M + (n + 1) = M + 1 + n from by omega]; exact d2
theorem len_loop (a : List Nat) (ha : Thou a) (hl : a.length ≤ 2147483647) (s : Nat) (hs : 2 ≤ s ∧ s + a.length ≤ 9223372036854775807) (b : Nat) (hb : b ≤ a.length) : ∀ (n i k x : Nat), ((n = 0 ∧ b ≤ i) ∨ b = i + n * s) → s ≤ i → n < k →
    gogeom_length1_l1 (b : Int) a (s : Int) k (x, (i : Int)) = some (LW a s n i x) := by
  intro n
  induction n with
  | zero =>
    intro i k x h1 h2 hk
    obtain ⟨k, rfl⟩ : ∃ j, k = j + 1 := ⟨k - 1, by omega⟩
    simp only [gogeom_length1_l1, gogeom_length1_l1s, lt_false (show ¬ i < b by omega), br_false, LW]
  | succ n ih =>
    intro i k x h1 h2 hk
    obtain ⟨k, rfl⟩ : ∃ j, k = j + 1 := ⟨k - 1, by omega⟩
    have hbi : b = i + s + n * s := by
      rcases h1 with h | h
      · omega
      · rw [Nat.add_mul, Nat.one_mul] at h; omega
    have j1 : i < a.length := by omega
    have j2 : i - s < a.length := by omega
    have j3 : i + 1 < a.length := by omega
    have j4 : i + 1 - s < a.length := by omega
    have e2 : isub .i64 (i : Int) (s : Int) = ((i - s : Nat) : Int) := by rw [isub_i64 (by omega) (by omega)]; omega
    have e3 : iadd .i64 (i : Int) 1 = ((i + 1 : Nat) : Int) := iadd_one (by omega)
    have e4 : isub .i64 ((i + 1 : Nat) : Int) (s : Int) = ((i + 1 - s : Nat) : Int) := by rw [isub_i64 (by omega) (by omega)]; omega
    have e6 : iadd .i64 (i : Int) (s : Int) = ((i + s : Nat) : Int) := by rw [iadd_i64 (by omega) (by omega)]; omega
    obtain ⟨c, c1, c2, c3, c4⟩ := UU_is a ha s i j3
    have hnum : num (UU a s i) = some (UU a s i) := by unfold num; rw [isn_D c1]; rfl
    have := ih (i + s) k (gadd x (gsqrt (UU a s i))) (.inr hbi) (by omega) (by omega)
    rw [getD_is j1, getD_is j2] at c3
    rw [getD_is j3, getD_is j4] at c4
    have hUU : UU a s i = gadd (gmul (gsub a[i] a[i - s]) (gsub a[i] a[i - s])) (gmul (gsub a[i + 1] a[i + 1 - s]) (gsub a[i + 1] a[i + 1 - s])) := by
      unfold UU; rw [getD_is j1, getD_is j2, getD_is j3, getD_is j4]
    rw [hUU] at hnum this
    simp only [gogeom_length1_l1, gogeom_length1_l1s, lt_true (show i < b by omega), br_true, e2, e3, e4, e6, idx_get j1, idx_get j2, idx_get j3, idx_get j4, c3, c4, hnum, math_Sqrt, Option.bind_eq_bind, Option.bind_some, this, LW, hUU]
def cn (f b s : Nat) : Nat := (b - f) / s - 1
theorem cn_is {f b s : Nat} (h : f ≤ b) (hm : (b - f) % s = 0) : (cn f b s = 0 ∧ b ≤ f + s) ∨ b = f + s + cn f b s * s := by
  unfold cn
  obtain ⟨d, hd⟩ : ∃ d, b - f = d := ⟨_, rfl⟩
  rw [hd] at hm ⊢
  have hq : d / s * s = d := Nat.div_mul_cancel (Nat.dvd_of_mod_eq_zero hm)
  obtain ⟨q, hq'⟩ : ∃ q, d / s = q := ⟨_, rfl⟩
  rw [hq'] at hq ⊢
  rcases Nat.eq_zero_or_pos q with h0 | h0
  · subst h0; left; omega
  · right
    have : q = (q - 1) + 1 := by omega
    rw [this, Nat.add_mul, Nat.one_mul] at hq
    omega
theorem cn_le (f b s : Nat) : cn f b s ≤ b - f := by
  unfold cn
  have := Nat.div_le_self (b - f) s
  omega
theorem len1_is (a : List Nat) (ha : Thou a) (hl : a.length ≤ 2147483647) (s : Nat) (hs : 2 ≤ s ∧ s + a.length ≤ 9223372036854775807) (f b k : Nat) (hf : f ≤ b) (hb : b ≤ a.length) (hm : (b - f) % s = 0) (hk : a.length < k) :
    gogeom_length1 k a (f : Int) (b : Int) (s : Int) = some (LW a s (cn f b s) (f + s) 0) := by
  unfold gogeom_length1
  have := cn_le f b s
  rw [show iadd .i64 (f : Int) (s : Int) = ((f + s : Nat) : Int) from by rw [iadd_i64 (by omega) (by omega)]; omega, len_loop a ha hl s hs b hb (cn f b s) (f + s) k 0 (cn_is hf hm) (by omega) (by omega), sbind]
theorem cut_get {a : List Nat} {f b j : Nat} (hb : b ≤ a.length) (h : f + j < b) : ((a.take b).drop f).getD j 0 = a.getD (f + j) 0 := by
  have h1 : j < ((a.take b).drop f).length := by rw [List.length_drop, List.length_take]; omega
  rw [getD_is h1, getD_is (show f + j < a.length by omega)]
  simp
theorem LW_cut (a : List Nat) (s f b : Nat) (hb : b ≤ a.length) (hs : 2 ≤ s) : ∀ (n i x : Nat), s ≤ i → (n = 0 ∨ f + i + n * s ≤ b) → LW ((a.take b).drop f) s n i x = LW a s n (f + i) x
  | 0, _, _, _, _ => rfl
  | n + 1, i, x, h1, h2 => by
    have h3 : f + i + s + n * s ≤ b := by
      rcases h2 with h | h
      · omega
      · rw [Nat.add_mul, Nat.one_mul] at h; omega
    have hU : UU ((a.take b).drop f) s i = UU a s (f + i) := by
      unfold UU
      rw [cut_get hb (show f + i < b by omega), cut_get hb (show f + (i - s) < b by omega), cut_get hb (show f + (i + 1) < b by omega), cut_get hb (show f + (i + 1 - s) < b by omega)]
      rw [show f + (i - s) = f + i - s from by omega, show f + (i + 1) = f + i + 1 from by omega, show f + (i + 1 - s) = f + i + 1 - s from by omega]
    rw [LW, LW, hU, LW_cut a s f b hb hs n (i + s) _ (by omega) (.inr (by omega)), show f + (i + s) = f + i + s from by omega]
theorem Thou_cut {a : List Nat} (h : Thou a) (f b : Nat) : Thou ((a.take b).drop f) := fun i hi => by
  rw [List.length_drop, List.length_take] at hi
  have := h (f + i) (by omega)
  simpa using this

/-! #### the length of lines with ends -/
def CH (P : Nat → Nat) (es : List Int) (s top : Nat) : Prop := (∀ j, j < es.length → es.getD j 0 = (P (j + 1) : Int) ∧ P j ≤ P (j + 1) ∧ (P (j + 1) - P j) % s = 0) ∧ P es.length ≤ top
theorem CH_le {P : Nat → Nat} {es : List Int} {s top : Nat} (h : CH P es s top) : ∀ n i, es.length - i = n → i ≤ es.length → P i ≤ top := by
  intro n
  induction n with
  | zero => intro i hn hi
            have : i = es.length := by omega
            subst this; exact h.2
  | succ n ih => intro i hn hi
                 have h1 := (h.1 i (by omega)).2.1
                 have h2 := ih (i + 1) (by omega) (by omega)
                 omega
def W2 (a : List Nat) (s : Nat) (P : Nat → Nat) : Nat → Nat
  | 0 => 0
  | j + 1 => gadd (W2 a s P j) (LW a s (cn (P j) (P (j + 1)) s) (P j + s) 0)
theorem ring_bound (a : List Nat) (ha : Thou a) (hl : a.length ≤ 2147483647) (s : Nat) (hs : 2 ≤ s) (f b : Nat) (hf : f ≤ b) (hb : b ≤ a.length) (hm : (b - f) % s = 0) : ∃ B : Nat, D (LW a s (cn f b s) (f + s) 0) (B : Int) 0 ∧ B ≤ (b - f) * 2 ^ 1086 := by
  have h1 := cn_is hf hm
  have h2 := cn_le f b s
  obtain ⟨B, b1, b2⟩ := LW_bound a ha s hs (cn f b s) (f + s) 0 0 0 (by omega) (by omega) (D_zero 0) (Nat.zero_le _) (by omega)
  exact ⟨B, b1, Nat.le_trans b2 (Nat.mul_le_mul_right _ (by omega))⟩
theorem W2_bound (a : List Nat) (ha : Thou a) (hl : a.length ≤ 2147483647) (s : Nat) (hs : 2 ≤ s) {P : Nat → Nat} {es : List Int} (h : CH P es s a.length) : ∀ j, j ≤ es.length → ∃ B : Nat, D (W2 a s P j) (B : Int) 0 ∧ B ≤ (P j - P 0) * 2 ^ 1086 ∧ P 0 ≤ P j
  | 0, _ => ⟨0, D_zero 0, Nat.zero_le _, Nat.le_refl _⟩
  | j + 1, hj => by
    obtain ⟨A, a1, a2, a3⟩ := W2_bound a ha hl s hs h j (by omega)
    obtain ⟨_, h2, h3⟩ := h.1 j (by omega)
    have hP := CH_le h (es.length - (j + 1)) (j + 1) rfl (by omega)
    obtain ⟨B, b1, b2⟩ := ring_bound a ha hl s hs (P j) (P (j + 1)) h2 hP h3
    obtain ⟨C, c1, c2⟩ := add_bound a1 b1 a2 b2 (by omega) (by omega)
    refine ⟨C, c1, ?_, by omega⟩
    rw [show P j - P 0 + (P (j + 1) - P j) = P (j + 1) - P 0 from by omega] at c2; exact c2
theorem pack2 (a : List Nat) (ha : Thou a) (hl : a.length ≤ 2147483647) (s : Nat) (hs : 2 ≤ s ∧ s + a.length ≤ 9223372036854775807) (P : Nat → Nat) (es : List Int) (he : es.length ≤ 2147483647) (h : CH P es s a.length) : ∀ (n j k : Nat), es.length - j = n → n + a.length + 1 < k → j ≤ es.length →
    gogeom_length2_l1 es a (s : Int) k ((P j : Int), W2 a s P j, (j : Int)) = some (W2 a s P es.length) := by
  intro n
  induction n with
  | zero =>
    intro j k hn hk hj
    obtain ⟨k, rfl⟩ : ∃ j, k = j + 1 := ⟨k - 1, by omega⟩
    have : j = es.length := by omega
    subst this
    simp only [gogeom_length2_l1, gogeom_length2_l1s, lt_false (Nat.lt_irrefl _), br_false]
  | succ n ih =>
    intro j k hn hk hj
    obtain ⟨k, rfl⟩ : ∃ j, k = j + 1 := ⟨k - 1, by omega⟩
    have hlt : j < es.length := by omega
    obtain ⟨h1, h2, h3⟩ := h.1 j hlt
    have hg : es.getD j 0 = es[j] := by simp [List.getD, List.getElem?_eq_getElem hlt]
    rw [hg] at h1
    have hP := CH_le h (es.length - (j + 1)) (j + 1) rfl (by omega)
    have := ih (j + 1) k (by omega) (by omega) (by omega)
    simp only [gogeom_length2_l1, gogeom_length2_l1s, lt_true hlt, br_true, idx_get hlt, h1, len1_is a ha hl s hs (P j) (P (j + 1)) k h2 hP h3 (by omega), Option.bind_eq_bind, Option.bind_some, iadd_one (show j < 9223372036854775807 by omega)]
    exact this
theorem len2_is (a : List Nat) (ha : Thou a) (hl : a.length ≤ 2147483647) (s : Nat) (hs : 2 ≤ s ∧ s + a.length ≤ 9223372036854775807) (P : Nat → Nat) (es : List Int) (he : es.length ≤ 2147483647) (h : CH P es s a.length) (k : Nat) (hk : es.length + a.length + 1 < k) :
    gogeom_length2 k a (P 0 : Int) es (s : Int) = some (W2 a s P es.length) := by
  have := pack2 a ha hl s hs P es he h es.length 0 k (by omega) hk (by omega)
  have h' : gogeom_length2_l1 es a (s : Int) k ((P 0 : Int), 0, 0) = some (W2 a s P es.length) := this
  unfold gogeom_length2
  rw [h', sbind]
theorem W2_cut (a : List Nat) (s : Nat) (hs : 2 ≤ s) (P : Nat → Nat) (es : List Int) (h : CH P es s a.length) (f b : Nat) (hf : f = P 0) (hb : b = P es.length) : ∀ j, j ≤ es.length → W2 ((a.take b).drop f) s (fun i => P i - f) j = W2 a s P j ∧ P 0 ≤ P j
  | 0, _ => ⟨rfl, Nat.le_refl _⟩
  | j + 1, hj => by
    obtain ⟨ih, ih2⟩ := W2_cut a s hs P es h f b hf hb j (by omega)
    obtain ⟨_, h2, h3⟩ := h.1 j (by omega)
    have h' : CH P es s b := ⟨h.1, by omega⟩
    have hP := CH_le h' (es.length - (j + 1)) (j + 1) rfl (by omega)
    have hc := cn_is h2 h3
    have hcn : cn (P j - f) (P (j + 1) - f) s = cn (P j) (P (j + 1)) s := by unfold cn; congr 2; omega
    have htop := h.2
    refine ⟨?_, by omega⟩
    show gadd (W2 ((a.take b).drop f) s (fun i => P i - f) j) (LW ((a.take b).drop f) s (cn (P j - f) (P (j + 1) - f) s) (P j - f + s) 0) = gadd (W2 a s P j) (LW a s (cn (P j) (P (j + 1)) s) (P j + s) 0)
    rw [ih, hcn, LW_cut a s f b (by omega) hs _ _ _ (by omega) (by
      rcases hc with hc | hc
      · exact .inl hc.1
      · exact .inr (by omega)), show f + (P j - f + s) = P j + s from by omega]
end Go.Proofs.Ytohopkpjccpckaa
