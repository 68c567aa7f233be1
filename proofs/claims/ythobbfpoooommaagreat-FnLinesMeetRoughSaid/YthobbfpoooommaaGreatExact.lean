/-
  The exact arithmetic that the statements are told with, as whole numbers: limbs. Ours.
-/
import Derived.Test.YthobbfpoooommaaGreatFun
import Derived.Test.YthobbfpoooommaaGreatSxW
namespace Go.Proofs.YthobbfpoooommaaGreat
open Go.Sx
set_option linter.unusedVariables false
set_option linter.unusedSimpArgs false
set_option maxRecDepth 100000

/-! ### trim -/
theorem lv_snoc0 (l : List Int) : lv (l ++ [0]) = lv l := by rw [lv_app]; simp [lv]

theorem trim_is : ∀ (n k : Nat) (l : List Int), l.length ≤ n → n < k → n < 1000000 → Lim l → ∃ l', spec_trim_l1 k l = some l' ∧ Lb l' (lv l) ∧ l'.length ≤ l.length := by
  intro n
  induction n with
  | zero =>
    intro k l hl hk _ hlim
    have : l = [] := List.length_eq_zero_iff.1 (by omega)
    subst this
    obtain ⟨k, rfl⟩ : ∃ j, k = j + 1 := ⟨k - 1, by omega⟩
    refine ⟨[], by simp [spec_trim_l1, spec_trim_l1s, spec_trim_j2], ⟨lim_nil, fun x h => by simp at h, rfl⟩, by simp⟩
  | succ n ih =>
    intro k l hl hk hn hlim
    obtain ⟨k, rfl⟩ : ∃ j, k = j + 1 := ⟨k - 1, by omega⟩
    by_cases h0 : l = []
    · subst h0
      refine ⟨[], by simp [spec_trim_l1, spec_trim_l1s, spec_trim_j2], ⟨lim_nil, fun x h => by simp at h, rfl⟩, by simp⟩
    · have hpos : 0 < l.length := List.length_pos_iff.2 h0
      have hsub : isub .i64 (l.length : Int) 1 = ((l.length - 1 : Nat) : Int) := by rw [isub_i64 (by omega) (by omega)]; omega
      have hlast : idx l ((l.length - 1 : Nat) : Int) = some (l.getLast h0) := by
        rw [idx_get (by omega)]; rw [List.getLast_eq_getElem]
      have hlen : decide ((0 : Int) < (l.length : Int)) = true := by simp; omega
      by_cases hz : l.getLast h0 = 0
      · have hcut : cut l 0 ((l.length - 1 : Nat) : Int) = some l.dropLast := by
          rw [cut_some (by omega) (by omega) (by omega)]
          simp [List.dropLast_eq_take]
        obtain ⟨l', h1, h2, h3⟩ := ih k l.dropLast (by simp; omega) (by omega) (by omega) (fun x hx => hlim x (List.dropLast_subset _ hx))
        refine ⟨l', ?_, ?_, by simp at h3; omega⟩
        · simp only [spec_trim_l1, spec_trim_l1s, spec_trim_j2, hsub, hlast, hlen, br_true, Option.bind_eq_bind, Option.bind_some, hz, decide_true, hcut, h1]
        · have : lv l = lv l.dropLast := by
            conv => lhs; rw [← List.dropLast_concat_getLast h0, hz, lv_snoc0]
          rw [this]; exact h2
      · refine ⟨l, ?_, ⟨hlim, fun x hx => ?_, rfl⟩, by omega⟩
        · simp only [spec_trim_l1, spec_trim_l1s, spec_trim_j2, hsub, hlast, hlen, br_true, Option.bind_eq_bind, Option.bind_some, hz, decide_false, br_false]
        · rw [List.getLast?_eq_some_getLast h0] at hx
          cases hx; exact hz
theorem trim_some {k : Nat} {l : List Int} (hk : l.length < k) (hn : l.length < 1000000) (h : Lim l) : ∃ l', spec_trim k l = some l' ∧ Lb l' (lv l) ∧ l'.length ≤ l.length := by
  obtain ⟨l', h1, h2⟩ := trim_is l.length k l (by omega) hk hn h
  exact ⟨l', by simp [spec_trim, h1], h2⟩

/-! ### sums of limbs -/
theorem add_loop (x1 x2 : List Int) (h1 : Lim x1) (h2 : Lim x2) (hl : x2.length ≤ x1.length) (hb : x1.length < 1000000) :
    ∀ (n k i : Nat) (acc : List Int) (c : Int), x1.length - i = n → n < k → i ≤ x1.length → acc.length = i → Lim acc → 0 ≤ c → c ≤ 1 →
      ∃ acc' c', spec_addLimbs_l1 x1 x2 k (acc, c, (i : Int)) = some (acc', c') ∧ Lim acc' ∧ acc'.length = x1.length ∧ 0 ≤ c' ∧ c' ≤ 1 ∧
        lv acc' + 4294967296 ^ x1.length * c' = lv acc + 4294967296 ^ i * (c + lv (x1.drop i) + lv (x2.drop i)) := by
  intro n
  induction n with
  | zero =>
    intro k i acc c hn hk hi hacc hlim hc0 hc1
    obtain ⟨k, rfl⟩ : ∃ j, k = j + 1 := ⟨k - 1, by omega⟩
    have hii : i = x1.length := by omega
    refine ⟨acc, c, ?_, hlim, by omega, hc0, hc1, ?_⟩
    · have : decide ((i : Int) < (x1.length : Int)) = false := by simp; omega
      simp only [spec_addLimbs_l1, spec_addLimbs_l1s, this, br_false]
    · rw [List.drop_eq_nil_of_le (by omega), List.drop_eq_nil_of_le (by omega), hii]; simp [lv]
  | succ n ih =>
    intro k i acc c hn hk hi hacc hlim hc0 hc1
    obtain ⟨k, rfl⟩ : ∃ j, k = j + 1 := ⟨k - 1, by omega⟩
    have hlt : i < x1.length := by omega
    have hd : decide ((i : Int) < (x1.length : Int)) = true := by simp; omega
    have hx := lim_get h1 (List.getElem?_eq_getElem hlt)
    have hdrop : lv (x1.drop i) = x1[i] + 4294967296 * lv (x1.drop (i + 1)) := by rw [List.drop_eq_getElem_cons hlt]; rfl
    have hadd1 : iadd .i64 (i : Int) 1 = ((i + 1 : Nat) : Int) := by rw [iadd_i64 (by omega) (by omega)]; omega
    -- one round, with s in hand
    have round : ∀ (y s : Int), (0 ≤ y ∧ y < 4294967296) → s = x1[i] + c + y → lv (x2.drop i) = y + 4294967296 * lv (x2.drop (i + 1)) →
        spec_addLimbs_l1s x1 x2 k (spec_addLimbs_l1 x1 x2 k) acc c (i : Int) = spec_addLimbs_j3 k acc (spec_addLimbs_l1 x1 x2 k) (i : Int) s →
        ∃ acc' c', spec_addLimbs_l1 x1 x2 (k + 1) (acc, c, (i : Int)) = some (acc', c') ∧ Lim acc' ∧ acc'.length = x1.length ∧ 0 ≤ c' ∧ c' ≤ 1 ∧
          lv acc' + 4294967296 ^ x1.length * c' = lv acc + 4294967296 ^ i * (c + lv (x1.drop i) + lv (x2.drop i)) := by
      intro y s hy hs hdy hr
      have hs0 : 0 ≤ s := by omega
      have hs1 : s < 8589934592 := by omega
      have happ : apd 4 acc [icv .u32 s] = some (acc ++ [s % 4294967296]) := by
        rw [icv_u32]; exact apd_some (by simp; omega) (by simp; omega)
      have hshr : ishr .u64 s 32 = some (s / 4294967296) := by
        have := ishr_u64 (n := 32) hs0 (by omega) (by omega)
        simpa using this
      obtain ⟨acc', c', r1, r2, r3, r4, r5, r6⟩ := ih k (i + 1) (acc ++ [s % 4294967296]) (s / 4294967296) (by omega) (by omega) (by omega) (by simp [hacc])
        (lim_app hlim (lim_one (by omega) (by omega))) (by omega) (by omega)
      refine ⟨acc', c', ?_, r2, r3, r4, r5, ?_⟩
      · show spec_addLimbs_l1s x1 x2 k (spec_addLimbs_l1 x1 x2 k) acc c (i : Int) = _
        rw [hr]
        simp only [spec_addLimbs_j3, happ, hshr, Option.bind_eq_bind, Option.bind_some, hadd1, r1]
      · rw [r6, lv_app, hacc, hdrop, hdy, Int.pow_succ]
        have hdm : s % 4294967296 + 4294967296 * (s / 4294967296) = s := Int.emod_add_mul_ediv s 4294967296
        simp only [lv]
        generalize lv (x1.drop (i + 1)) = A
        generalize lv (x2.drop (i + 1)) = B
        generalize (4294967296 : Int) ^ i = p
        have : s % 4294967296 = s - 4294967296 * (s / 4294967296) := by omega
        rw [this]
        generalize s / 4294967296 = t
        rw [hs]
        simp only [Int.mul_add, Int.mul_sub, Int.add_mul, Int.mul_assoc, Int.mul_zero, Int.add_zero]
        have e1 : ∀ z : Int, p * (4294967296 * z) = 4294967296 * (p * z) := fun z => by rw [← Int.mul_assoc, Int.mul_comm p, Int.mul_assoc]
        simp only [e1]
        omega
    have hicv : icv .u64 x1[i] = x1[i] := icv_u64 hx.1 (by omega)
    by_cases hi2 : i < x2.length
    · have hy := lim_get h2 (List.getElem?_eq_getElem hi2)
      have hd2 : decide ((i : Int) < (x2.length : Int)) = true := by simp; omega
      refine round x2[i] _ hy rfl (by rw [List.drop_eq_getElem_cons hi2]; rfl) ?_
      have hicv2 : icv .u64 x2[i] = x2[i] := icv_u64 hy.1 (by omega)
      simp only [spec_addLimbs_l1s, hd, hd2, br_true, idx_get hlt, idx_get hi2, Option.bind_eq_bind, Option.bind_some, hicv, hicv2]
      rw [iadd_u64 (a := x1[i]) (by omega) (by omega), iadd_u64 (by omega) (by omega)]
    · have hd2 : decide ((i : Int) < (x2.length : Int)) = false := by simp; omega
      refine round 0 _ (by omega) rfl (by rw [List.drop_eq_nil_of_le (by omega), List.drop_eq_nil_of_le (by omega)]; simp [lv]) ?_
      simp only [spec_addLimbs_l1s, hd, hd2, br_true, br_false, idx_get hlt, Option.bind_eq_bind, Option.bind_some, hicv]
      rw [iadd_u64 (a := x1[i]) (by omega) (by omega), Int.add_zero]

theorem addLimbs_j1_is {k : Nat} {x1 x2 : List Int} {a b : Int} (h1 : Lb x1 a) (h2 : Lb x2 b) (hl : x2.length ≤ x1.length) (hk : x1.length + 1 < k) (hb : x1.length < 900000) :
    ∃ r, spec_addLimbs_j1 k x1 x2 = some r ∧ Lb r (a + b) ∧ r.length ≤ x1.length + 1 := by
  obtain ⟨acc, c, r1, r2, r3, r4, r5, r6⟩ := add_loop x1 x2 h1.lim h2.lim hl (by omega) x1.length k 0 [] 0 (by omega) (by omega) (by omega) rfl lim_nil (by omega) (by omega)
  have hmk : mk 4 (0 : Int) 0 (iadd .i64 (x1.length : Int) 1) = some [] := by
    rw [iadd_i64 (by omega) (by omega), mk_some (by omega) (by omega) (by omega) (by omega)]; rfl
  have happ : apd 4 acc [icv .u32 c] = some (acc ++ [c]) := by
    rw [icv_u32, Int.emod_eq_of_lt r4 (by omega)]; exact apd_some (by simp; omega) (by simp; omega)
  obtain ⟨r, t1, t2, t3⟩ := trim_some (k := k) (l := acc ++ [c]) (by simp; omega) (by simp; omega) (lim_app r2 (lim_one r4 (by omega)))
  refine ⟨r, ?_, ?_, by simp at t3; omega⟩
  · have r1' : spec_addLimbs_l1 x1 x2 k ([], 0, 0) = some (acc, c) := r1
    simp only [spec_addLimbs_j1, hmk, Option.bind_eq_bind, Option.bind_some, r1', happ, t1]
  · have : lv (acc ++ [c]) = a + b := by
      rw [lv_app, r3]
      simp only [lv, Int.mul_zero, Int.add_zero]
      rw [r6]; simp [lv, h1.val, h2.val]
    rw [← this]; exact t2
theorem addLimbs_is {k : Nat} {x1 x2 : List Int} {a b : Int} {n : Nat} (h1 : Lb x1 a) (h2 : Lb x2 b) (hl1 : x1.length ≤ n) (hl2 : x2.length ≤ n) (hk : n + 1 < k) (hb : n < 900000) :
    ∃ r, spec_addLimbs k x1 x2 = some r ∧ Lb r (a + b) ∧ r.length ≤ n + 1 := by
  unfold spec_addLimbs
  by_cases h : x1.length < x2.length
  · have hd : decide ((x1.length : Int) < (x2.length : Int)) = true := by simp; omega
    rw [hd, br_true]
    obtain ⟨r, h3, h4, h5⟩ := addLimbs_j1_is h2 h1 (by omega) (by omega : x2.length + 1 < k) (by omega)
    exact ⟨r, h3, by rw [Int.add_comm]; exact h4, by omega⟩
  · have hd : decide ((x1.length : Int) < (x2.length : Int)) = false := by simp; omega
    rw [hd, br_false]
    obtain ⟨r, h3, h4, h5⟩ := addLimbs_j1_is h1 h2 (by omega) (by omega : x1.length + 1 < k) (by omega)
    exact ⟨r, h3, h4, by omega⟩

/-! ### comparing -/
theorem cmp_loop (x1 x2 : List Int) (h1 : Lim x1) (h2 : Lim x2) (hl : x1.length = x2.length) (hb : x1.length < 1000000) :
    ∀ (n k : Nat), n < k → n ≤ x1.length → x1.drop n = x2.drop n →
      ∃ y, spec_cmpLimbs_l1 x1 x2 k ((n : Int) - 1) = some y ∧ ((y = .inl (-1) ∧ lv x1 < lv x2) ∨ (y = .inl 1 ∧ lv x2 < lv x1) ∨ (y = .inr () ∧ x1 = x2)) := by
  intro n
  induction n with
  | zero =>
    intro k hk hn hd
    obtain ⟨k, rfl⟩ : ∃ j, k = j + 1 := ⟨k - 1, by omega⟩
    exact ⟨.inr (), by simp [spec_cmpLimbs_l1, spec_cmpLimbs_l1s], .inr (.inr ⟨rfl, by simpa using hd⟩)⟩
  | succ n ih =>
    intro k hk hn hd
    obtain ⟨k, rfl⟩ : ∃ j, k = j + 1 := ⟨k - 1, by omega⟩
    have hi1 : n < x1.length := by omega
    have hi2 : n < x2.length := by omega
    have hx := lim_get h1 (List.getElem?_eq_getElem hi1)
    have hy := lim_get h2 (List.getElem?_eq_getElem hi2)
    have e0 : ((n + 1 : Nat) : Int) - 1 = (n : Int) := by omega
    have hge : decide ((0 : Int) ≤ (n : Int)) = true := by simp
    rw [e0]
    have hval : ∀ (x : List Int) (h : Lim x) (hi : n < x.length), lv x = lv (x.take n) + 4294967296 ^ n * (x[n] + 4294967296 * lv (x.drop (n + 1))) ∧ 0 ≤ lv (x.take n) ∧ lv (x.take n) < 4294967296 ^ n := by
      intro x h hi
      have h3 : lv (x.take n) < 4294967296 ^ (x.take n).length := lv_lt (lim_take h n)
      rw [List.length_take, Nat.min_eq_left (by omega)] at h3
      refine ⟨?_, lv_nonneg (lim_take h n), h3⟩
      conv => lhs; rw [← List.take_append_drop n x, lv_app, List.drop_eq_getElem_cons hi]
      rw [List.length_take, Nat.min_eq_left (by omega)]; rfl
    obtain ⟨v1, p1, q1⟩ := hval x1 h1 hi1
    obtain ⟨v2, p2, q2⟩ := hval x2 h2 hi2
    rw [hd] at v1
    have hp : (0 : Int) < 4294967296 ^ n := Int.pow_pos (by omega)
    by_cases he : x1[n] = x2[n]
    · have hd' : x1.drop n = x2.drop n := by rw [List.drop_eq_getElem_cons hi1, List.drop_eq_getElem_cons hi2, he, hd]
      obtain ⟨y, r1, r2⟩ := ih k (by omega) (by omega) hd'
      refine ⟨y, ?_, r2⟩
      have hs : isub .i64 (n : Int) 1 = (n : Int) - 1 := isub_i64 (by omega) (by omega)
      simp only [spec_cmpLimbs_l1, spec_cmpLimbs_l1s, hge, br_true, idx_get hi1, idx_get hi2, Option.bind_eq_bind, Option.bind_some, he, decide_true, Bool.not_true, br_false, hs, r1]
    · have hmul : ∀ {c d : Int}, c < d → 4294967296 ^ n * (c + 4294967296 * lv (x2.drop (n + 1))) + 4294967296 ^ n ≤ 4294967296 ^ n * (d + 4294967296 * lv (x2.drop (n + 1))) := by
        intro c d hcd
        have : (4294967296 : Int) ^ n * (c + 4294967296 * lv (x2.drop (n + 1)) + 1) ≤ 4294967296 ^ n * (d + 4294967296 * lv (x2.drop (n + 1))) := Int.mul_le_mul_of_nonneg_left (by omega) (Int.le_of_lt hp)
        rw [Int.mul_add, Int.mul_one] at this
        exact this
      by_cases hlt : x1[n] < x2[n]
      · refine ⟨.inl (-1), ?_, .inl ⟨rfl, ?_⟩⟩
        · simp only [spec_cmpLimbs_l1, spec_cmpLimbs_l1s, hge, br_true, idx_get hi1, idx_get hi2, Option.bind_eq_bind, Option.bind_some, he, decide_false, Bool.not_false, hlt, decide_true]
        · have := hmul hlt; rw [v1, v2]; omega
      · refine ⟨.inl 1, ?_, .inr (.inl ⟨rfl, ?_⟩)⟩
        · simp only [spec_cmpLimbs_l1, spec_cmpLimbs_l1s, hge, br_true, idx_get hi1, idx_get hi2, Option.bind_eq_bind, Option.bind_some, he, decide_false, Bool.not_false, hlt, br_false]
        · have := hmul (show x2[n] < x1[n] by omega); rw [v1, v2]; omega

/-- which of two is above -/
def sgn (n : Int) : Int := if n < 0 then -1 else if n = 0 then 0 else 1

theorem len_lt {x1 x2 : List Int} {a b : Int} (h1 : Lb x1 a) (h2 : Lb x2 b) (h : x1.length < x2.length) : a < b := by
  have h3 := lv_lt h1.lim
  have h4 := lv_ge h2.lim h2.nrm (by intro e; rw [e] at h; simp at h)
  have h5 : (4294967296 : Int) ^ x1.length ≤ 4294967296 ^ (x2.length - 1) := pow32_le (by omega)
  rw [h1.val] at h3; rw [h2.val] at h4
  omega
theorem cmpLimbs_is {k : Nat} {x1 x2 : List Int} {a b : Int} (h1 : Lb x1 a) (h2 : Lb x2 b) (hk : x1.length < k) (hb1 : x1.length < 1000000) (hb2 : x2.length < 1000000) : spec_cmpLimbs k x1 x2 = some (sgn (a - b)) := by
  unfold spec_cmpLimbs
  by_cases he : x1.length = x2.length
  · have hd : decide ((x1.length : Int) = (x2.length : Int)) = true := by simp [he]
    rw [hd, Bool.not_true, br_false]
    have hs : isub .i64 (x1.length : Int) 1 = (x1.length : Int) - 1 := isub_i64 (by omega) (by omega)
    obtain ⟨y, r1, r2⟩ := cmp_loop x1 x2 h1.lim h2.lim he hb1 x1.length k hk (Nat.le_refl _) (by rw [List.drop_eq_nil_of_le (Nat.le_refl _), List.drop_eq_nil_of_le (by omega)])
    rw [hs, r1, h1.val, h2.val] at *
    rcases r2 with ⟨rfl, h⟩ | ⟨rfl, h⟩ | ⟨rfl, h⟩
    · simp [sgn]; omega
    · simp [sgn]; omega
    · subst h
      have : a = b := by rw [← h1.val, ← h2.val]
      subst this; simp [sgn]
  · have hd : decide ((x1.length : Int) = (x2.length : Int)) = false := by simp; omega
    rw [hd, Bool.not_false, br_true]
    by_cases hlt : x1.length < x2.length
    · have := len_lt h1 h2 hlt
      have hd : decide ((x1.length : Int) < (x2.length : Int)) = true := by simp; omega
      rw [hd, br_true]; simp [sgn]; omega
    · have := len_lt h2 h1 (by omega)
      have hd : decide ((x1.length : Int) < (x2.length : Int)) = false := by simp; omega
      rw [hd, br_false]; simp [sgn]; omega

/-! ### differences of limbs -/
theorem sub_loop (x1 x2 : List Int) (h1 : Lim x1) (h2 : Lim x2) (hb : x1.length < 1000000) :
    ∀ (n k i : Nat) (acc : List Int) (c : Int), x1.length - i = n → n < k → i ≤ x1.length → acc.length = i → Lim acc → 0 ≤ c → c ≤ 1 →
      ∃ acc' c', spec_subLimbs_l1 x1 x2 k (acc, c, (i : Int)) = some acc' ∧ Lim acc' ∧ acc'.length = x1.length ∧ 0 ≤ c' ∧ c' ≤ 1 ∧
        lv acc' - 4294967296 ^ x1.length * c' = lv acc + 4294967296 ^ i * (lv (x1.drop i) - lv ((x2.drop i).take (x1.length - i)) - c) := by
  intro n
  induction n with
  | zero =>
    intro k i acc c hn hk hi hacc hlim hc0 hc1
    obtain ⟨k, rfl⟩ : ∃ j, k = j + 1 := ⟨k - 1, by omega⟩
    have hii : i = x1.length := by omega
    refine ⟨acc, c, ?_, hlim, by omega, hc0, hc1, ?_⟩
    · have : decide ((i : Int) < (x1.length : Int)) = false := by simp; omega
      simp only [spec_subLimbs_l1, spec_subLimbs_l1s, this, br_false]
    · rw [List.drop_eq_nil_of_le (by omega), hn, List.take_zero, hii]; simp [lv, Int.mul_neg]; omega
  | succ n ih =>
    intro k i acc c hn hk hi hacc hlim hc0 hc1
    obtain ⟨k, rfl⟩ : ∃ j, k = j + 1 := ⟨k - 1, by omega⟩
    have hlt : i < x1.length := by omega
    have hd : decide ((i : Int) < (x1.length : Int)) = true := by simp; omega
    have hx := lim_get h1 (List.getElem?_eq_getElem hlt)
    have hdrop : lv (x1.drop i) = x1[i] + 4294967296 * lv (x1.drop (i + 1)) := by rw [List.drop_eq_getElem_cons hlt]; rfl
    have hadd1 : iadd .i64 (i : Int) 1 = ((i + 1 : Nat) : Int) := by rw [iadd_i64 (by omega) (by omega)]; omega
    have hicv : icv .u64 x1[i] = x1[i] := icv_u64 hx.1 (by omega)
    have round : ∀ (y s : Int), (0 ≤ y ∧ y < 4294967296) → s = c + y → lv ((x2.drop i).take (x1.length - i)) = y + 4294967296 * lv ((x2.drop (i + 1)).take (x1.length - (i + 1))) →
        spec_subLimbs_l1s x1 x2 k (spec_subLimbs_l1 x1 x2 k) acc c (i : Int) = spec_subLimbs_j3 k x1[i] acc (spec_subLimbs_l1 x1 x2 k) (i : Int) s →
        ∃ acc' c', spec_subLimbs_l1 x1 x2 (k + 1) (acc, c, (i : Int)) = some acc' ∧ Lim acc' ∧ acc'.length = x1.length ∧ 0 ≤ c' ∧ c' ≤ 1 ∧
          lv acc' - 4294967296 ^ x1.length * c' = lv acc + 4294967296 ^ i * (lv (x1.drop i) - lv ((x2.drop i).take (x1.length - i)) - c) := by
      intro y s hy hs hdy hr
      obtain ⟨b, hb⟩ : ∃ b : Int, b = if x1[i] < s then 1 else 0 := ⟨_, rfl⟩
      have hb01 : 0 ≤ b ∧ b ≤ 1 := by rw [hb]; split <;> omega
      have hz0 : 0 ≤ x1[i] + b * 4294967296 - s := by rw [hb]; split <;> omega
      have hz1 : x1[i] + b * 4294967296 - s < 4294967296 := by rw [hb]; split <;> omega
      have hshl : ishl .u64 b 32 = some (b * 4294967296) := by
        have h0 := ishl_u64 (a := b) (n := 32) (by omega)
        have : (b * 2 ^ 32) % 18446744073709551616 = b * 4294967296 := Int.emod_eq_of_lt (by omega) (by omega)
        rw [this] at h0; exact h0
      have hcv : icv .u32 (isub .u64 (iadd .u64 (icv .u64 x1[i]) (b * 4294967296)) s) = x1[i] + b * 4294967296 - s := by
        rw [hicv, iadd_u64 (by omega) (by omega), isub_u64 (by omega) (by omega), icv_u32, Int.emod_eq_of_lt hz0 hz1]
      have happ : apd 4 acc [x1[i] + b * 4294967296 - s] = some (acc ++ [x1[i] + b * 4294967296 - s]) := apd_some (by simp; omega) (by simp; omega)
      obtain ⟨acc', c', r1, r2, r3, r4, r5, r6⟩ := ih k (i + 1) (acc ++ [x1[i] + b * 4294967296 - s]) b (by omega) (by omega) (by omega) (by simp [hacc])
        (lim_app hlim (lim_one hz0 hz1)) hb01.1 hb01.2
      refine ⟨acc', c', ?_, r2, r3, r4, r5, ?_⟩
      · show spec_subLimbs_l1s x1 x2 k (spec_subLimbs_l1 x1 x2 k) acc c (i : Int) = _
        rw [hr]
        have hj2 : spec_subLimbs_j4 k acc x1[i] s (spec_subLimbs_l1 x1 x2 k) (i : Int) b = some acc' := by
          simp only [spec_subLimbs_j4, hshl, Option.bind_eq_bind, Option.bind_some, hcv, happ, hadd1, r1]
        unfold spec_subLimbs_j3
        rw [hicv]
        by_cases hlt' : x1[i] < s
        · have e : b = 1 := by rw [hb, if_pos hlt']
          rw [e] at hj2
          simp only [hlt', decide_true, br_true, hj2]
        · have e : b = 0 := by rw [hb, if_neg hlt']
          rw [e] at hj2
          simp only [hlt', decide_false, br_false, hj2]
      · rw [r6, lv_app, hacc, hdrop, hdy, Int.pow_succ, hs]
        simp only [lv]
        generalize lv (x1.drop (i + 1)) = A
        generalize lv ((x2.drop (i + 1)).take (x1.length - (i + 1))) = B
        generalize (4294967296 : Int) ^ i = p
        have e1 : ∀ z : Int, p * (4294967296 * z) = 4294967296 * (p * z) := fun z => by rw [← Int.mul_assoc, Int.mul_comm p, Int.mul_assoc]
        have e2 : p * (b * 4294967296) = 4294967296 * (p * b) := by rw [Int.mul_comm b, e1]
        simp only [Int.mul_add, Int.mul_sub, Int.mul_assoc, Int.mul_zero, Int.add_zero, e1, e2]
        omega
    by_cases hi2 : i < x2.length
    · have hy := lim_get h2 (List.getElem?_eq_getElem hi2)
      have hd2 : decide ((i : Int) < (x2.length : Int)) = true := by simp; omega
      refine round x2[i] _ hy rfl (by rw [List.drop_eq_getElem_cons hi2, show x1.length - i = (x1.length - (i + 1)) + 1 from by omega, List.take_succ_cons]; rfl) ?_
      have hicv2 : icv .u64 x2[i] = x2[i] := icv_u64 hy.1 (by omega)
      simp only [spec_subLimbs_l1s, hd, hd2, br_true, idx_get hlt, idx_get hi2, Option.bind_eq_bind, Option.bind_some, hicv2]
      rw [iadd_u64 (by omega) (by omega)]
    · have hd2 : decide ((i : Int) < (x2.length : Int)) = false := by simp; omega
      refine round 0 _ (by omega) rfl (by rw [List.drop_eq_nil_of_le (by omega), List.drop_eq_nil_of_le (by omega)]; simp [lv]) ?_
      simp only [spec_subLimbs_l1s, hd, hd2, br_true, br_false, idx_get hlt, Option.bind_eq_bind, Option.bind_some, Int.add_zero]

theorem subLimbs_is {k : Nat} {x1 x2 : List Int} {a b : Int} (h1 : Lb x1 a) (h2 : Lb x2 b) (hab : b ≤ a) (hk : x1.length < k) (hb : x1.length < 900000) :
    ∃ r, spec_subLimbs k x1 x2 = some r ∧ Lb r (a - b) ∧ r.length ≤ x1.length := by
  have hl : x2.length ≤ x1.length := by
    rcases Nat.lt_or_ge x1.length x2.length with h | h
    · have := len_lt h1 h2 h; omega
    · exact h
  obtain ⟨acc, c, r1, r2, r3, r4, r5, r6⟩ := sub_loop x1 x2 h1.lim h2.lim (by omega) x1.length k 0 [] 0 (by omega) (by omega) (by omega) rfl lim_nil (by omega) (by omega)
  have hmk : mk 4 (0 : Int) 0 (x1.length : Int) = some [] := by
    rw [mk_some (by omega) (by omega) (by omega) (by omega)]; rfl
  simp only [List.drop_zero, Nat.sub_zero, Int.pow_zero, Int.one_mul, lv, Int.zero_add, Int.sub_zero] at r6
  rw [List.take_of_length_le hl, h1.val, h2.val] at r6
  have hc : c = 0 := by
    have := lv_lt r2
    rw [r3] at this
    have hp : (0 : Int) < 4294967296 ^ x1.length := Int.pow_pos (by omega)
    rcases (show c = 0 ∨ c = 1 by omega) with h | h
    · exact h
    · subst h; omega
  subst hc
  simp only [Int.mul_zero, Int.sub_zero] at r6
  obtain ⟨r, t1, t2, t3⟩ := trim_some (k := k) (l := acc) (by omega) (by omega) r2
  refine ⟨r, ?_, by rw [← r6]; exact t2, by omega⟩
  have r1' : spec_subLimbs_l1 x1 x2 k ([], 0, 0) = some acc := r1
  simp only [spec_subLimbs, hmk, Option.bind_eq_bind, Option.bind_some, r1', t1]

/-! ### up by so many bits -/
theorem lv_zeros (n : Nat) : lv (List.replicate n 0) = 0 := by
  induction n with
  | zero => rfl
  | succ n ih => rw [List.replicate_succ]; simp [lv, ih]
theorem lim_zeros (n : Nat) : Lim (List.replicate n 0) := fun x hx => by
  have := List.eq_of_mem_replicate hx
  subst this; omega

theorem up_loop (x1 : List Int) (h1 : Lim x1) (a t : Nat) (ht : t < 32) (ha : irem (a : Int) 32 = some (t : Int)) (hb : x1.length < 1000000) (z : Nat) (hz : z < 1000000) :
    ∀ (n k i : Nat) (acc : List Int) (c : Int), x1.length - i = n → n < k → i ≤ x1.length → acc.length = z + i → Lim acc → 0 ≤ c → c < 2 ^ t →
      ∃ acc' c', spec_Whole_Up_l1 x1 (a : Int) k (acc, c, (i : Int)) = some (acc', c') ∧ Lim acc' ∧ acc'.length = z + x1.length ∧ 0 ≤ c' ∧ c' < 2 ^ t ∧
        lv acc' + 4294967296 ^ (z + x1.length) * c' = lv acc + 4294967296 ^ (z + i) * (c + 2 ^ t * lv (x1.drop i)) := by
  intro n
  induction n with
  | zero =>
    intro k i acc c hn hk hi hacc hlim hc0 hc1
    obtain ⟨k, rfl⟩ : ∃ j, k = j + 1 := ⟨k - 1, by omega⟩
    have hii : i = x1.length := by omega
    refine ⟨acc, c, ?_, hlim, by omega, hc0, hc1, ?_⟩
    · have : decide ((i : Int) < (x1.length : Int)) = false := by simp; omega
      simp only [spec_Whole_Up_l1, spec_Whole_Up_l1s, this, br_false]
    · rw [List.drop_eq_nil_of_le (by omega), hii]; simp [lv]
  | succ n ih =>
    intro k i acc c hn hk hi hacc hlim hc0 hc1
    obtain ⟨k, rfl⟩ : ∃ j, k = j + 1 := ⟨k - 1, by omega⟩
    have hlt : i < x1.length := by omega
    have hd : decide ((i : Int) < (x1.length : Int)) = true := by simp; omega
    have hx := lim_get h1 (List.getElem?_eq_getElem hlt)
    have hdrop : lv (x1.drop i) = x1[i] + 4294967296 * lv (x1.drop (i + 1)) := by rw [List.drop_eq_getElem_cons hlt]; rfl
    have hadd1 : iadd .i64 (i : Int) 1 = ((i + 1 : Nat) : Int) := by rw [iadd_i64 (by omega) (by omega)]; omega
    have hicv : icv .u64 x1[i] = x1[i] := icv_u64 hx.1 (by omega)
    -- the shifted limb: q, and what goes over
    have hp0 : (0 : Int) < 2 ^ t := Int.pow_pos (by omega)
    have hp32 : (2 : Int) ^ t * 2 ^ (32 - t) = 4294967296 := by rw [← Int.pow_add, show t + (32 - t) = 32 from by omega]; rfl
    have hpr : (0 : Int) < 2 ^ (32 - t) := Int.pow_pos (by omega)
    obtain ⟨s, hs⟩ : ∃ s, s = x1[i] * 2 ^ t := ⟨_, rfl⟩
    have hple : (2 : Int) ^ t ≤ 2147483648 := by
      have := powle 2 (show t ≤ 31 by omega) (by omega)
      exact this
    have hs0 : 0 ≤ s := by rw [hs]; exact Int.mul_nonneg hx.1 (Int.le_of_lt hp0)
    have hs1 : s < 9223372036854775808 := by
      have h3 : s ≤ 4294967295 * 2 ^ t := by rw [hs]; exact Int.mul_le_mul_of_nonneg_right (by omega) (Int.le_of_lt hp0)
      omega
    have hshl : ishl .u64 x1[i] (t : Int) = some s := by
      rw [ishl_u64 (by omega), ← hs, Int.emod_eq_of_lt hs0 (by omega)]
    -- x = q + 2^(32-t) * o
    obtain ⟨q, hq⟩ : ∃ q, q = x1[i] % 2 ^ (32 - t) := ⟨_, rfl⟩
    obtain ⟨o, ho⟩ : ∃ o, o = x1[i] / 2 ^ (32 - t) := ⟨_, rfl⟩
    have hqo : q + 2 ^ (32 - t) * o = x1[i] := by rw [hq, ho]; exact Int.emod_add_mul_ediv _ _
    have hq0 : 0 ≤ q := by rw [hq]; exact Int.emod_nonneg _ (by omega)
    have hq1 : q < 2 ^ (32 - t) := by rw [hq]; exact Int.emod_lt_of_pos _ hpr
    have ho0 : 0 ≤ o := by rw [ho]; exact Int.ediv_nonneg hx.1 (Int.le_of_lt hpr)
    have ho1 : o < 2 ^ t := by
      rw [ho]; apply Int.ediv_lt_of_lt_mul hpr; rw [hp32]; exact hx.2
    have hsq : s = q * 2 ^ t + 4294967296 * o := by
      rw [hs, ← hqo, Int.add_mul, ← hp32]
      congr 1
      rw [Int.mul_comm (2 ^ (32 - t) * o), Int.mul_assoc]
    have hqt0 : 0 ≤ q * 2 ^ t := Int.mul_nonneg hq0 (Int.le_of_lt hp0)
    have hqt1 : q * 2 ^ t + 2 ^ t ≤ 4294967296 := by
      have : (q + 1) * 2 ^ t ≤ 2 ^ (32 - t) * 2 ^ t := Int.mul_le_mul_of_nonneg_right (by omega) (Int.le_of_lt hp0)
      rw [Int.mul_comm (2 ^ (32 - t)), hp32, Int.add_mul, Int.one_mul] at this
      exact this
    have hcv : icv .u32 s = q * 2 ^ t := by
      rw [icv_u32, hsq, Int.add_mul_emod_self_left]
      exact Int.emod_eq_of_lt hqt0 (by omega)
    have hor : ior .u32 (q * 2 ^ t) c = q * 2 ^ t + c := ior_u32 hq0 hc0 hc1 (by omega)
    have happ : apd 4 acc [q * 2 ^ t + c] = some (acc ++ [q * 2 ^ t + c]) := apd_some (by simp; omega) (by simp; omega)
    have hsd : s / 4294967296 = o := by
      rw [hsq, Int.add_mul_ediv_left _ _ (by omega), Int.ediv_eq_zero_of_lt hqt0 (by omega)]; simp
    have hshr : ishr .u64 s 32 = some o := by
      have := ishr_u64 (n := 32) hs0 (by omega) (by omega)
      rw [show (2 : Int) ^ 32 = 4294967296 from rfl, hsd] at this
      exact this
    have hcv2 : icv .u32 o = o := by rw [icv_u32]; exact Int.emod_eq_of_lt ho0 (by omega)
    obtain ⟨acc', c', r1, r2, r3, r4, r5, r6⟩ := ih k (i + 1) (acc ++ [q * 2 ^ t + c]) o (by omega) (by omega) (by omega) (by simp [hacc]; omega)
      (lim_app hlim (lim_one (by omega) (by omega))) ho0 ho1
    refine ⟨acc', c', ?_, r2, r3, r4, r5, ?_⟩
    · simp only [spec_Whole_Up_l1, spec_Whole_Up_l1s, hd, br_true, idx_get hlt, Option.bind_eq_bind, Option.bind_some, ha, hicv, hshl, hcv, hor, happ, hshr, hcv2, hadd1, r1]
    · rw [r6, lv_app, hacc, hdrop, show z + (i + 1) = (z + i) + 1 from by omega, Int.pow_succ]
      simp only [lv]
      generalize lv (x1.drop (i + 1)) = A
      generalize (4294967296 : Int) ^ (z + i) = p
      have e1 : ∀ z : Int, p * (4294967296 * z) = 4294967296 * (p * z) := fun z => by rw [← Int.mul_assoc, Int.mul_comm p, Int.mul_assoc]
      have e2 : (2 : Int) ^ t * (x1[i] + 4294967296 * A) = q * 2 ^ t + 4294967296 * o + 4294967296 * (2 ^ t * A) := by
        rw [← hsq, hs, Int.mul_add, Int.mul_comm _ x1[i]]
        congr 1
        rw [← Int.mul_assoc, Int.mul_comm (2 ^ t), Int.mul_assoc]
      rw [e2]
      simp only [Int.mul_add, Int.mul_assoc, Int.mul_zero, Int.add_zero, e1]
      omega

/-! ### products -/
theorem lv_set {l : List Int} {i : Nat} (h : i < l.length) (x : Int) : lv (l.set i x) = lv l + 4294967296 ^ i * (x - l[i]) := by
  induction l generalizing i with
  | nil => simp at h
  | cons y l ih =>
    cases i with
    | zero => simp [lv]; omega
    | succ i =>
      simp only [List.length_cons] at h
      have := ih (i := i) (by omega)
      simp only [List.set_cons_succ, lv, this, List.getElem_cons_succ, Int.pow_succ, Int.mul_add]
      rw [← Int.mul_assoc 4294967296, Int.mul_comm 4294967296 (4294967296 ^ i)]
      omega
theorem lim_set {l : List Int} (h : Lim l) (i : Nat) {x : Int} (h0 : 0 ≤ x) (h1 : x < 4294967296) : Lim (l.set i x) := fun y hy => by
  rcases List.mem_or_eq_of_mem_set hy with hy | hy
  · exact h y hy
  · subst hy; exact ⟨h0, h1⟩

theorem mul_loop1 (b : List Int) (hbl : Lim b) (i : Nat) (x : Int) (hx : 0 ≤ x ∧ x < 4294967296) (hb : b.length < 500000) (hi : i < 500000) :
    ∀ (n k j : Nat) (out : List Int) (c : Int), b.length - j = n → n < k → j ≤ b.length → i + b.length ≤ out.length → Lim out → 0 ≤ c → c < 4294967296 →
      ∃ out' c', spec_Whole_Mul_l2 b (i : Int) x k (out, c, (j : Int)) = some (out', c') ∧ Lim out' ∧ out'.length = out.length ∧ 0 ≤ c' ∧ c' < 4294967296 ∧
        (∀ m, i + b.length ≤ m → out'[m]? = out[m]?) ∧ lv out' + 4294967296 ^ (i + b.length) * c' = lv out + 4294967296 ^ (i + j) * (c + x * lv (b.drop j)) := by
  intro n
  induction n with
  | zero =>
    intro k j out c hn hk hj hol hlim hc0 hc1
    obtain ⟨k, rfl⟩ : ∃ j, k = j + 1 := ⟨k - 1, by omega⟩
    have hjj : j = b.length := by omega
    refine ⟨out, c, ?_, hlim, rfl, hc0, hc1, fun _ _ => rfl, ?_⟩
    · have : decide ((j : Int) < (b.length : Int)) = false := by simp; omega
      simp only [spec_Whole_Mul_l2, spec_Whole_Mul_l2s, this, br_false]
    · rw [List.drop_eq_nil_of_le (by omega), hjj]; simp [lv]
  | succ n ih =>
    intro k j out c hn hk hj hol hlim hc0 hc1
    obtain ⟨k, rfl⟩ : ∃ j, k = j + 1 := ⟨k - 1, by omega⟩
    have hlt : j < b.length := by omega
    have hd : decide ((j : Int) < (b.length : Int)) = true := by simp; omega
    have hy := lim_get hbl (List.getElem?_eq_getElem hlt)
    have hdrop : lv (b.drop j) = b[j] + 4294967296 * lv (b.drop (j + 1)) := by rw [List.drop_eq_getElem_cons hlt]; rfl
    have hadd1 : iadd .i64 (j : Int) 1 = ((j + 1 : Nat) : Int) := by rw [iadd_i64 (by omega) (by omega)]; omega
    have hij : iadd .i64 (i : Int) (j : Int) = ((i + j : Nat) : Int) := by rw [iadd_i64 (by omega) (by omega)]; omega
    have hlo : i + j < out.length := by omega
    have hz := lim_get hlim (List.getElem?_eq_getElem hlo)
    have hxy0 : 0 ≤ x * b[j] := Int.mul_nonneg hx.1 hy.1
    have hxy1 : x * b[j] ≤ 4294967295 * 4294967295 := Int.mul_le_mul (by omega) (by omega) hy.1 (by omega)
    obtain ⟨s, hs⟩ : ∃ s, s = x * b[j] + out[i + j] + c := ⟨_, rfl⟩
    have hs0 : 0 ≤ s := by omega
    have hs1 : s < 18446744073709551616 := by omega
    have hsum : iadd .u64 (iadd .u64 (imul .u64 (icv .u64 x) (icv .u64 b[j])) (icv .u64 out[i + j])) c = s := by
      rw [icv_u64 hx.1 (by omega), icv_u64 hy.1 (by omega), icv_u64 hz.1 (by omega), imul_u64 hxy0 (by omega), iadd_u64 (a := x * b[j]) (b := out[i + j]) (by omega) (by omega), iadd_u64 (by omega) (by omega), hs]
    have hshr : ishr .u64 s 32 = some (s / 4294967296) := by
      have := ishr_u64 (n := 32) hs0 hs1 (by omega)
      exact this
    have hm0 : 0 ≤ s % 4294967296 := Int.emod_nonneg _ (by omega)
    have hm1 : s % 4294967296 < 4294967296 := Int.emod_lt_of_pos _ (by omega)
    have hdm : s % 4294967296 + 4294967296 * (s / 4294967296) = s := Int.emod_add_mul_ediv s 4294967296
    have hset := lv_set hlo (s % 4294967296)
    obtain ⟨out', c', r1, r2, r3, r4, r5, r6, r7⟩ := ih k (j + 1) (out.set (i + j) (s % 4294967296)) (s / 4294967296) (by omega) (by omega) (by omega) (by simpa using hol)
      (lim_set hlim _ hm0 hm1) (by omega) (by omega)
    refine ⟨out', c', ?_, r2, by simpa using r3, r4, r5, fun m hm => ?_, ?_⟩
    · simp only [spec_Whole_Mul_l2, spec_Whole_Mul_l2s, hd, br_true, idx_get hlt, Option.bind_eq_bind, Option.bind_some, hij, idx_get hlo, hsum, hshr, hadd1, icv_u32, Int.toNat_natCast, r1]
    · rw [r6 m hm, List.getElem?_set_ne (by omega)]
    · rw [r7, hset, hdrop, show i + (j + 1) = (i + j) + 1 from by omega, Int.pow_succ]
      generalize lv (b.drop (j + 1)) = A
      generalize (4294967296 : Int) ^ (i + j) = p
      have e1 : ∀ z : Int, p * (4294967296 * z) = 4294967296 * (p * z) := fun z => by rw [← Int.mul_assoc, Int.mul_comm p, Int.mul_assoc]
      have e2 : x * (b[j] + 4294967296 * A) = x * b[j] + 4294967296 * (x * A) := by
        rw [Int.mul_add]; congr 1
        rw [← Int.mul_assoc, Int.mul_comm x, Int.mul_assoc]
      have e3 : s % 4294967296 = s - 4294967296 * (s / 4294967296) := by omega
      rw [e2, e3]
      generalize s / 4294967296 = d at *
      rw [hs]
      simp only [Int.mul_add, Int.mul_sub, Int.mul_assoc, Int.mul_zero, Int.add_zero, e1]
      omega

theorem mul_loop2 (a b : List Int) (ha : Lim a) (hbl : Lim b) (hal : a.length < 400000) (hb : b.length < 400000) :
    ∀ (n k i : Nat) (out : List Int), a.length - i = n → n + b.length + 1 < k → i ≤ a.length → out.length = a.length + b.length → Lim out → (∀ m, i + b.length ≤ m → m < out.length → out[m]? = some 0) →
      ∃ out', spec_Whole_Mul_l3 a b k (out, (i : Int)) = some out' ∧ Lim out' ∧ out'.length = out.length ∧ lv out' = lv out + 4294967296 ^ i * (lv (a.drop i) * lv b) := by
  intro n
  induction n with
  | zero =>
    intro k i out hn hk hi hol hlim hzero
    obtain ⟨k, rfl⟩ : ∃ j, k = j + 1 := ⟨k - 1, by omega⟩
    refine ⟨out, ?_, hlim, rfl, ?_⟩
    · have : decide ((i : Int) < (a.length : Int)) = false := by simp; omega
      simp only [spec_Whole_Mul_l3, spec_Whole_Mul_l3s, this, br_false]
    · rw [List.drop_eq_nil_of_le (by omega)]; simp [lv]
  | succ n ih =>
    intro k i out hn hk hi hol hlim hzero
    obtain ⟨k, rfl⟩ : ∃ j, k = j + 1 := ⟨k - 1, by omega⟩
    have hlt : i < a.length := by omega
    have hd : decide ((i : Int) < (a.length : Int)) = true := by simp; omega
    have hx := lim_get ha (List.getElem?_eq_getElem hlt)
    have hdrop : lv (a.drop i) = a[i] + 4294967296 * lv (a.drop (i + 1)) := by rw [List.drop_eq_getElem_cons hlt]; rfl
    have hadd1 : iadd .i64 (i : Int) 1 = ((i + 1 : Nat) : Int) := by rw [iadd_i64 (by omega) (by omega)]; omega
    have hib : iadd .i64 (i : Int) (b.length : Int) = ((i + b.length : Nat) : Int) := by rw [iadd_i64 (by omega) (by omega)]; omega
    obtain ⟨out1, c, r1, r2, r3, r4, r5, r6, r7⟩ := mul_loop1 b hbl i a[i] hx (by omega) (by omega) b.length k 0 out 0 (by omega) (by omega) (by omega) (by omega) hlim (by omega) (by omega)
    have hlo : i + b.length < out1.length := by omega
    have hz0 : out1[i + b.length] = 0 := by
      have := r6 (i + b.length) (by omega)
      rw [hzero (i + b.length) (by omega) (by omega), List.getElem?_eq_getElem hlo] at this
      simpa using this
    have hcv : icv .u32 c = c := by rw [icv_u32]; exact Int.emod_eq_of_lt r4 r5
    obtain ⟨out', t1, t2, t3, t4⟩ := ih k (i + 1) (out1.set (i + b.length) c) (by omega) (by omega) (by omega) (by simp; omega) (lim_set r2 _ r4 r5) (fun m hm hm' => by
      rw [List.getElem?_set_ne (by omega), r6 m (by omega)]
      exact hzero m (by omega) (by simp at hm'; omega))
    refine ⟨out', ?_, t2, by rw [t3, List.length_set, r3], ?_⟩
    · have r1' : spec_Whole_Mul_l2 b (i : Int) a[i] k (out, 0, 0) = some (out1, c) := r1
      simp only [spec_Whole_Mul_l3, spec_Whole_Mul_l3s, hd, br_true, idx_get hlt, Option.bind_eq_bind, Option.bind_some, r1', hib, idx_get hlo, hcv, hadd1, Int.toNat_natCast, t1]
    · rw [t4, lv_set hlo, hz0, hdrop, Int.pow_succ]
      simp only [List.drop_zero, Nat.add_zero, Int.zero_add, Int.sub_zero] at r7 ⊢
      have e1 : (4294967296 : Int) ^ i * 4294967296 * (lv (a.drop (i + 1)) * lv b) = 4294967296 ^ i * (4294967296 * lv (a.drop (i + 1)) * lv b) := by
        rw [Int.mul_assoc, ← Int.mul_assoc 4294967296]
      rw [e1, Int.add_mul, Int.mul_add]
      omega

/-! ### whole numbers with a sign -/
/-- a sign and limbs that stand for z -/
structure Wh (neg : Bool) (l : List Int) (z : Int) : Prop where
  lb : Lb l z.natAbs
  sg : neg = decide (z < 0)

theorem wh_nil : Wh false [] 0 := ⟨⟨lim_nil, fun x h => by simp at h, rfl⟩, by simp⟩
theorem lb_nil {l : List Int} {n : Int} (h : Lb l n) (hl : l = []) : n = 0 := by subst hl; exact h.val.symm
theorem lb_pos {l : List Int} {n : Int} (h : Lb l n) (hl : l ≠ []) : 0 < n := by
  have := lv_ge h.lim h.nrm hl
  have hp : (0 : Int) < 4294967296 ^ (l.length - 1) := Int.pow_pos (by omega)
  rw [h.val] at this; omega
theorem wh_zero {neg : Bool} {l : List Int} {z : Int} (h : Wh neg l z) : z = 0 ↔ l = [] := by
  constructor
  · intro hz
    by_cases hl : l = []
    · exact hl
    · have := lb_pos h.lb hl; omega
  · intro hl; have := lb_nil h.lb hl; omega

theorem sign_is {k : Nat} {neg : Bool} {l : List Int} {z : Int} (h : Wh neg l z) : spec_Whole_Sign k neg l = some (sgn z) := by
  unfold spec_Whole_Sign sgn
  by_cases hl : l = []
  · have hz := (wh_zero h).2 hl
    subst hl; subst hz; rfl
  · have hz : z ≠ 0 := fun e => hl ((wh_zero h).1 e)
    have hd : decide ((l.length : Int) = 0) = false := by
      have := List.length_pos_iff.2 hl
      simp; omega
    rw [hd, br_false, h.sg]
    by_cases hn : z < 0
    · simp [hn]
    · simp [hn, hz]

theorem minus_is {k : Nat} {neg : Bool} {l : List Int} {z : Int} (h : Wh neg l z) : ∃ n', spec_Whole_Minus k neg l = some (n', l) ∧ Wh n' l (-z) := by
  unfold spec_Whole_Minus spec_Whole_Minus_j1
  by_cases hl : l = []
  · have hz := (wh_zero h).2 hl
    subst hl; subst hz
    cases neg <;> exact ⟨false, rfl, wh_nil⟩
  · have hz : z ≠ 0 := fun e => hl ((wh_zero h).1 e)
    have hd : decide ((0 : Int) < (l.length : Int)) = true := by
      have := List.length_pos_iff.2 hl
      simp; omega
    rw [hd, h.sg]
    have hlb : Lb l ((-z).natAbs : Int) := by rw [Int.natAbs_neg]; exact h.lb
    by_cases hn : z < 0
    · exact ⟨false, by simp [hn], hlb, by simp; omega⟩
    · exact ⟨true, by simp [hn], hlb, by simp; omega⟩

theorem add_is {k : Nat} {s1 s2 : Bool} {l1 l2 : List Int} {z1 z2 : Int} {n : Nat} (h1 : Wh s1 l1 z1) (h2 : Wh s2 l2 z2) (hl1 : l1.length ≤ n) (hl2 : l2.length ≤ n) (hk : n + 1 < k) (hb : n < 900000) :
    ∃ s l, spec_Whole_Add k s1 l1 s2 l2 = some (s, l) ∧ Wh s l (z1 + z2) ∧ l.length ≤ n + 1 := by
  unfold spec_Whole_Add
  by_cases hs : s1 = s2
  · have : (s1 == s2) = true := by simp [hs]
    rw [this, br_true]
    obtain ⟨r, r1, r2, r3⟩ := addLimbs_is (k := k) h1.lb h2.lb hl1 hl2 hk hb
    refine ⟨s1, r, by simp [r1], ⟨?_, ?_⟩, r3⟩
    · have : ((z1 + z2).natAbs : Int) = z1.natAbs + z2.natAbs := by
        have e1 := h1.sg; have e2 := h2.sg
        rw [hs] at e1; rw [e1] at e2
        have : z1 < 0 ↔ z2 < 0 := by simpa using e2
        omega
      rw [this]; exact r2
    · have e1 := h1.sg; have e2 := h2.sg
      rw [hs] at e1; rw [e1] at e2
      have : z1 < 0 ↔ z2 < 0 := by simpa using e2
      rw [h1.sg]; congr 1; simp; omega
  · have : (s1 == s2) = false := by simp [hs]
    rw [this, br_false, cmpLimbs_is h1.lb h2.lb (by omega) (by omega) (by omega)]
    have e1 := h1.sg; have e2 := h2.sg
    have hop : ¬ (z1 < 0 ↔ z2 < 0) := fun h => hs (by rw [e1, e2]; simp [h])
    simp only [Option.bind_eq_bind, Option.bind_some]
    by_cases heq : (z1.natAbs : Int) - z2.natAbs = 0
    · have : z1 + z2 = 0 := by omega
      rw [this, heq]
      exact ⟨false, [], rfl, wh_nil, by simp⟩
    · have hd0 : decide (sgn ((z1.natAbs : Int) - z2.natAbs) = 0) = false := by unfold sgn; simp; split <;> omega
      rw [hd0, br_false]
      by_cases hlt : (z1.natAbs : Int) - z2.natAbs < 0
      · have hd1 : decide (sgn ((z1.natAbs : Int) - z2.natAbs) = 1) = false := by unfold sgn; simp [hlt]
        rw [hd1, br_false]
        obtain ⟨r, r1, r2, r3⟩ := subLimbs_is (k := k) h2.lb h1.lb (by omega) (by omega) (by omega)
        refine ⟨s2, r, by simp [r1], ⟨?_, ?_⟩, by omega⟩
        · have : ((z1 + z2).natAbs : Int) = z2.natAbs - z1.natAbs := by omega
          rw [this]; exact r2
        · rw [e2]; congr 1; simp; omega
      · have hd1 : decide (sgn ((z1.natAbs : Int) - z2.natAbs) = 1) = true := by unfold sgn; simp [hlt, heq]
        rw [hd1, br_true]
        obtain ⟨r, r1, r2, r3⟩ := subLimbs_is (k := k) h1.lb h2.lb (by omega) (by omega) (by omega)
        refine ⟨s1, r, by simp [r1], ⟨?_, ?_⟩, by omega⟩
        · have : ((z1 + z2).natAbs : Int) = z1.natAbs - z2.natAbs := by omega
          rw [this]; exact r2
        · rw [e1]; congr 1; simp; omega
end Go.Proofs.YthobbfpoooommaaGreat
