/-
  The worker of the line's simplification: the marks that it leaves. Ours.
-/
import Derived.Test.YtlipjaacncpaoaaNotFar2
namespace Go.Proofs.Ytlipjaacncpaoaa
open Go.Sx
open Ieee (signed)
set_option linter.unusedVariables false
set_option linter.unusedSimpArgs false
set_option maxRecDepth 100000

theorem apd_ok {α : Type} {b : Nat} {xs ys : List α} (h : (xs.length + ys.length) * b ≤ 140737488355328) (h' : xs.length + ys.length ≤ 4611686018427387904) : apd b xs ys = some (xs ++ ys) := by
  unfold apd; rw [if_pos ⟨h, h'⟩]
theorem cut_ok {α : Type} {xs : List α} {lo hi : Nat} (h1 : lo ≤ hi) (h2 : hi ≤ xs.length) : cut xs (lo : Int) (hi : Int) = some ((xs.take hi).drop lo) := by
  unfold cut; rw [if_pos ⟨by omega, by omega, by omega⟩]; rfl
def row (a0 : List Nat) (st i : Nat) : List Nat := (a0.take (i * st + st)).drop (i * st)
theorem imul_i64 {a b : Nat} (h : a * b < 1000000000) : imul .i64 (a : Int) (b : Int) = ((a * b : Nat) : Int) := by
  unfold imul; rw [← Int.natCast_mul, wrap_i64 (by omega) (by omega)]
theorem cutrow {a0 : List Nat} {st N i : Nat} (hl : a0.length = N * st) (hN : N ≤ 60) (hst : st ≤ 8) (hi : i < N) : cut a0 (imul .i64 (i : Int) (st : Int)) (iadd .i64 (imul .i64 (i : Int) (st : Int)) (st : Int)) = some (row a0 st i) := by
  have h1 : i * st ≤ 60 * 8 := Nat.mul_le_mul (by omega) hst
  have h2 : i * st + st ≤ N * st := by
    have := Nat.mul_le_mul_right st (show i + 1 ≤ N by omega)
    rw [Nat.add_mul, Nat.one_mul] at this; exact this
  rw [imul_i64 (by omega), iadd_i64 (by omega) (by omega)]
  exact cut_ok (lo := i * st) (hi := i * st + st) (by omega) (by omega)
variable (a0 : List Nat) (st N : Nat) (Wd : Nat → Nat → Nat → Nat) (Φ : Nat → Nat → Nat → Rat)
theorem l2_is (hl : a0.length = N * st) (hN : N ≤ 60) (hst : st ≤ 8)
    (hd : ∀ k s e i, s < N → e < N → i < N → xy_distanceFromSegmentSquared k (row a0 st s) (row a0 st e) (row a0 st i) = some (Wd s e i) ∧ Q (Wd s e i) (Φ s e i))
    {s e : Nat} (hse : s < e) (he : e < N) : ∀ (n k j : Nat) (W : Nat) (I : Int) (ω : Rat), e - j = n → n < k → s < j → j ≤ e → Q W ω → 0 ≤ ω → (∀ i, s < i → i < j → Φ s e i ≤ ω) → (0 < ω → ∃ m : Nat, I = (m : Int) ∧ s < m ∧ m < j) →
    ∃ W' I' ω', xy_dpWorker_l2 (e : Int) a0 (st : Int) (row a0 st s) (row a0 st e) k (W, I, (j : Int)) = some (W', I') ∧ Q W' ω' ∧ 0 ≤ ω' ∧ (∀ i, s < i → i < e → Φ s e i ≤ ω') ∧ (0 < ω' → ∃ m : Nat, I' = (m : Int) ∧ s < m ∧ m < e)
  | n, 0, j, W, I, ω, _, h, _, _, _, _, _, _ => absurd h (by omega)
  | n, k + 1, j, W, I, ω, hn, hk, hsj, hje, qW, h0, hΦ, hI => by
    simp only [xy_dpWorker_l2, xy_dpWorker_l2s]
    by_cases hlt : j < e
    · obtain ⟨d1, d2⟩ := hd k s e j (by omega) he (by omega)
      rw [lt_true hlt, br_true, cutrow hl hN hst (by omega), sbind, d1, sbind, fgt_q d2 qW]
      have step : iadd .i64 (j : Int) 1 = ((j + 1 : Nat) : Int) := iadd_one (by omega)
      by_cases hg : ω < Φ s e j
      · rw [decide_eq_true hg, br_true]
        unfold xy_dpWorker_j5
        rw [step]
        refine l2_is hl hN hst hd hse he (n - 1) k (j + 1) _ _ (Φ s e j) (by omega) (by omega) (by omega) (by omega) d2 (by grind) ?_ (fun _ => ⟨j, rfl, hsj, by omega⟩)
        intro i h1 h2
        rcases Nat.lt_or_ge i j with h | h
        · have := hΦ i h1 h; grind
        · have : i = j := by omega
          subst this; grind
      · rw [decide_eq_false hg, br_false]
        unfold xy_dpWorker_j5
        rw [step]
        refine l2_is hl hN hst hd hse he (n - 1) k (j + 1) _ _ ω (by omega) (by omega) (by omega) (by omega) qW h0 ?_ (fun h => by obtain ⟨m, m1, m2, m3⟩ := hI h; exact ⟨m, m1, m2, by omega⟩)
        intro i h1 h2
        rcases Nat.lt_or_ge i j with h | h
        · exact hΦ i h1 h
        · have : i = j := by omega
          subst this; grind
    · have : j = e := by omega
      subst this
      rw [lt_false (Nat.lt_irrefl _), br_false]
      exact ⟨W, I, ω, rfl, qW, h0, hΦ, hI⟩
/-- the stack: neighbouring segments -/
def stk : List Nat → List Int
  | b :: a :: t => stk (a :: t) ++ [(a : Int), (b : Int)]
  | _ => []
theorem stk_len : ∀ bs : List Nat, (stk bs).length = 2 * (bs.length - 1)
  | [] => rfl
  | [_] => rfl
  | b :: a :: t => by
    rw [stk, List.length_append, stk_len (a :: t)]; simp; omega
structure Inv (M : Rat) (mask : List Int) (bs : List Nat) : Prop where
  len : mask.length = N
  ne : bs ≠ []
  srt : bs.Pairwise (· > ·)
  top : ∀ b ∈ bs, b < N
  bit : ∀ i, i < N → mask[i]? = some 0 ∨ mask[i]? = some 1
  at0 : 0 ∈ bs
  last : mask[N - 1]? = some 1
  low : ∀ E t, bs = E :: t → ∀ i, i ≤ E → (mask[i]? = some 1 ↔ i ∈ bs)
  high : ∀ E t, bs = E :: t → ∀ i j, E ≤ i → i < j → j < N → mask[i]? = some 1 → mask[j]? = some 1 → (∀ l, i < l → l < j → mask[l]? ≠ some 1) → ∀ l, i < l → l < j → Φ i j l ≤ M
theorem sorted_len : ∀ (bs : List Nat) (E : Nat) (t : List Nat), bs = E :: t → bs.Pairwise (· > ·) → bs.length ≤ E + 1
  | [], _, _, h, _ => by cases h
  | [b], E, t, h, _ => by cases h; simp
  | b :: a :: u, E, t, h, hp => by
    cases h
    have h1 := (List.pairwise_cons.1 hp).1 a (List.mem_cons_self)
    have h2 := sorted_len (a :: u) a u rfl (List.pairwise_cons.1 hp).2
    simp at h2 ⊢; omega
theorem inv_pop {M : Rat} {mask : List Int} {E a : Nat} {t : List Nat} (h : Inv N Φ M mask (E :: a :: t)) (hM : ∀ i, a < i → i < E → Φ a E i ≤ M) : Inv N Φ M mask (a :: t) := by
  have hp := List.pairwise_cons.1 h.srt
  have haE : a < E := hp.1 a List.mem_cons_self
  have hlow := h.low E (a :: t) rfl
  have hhigh := h.high E (a :: t) rfl
  have ht : ∀ b ∈ t, b < a := (List.pairwise_cons.1 hp.2).1
  refine ⟨h.len, by simp, hp.2, fun b hb => h.top b (List.mem_cons_of_mem _ hb), h.bit, ?_, h.last, ?_, ?_⟩
  · rcases List.mem_cons.1 h.at0 with h1 | h1
    · omega
    · exact h1
  · intro E' t' e i hi
    cases e
    rw [hlow i (by omega)]
    constructor
    · intro h1
      rcases List.mem_cons.1 h1 with h2 | h2
      · omega
      · exact h2
    · intro h1; exact List.mem_cons_of_mem _ h1
  · intro E' t' e i j hi hij hj mi mj none l h1 h2
    cases e
    rcases Nat.lt_or_ge i E with hc | hc
    · have hi1 := (hlow i (by omega)).1 mi
      have ia : i = a := by
        rcases List.mem_cons.1 hi1 with h3 | h3
        · omega
        · rcases List.mem_cons.1 h3 with h4 | h4
          · exact h4
          · have := ht i h4; omega
      subst ia
      have mE : mask[E]? = some 1 := (hlow E (Nat.le_refl _)).2 List.mem_cons_self
      have hjE : j ≤ E := by
        rcases Nat.lt_or_ge E j with h3 | h3
        · exact absurd mE (none E haE h3)
        · exact h3
      have hj1 := (hlow j hjE).1 mj
      have je : j = E := by
        rcases List.mem_cons.1 hj1 with h3 | h3
        · exact h3
        · rcases List.mem_cons.1 h3 with h4 | h4
          · omega
          · have := ht j h4; omega
      subst je
      exact hM l h1 h2
    · exact hhigh i j hc hij hj mi mj none l h1 h2
theorem set_at {mask : List Int} {m i : Nat} (hm : m < mask.length) : (mask.set m 1)[i]? = if i = m then some 1 else mask[i]? := by
  rw [List.getElem?_set]
  by_cases h : m = i
  · subst h; rw [if_pos rfl, if_pos hm, if_pos rfl]
  · rw [if_neg h, if_neg (fun h' => h h'.symm)]
theorem inv_split {M : Rat} {mask : List Int} {E a m : Nat} {t : List Nat} (h : Inv N Φ M mask (E :: a :: t)) (h1 : a < m) (h2 : m < E) : Inv N Φ M (mask.set m 1) (E :: m :: a :: t) := by
  have hp := List.pairwise_cons.1 h.srt
  have hEN : E < N := h.top E List.mem_cons_self
  have hml : m < mask.length := by rw [h.len]; omega
  have hlow := h.low E (a :: t) rfl
  have hhigh := h.high E (a :: t) rfl
  refine ⟨by simp [h.len], by simp, ?_, ?_, ?_, ?_, ?_, ?_, ?_⟩
  · refine List.pairwise_cons.2 ⟨?_, List.pairwise_cons.2 ⟨?_, hp.2⟩⟩
    · intro b hb
      rcases List.mem_cons.1 hb with h3 | h3
      · subst h3; exact h2
      · exact hp.1 b h3
    · intro b hb
      rcases List.mem_cons.1 hb with h3 | h3
      · subst h3; exact h1
      · have := (List.pairwise_cons.1 hp.2).1 b h3
        show b < m
        omega
  · intro b hb
    rcases List.mem_cons.1 hb with h3 | h3
    · omega
    · rcases List.mem_cons.1 h3 with h4 | h4
      · omega
      · exact h.top b (List.mem_cons_of_mem _ h4)
  · intro i hi
    rw [set_at hml]
    split
    · exact .inr rfl
    · exact h.bit i hi
  · rcases List.mem_cons.1 h.at0 with h3 | h3
    · omega
    · exact List.mem_cons_of_mem _ (List.mem_cons_of_mem _ h3)
  · rw [set_at hml]
    split
    · rfl
    · exact h.last
  · intro E' t' e i hi
    cases e
    rw [set_at hml]
    by_cases him : i = m
    · rw [if_pos him, him]; simp
    · rw [if_neg him, hlow i hi]
      simp only [List.mem_cons]
      constructor
      · rintro (h3 | h3)
        · exact .inl h3
        · exact .inr (.inr h3)
      · rintro (h3 | h3 | h3)
        · exact .inl h3
        · exact absurd h3 him
        · exact .inr h3
  · intro E' t' e i j hi hij hj mi mj none l q1 q2
    cases e
    rw [set_at hml, if_neg (by omega)] at mi mj
    refine hhigh i j hi hij hj mi mj ?_ l q1 q2
    intro l' l1 l2
    have := none l' l1 l2
    rw [set_at hml, if_neg (by omega)] at this
    exact this
theorem l3_is (hl : a0.length = N * st) (hN : N ≤ 60) (hst : st ≤ 8)
    (hd : ∀ k s e i, s < N → e < N → i < N → xy_distanceFromSegmentSquared k (row a0 st s) (row a0 st e) (row a0 st i) = some (Wd s e i) ∧ Q (Wd s e i) (Φ s e i))
    {th : Nat} {M : Rat} (qM : Q (gmul th th) M) (hM0 : 0 ≤ M) : ∀ (k μ : Nat) (mask : List Int) (cnt : Int) (bs : List Nat), Inv N Φ M mask bs → (∀ E t, bs = E :: t → 2 * (E + 1 - bs.length) + bs.length ≤ μ) → μ + 70 < k → 0 ≤ cnt → cnt + μ ≤ 1000 →
    ∃ cnt' mask', xy_dpWorker_l3 a0 (st : Int) th k (mask, cnt, stk bs, ((stk bs).length : Int)) = some (cnt', mask') ∧ Inv N Φ M mask' [0] ∧ 0 ≤ cnt' ∧ cnt' ≤ 1000
  | 0, μ, mask, cnt, bs, _, _, h, _, _ => absurd h (by omega)
  | k + 1, μ, mask, cnt, bs, inv, hμ, hk, hc0, hc1 => by
    match bs, inv, hμ with
    | [], inv, _ => exact absurd rfl inv.ne
    | [b], inv, _ =>
      have hb : b = 0 := by have := inv.at0; simp at this; exact this.symm
      subst hb
      simp only [xy_dpWorker_l3, xy_dpWorker_l3s, stk]
      exact ⟨cnt, mask, rfl, inv, hc0, by omega⟩
    | E :: a :: t, inv, hμ =>
      have hp := List.pairwise_cons.1 inv.srt
      have haE : a < E := hp.1 a List.mem_cons_self
      have hEN : E < N := inv.top E List.mem_cons_self
      have hlen := sorted_len _ E (a :: t) rfl inv.srt
      have hlen2 := sorted_len _ a t rfl hp.2
      have hμ' := hμ E (a :: t) rfl
      simp only [List.length_cons] at hlen hlen2 hμ'
      obtain ⟨S, hS⟩ : ∃ S, S = stk (a :: t) := ⟨_, rfl⟩
      have hSl : S.length = 2 * t.length := by rw [hS, stk_len]; simp
      have hstk : stk (E :: a :: t) = S ++ [(a : Int), (E : Int)] := by rw [stk, hS]
      have hll : (S ++ [(a : Int), (E : Int)]).length = S.length + 2 := by simp
      have s2 : isub .i64 ((S ++ [(a : Int), (E : Int)]).length : Int) 2 = (S.length : Int) := by rw [isub_i64 (by omega) (by omega)]; omega
      have s1 : isub .i64 ((S ++ [(a : Int), (E : Int)]).length : Int) 1 = ((S.length + 1 : Nat) : Int) := by rw [isub_i64 (by omega) (by omega)]; omega
      have g2 : idx (S ++ [(a : Int), (E : Int)]) (S.length : Int) = some (a : Int) := by rw [idx_nat]; simp
      have g1 : idx (S ++ [(a : Int), (E : Int)]) ((S.length + 1 : Nat) : Int) = some (E : Int) := by rw [idx_nat]; simp
      have st1 : iadd .i64 (a : Int) 1 = ((a + 1 : Nat) : Int) := iadd_one (by omega)
      obtain ⟨W', I', ω', l1, l2, l3, l4, l5⟩ := l2_is a0 st N Wd Φ hl hN hst hd haE hEN (E - (a + 1)) k (a + 1) 0 0 0 rfl (by omega) (by omega) (by omega) q_zero (by grind) (fun i h1 h2 => by omega) (fun h => absurd h (by grind))
      rw [hstk]
      simp only [xy_dpWorker_l3, xy_dpWorker_l3s]
      rw [decide_eq_true (show (0 : Int) < ((S ++ [(a : Int), (E : Int)]).length : Int) by omega), br_true, s2, g2, sbind, s1, g1, sbind, cutrow hl hN hst (show a < N by omega), sbind, cutrow hl hN hst hEN, sbind, st1, l1, sbind, sbind]
      rw [fgt_q l2 qM]
      by_cases hg : M < ω'
      · rw [decide_eq_true hg, br_true]
        obtain ⟨m, rfl, m1, m2⟩ := l5 (by grind)
        have im : ∃ x, idx mask (m : Int) = some x := ⟨mask[m]'(by rw [inv.len]; omega), by rw [idx_nat, List.getElem?_eq_getElem]⟩
        obtain ⟨x, im⟩ := im
        have e1 : ((S ++ [(a : Int), (E : Int)]).set (((S.length + 1 : Nat) : Int)).toNat (m : Int)) = S ++ [(a : Int), (m : Int)] := by
          rw [Int.toNat_natCast, List.set_append_right _ _ (by omega), show S.length + 1 - S.length = 1 by omega]; rfl
        have e2 : apd 8 (S ++ [(a : Int), (m : Int)]) [(m : Int), (E : Int)] = some (stk (E :: m :: a :: t)) := by
          rw [apd_ok (by simp; omega) (by simp; omega), stk, stk, ← hS]
        dsimp only
        rw [im, sbind, sbind, e1, e2, sbind]
        unfold xy_dpWorker_j6
        have e3 : (mask.set ((m : Int)).toNat 1) = mask.set m 1 := by rw [Int.toNat_natCast]
        rw [e3, iadd_i64 (a := cnt) (by omega) (by omega)]
        refine l3_is hl hN hst hd qM hM0 k (μ - 1) (mask.set m 1) (cnt + 1) (E :: m :: a :: t) (inv_split N Φ inv m1 m2) ?_ (by omega) (by omega) (by omega)
        intro E' t' e
        cases e
        have := sorted_len _ E (m :: a :: t) rfl (inv_split N Φ inv m1 m2).srt
        simp only [List.length_cons] at this ⊢
        omega
      · rw [decide_eq_false hg, br_false]
        have e1 : cut (S ++ [(a : Int), (E : Int)]) 0 (S.length : Int) = some S := by
          rw [show (0 : Int) = ((0 : Nat) : Int) from rfl, cut_ok (by omega) (by simp)]; simp
        rw [e1, sbind]
        unfold xy_dpWorker_j6
        rw [hS]
        refine l3_is hl hN hst hd qM hM0 k (μ - 1) mask cnt (a :: t) (inv_pop N Φ inv (fun i h1 h2 => by have := l4 i h1 h2; grind)) ?_ (by omega) (by omega) (by omega)
        intro E' t' e
        cases e
        simp only [List.length_cons]
        omega
end Go.Proofs.Ytlipjaacncpaoaa
