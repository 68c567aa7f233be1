/-
  Simplification: every point left out lies near to its piece. Ours.
-/
import Derived.Test.YtlipjaacncpaoaaDpWorker
import Derived.Test.YtlipjaacncpaoaaSimpPts
namespace Go.Proofs.Ytlipjaacncpaoaa
open Go.Sx
open Ieee (signed)
set_option linter.unusedVariables false
set_option linter.unusedSimpArgs false
set_option maxRecDepth 100000

/-! #### from marks to indices -/
def kept (mask : List Int) (j n : Nat) : List Nat := (List.range' j n).filter (fun i => decide (mask.getD i 0 = 1))
theorem idx_geti {cs : List Int} {i : Nat} (h : i < cs.length) : idx cs (i : Int) = some (cs.getD i 0) := by rw [idx_get h, getD_of h]
theorem kept_loop (mask : List Int) (cnt : Int) (N : Nat) (hm : mask.length = N) (hN : N ≤ 60) : ∀ (n k j : Nat) (acc : List Int), N - j = n → n < k → j ≤ N → acc.length ≤ j →
    xy_SimplifyFlatCoords_l2 (mask, cnt) k (acc, (j : Int)) = some (acc ++ (kept mask j n).map (fun (i : Nat) => (i : Int)))
  | n, 0, j, _, _, h, _, _ => absurd h (by omega)
  | n, k + 1, j, acc, hn, hk, hj, ha => by
    simp only [xy_SimplifyFlatCoords_l2, xy_SimplifyFlatCoords_l2s]
    by_cases hlt : j < N
    · obtain ⟨n, rfl⟩ : ∃ m, n = m + 1 := ⟨n - 1, by omega⟩
      rw [lt_true (show j < mask.length by omega), br_true, idx_geti (by omega), sbind]
      unfold xy_SimplifyFlatCoords_j2
      rw [iadd_one (by omega)]
      by_cases h1 : mask.getD j 0 = 1
      · rw [decide_eq_true h1, br_true, apd_ok (by simp; omega) (by simp; omega), sbind, kept_loop mask cnt N hm hN n k (j + 1) (acc ++ [(j : Int)]) (by omega) (by omega) (by omega) (by simp; omega)]
        have e : kept mask j (n + 1) = j :: kept mask (j + 1) n := by unfold kept; rw [List.range'_succ, List.filter_cons_of_pos (by simpa using h1)]
        rw [e]; simp
      · rw [decide_eq_false h1, br_false, kept_loop mask cnt N hm hN n k (j + 1) acc (by omega) (by omega) (by omega) (by omega)]
        have e : kept mask j (n + 1) = kept mask (j + 1) n := by unfold kept; rw [List.range'_succ, List.filter_cons_of_neg (by simpa using h1)]
        rw [e]
    · have : j = N := by omega
      subst this
      rw [lt_false (by omega), br_false]
      have : n = 0 := by omega
      subst this
      simp [kept]
theorem kept_mem {mask : List Int} {N i : Nat} : i ∈ kept mask 0 N ↔ i < N ∧ mask.getD i 0 = 1 := by
  unfold kept
  simp [List.mem_filter, List.mem_range']
theorem kept_lt {mask : List Int} {N : Nat} : (kept mask 0 N).Pairwise (· < ·) := by
  unfold kept
  exact List.Pairwise.filter _ (List.pairwise_lt_range' ..)
theorem pw_lt {l : List Nat} (h : l.Pairwise (· < ·)) {i j : Nat} (hij : i < j) (hj : j < l.length) : l[i]'(by omega) < l[j] := List.pairwise_iff_getElem.1 h i j (by omega) hj hij
/-- the first of them -/
theorem kept_first {l : List Nat} (h : l.Pairwise (· < ·)) (h0 : 0 ∈ l) (hl : 0 < l.length) : l[0] = 0 := by
  obtain ⟨u, hu, e⟩ := List.getElem_of_mem h0
  rcases Nat.eq_zero_or_pos u with h1 | h1
  · subst h1; exact e
  · have := pw_lt h h1 hu; omega
theorem kept_last {l : List Nat} {N : Nat} (h : l.Pairwise (· < ·)) (hb : ∀ x ∈ l, x < N) (h0 : N - 1 ∈ l) (hl : 0 < l.length) : l[l.length - 1] = N - 1 := by
  obtain ⟨u, hu, e⟩ := List.getElem_of_mem h0
  rcases Nat.lt_or_ge u (l.length - 1) with h1 | h1
  · have := pw_lt h h1 (by omega)
    have h2 := hb _ (List.getElem_mem (show l.length - 1 < l.length by omega))
    omega
  · have : u = l.length - 1 := by omega
    subst this; exact e
theorem kept_none {l : List Nat} (h : l.Pairwise (· < ·)) {t m : Nat} (ht : t + 1 < l.length) (h1 : l[t] < m) (h2 : m < l[t + 1]) : m ∉ l := by
  intro hm
  obtain ⟨u, hu, e⟩ := List.getElem_of_mem hm
  rcases Nat.lt_trichotomy u t with h3 | h3 | h3
  · have := pw_lt h h3 (by omega); omega
  · subst h3; omega
  · rcases Nat.lt_trichotomy u (t + 1) with h4 | h4 | h4
    · omega
    · subst h4; omega
    · have := pw_lt h h4 hu; omega
/-! #### the program's answer -/
theorem row_is {cs : List Nat} {st N i : Nat} (hl : cs.length = N * st) (h2 : 2 ≤ st) (hi : i < N) : ∃ t, row cs st i = cs.getD (i * st) 0 :: cs.getD (i * st + 1) 0 :: t := by
  obtain ⟨b1, b2, b3⟩ := at_lt hi h2
  unfold row
  obtain ⟨l, hl2⟩ : ∃ l, l = (cs.take (i * st + st)).drop (i * st) := ⟨_, rfl⟩
  have hlen : l.length = st := by rw [hl2]; simp; omega
  have g : ∀ j, j < st → l[j]? = cs[i * st + j]? := fun j hj => by
    rw [hl2, List.getElem?_drop, List.getElem?_take, if_pos (by omega)]
  rw [← hl2]
  match l, hlen, g with
  | [], hlen, _ => simp at hlen; omega
  | [a], hlen, _ => simp at hlen; omega
  | a :: b :: t, hlen, g =>
    refine ⟨t, ?_⟩
    have g0 := g 0 (by omega)
    have g1 := g 1 (by omega)
    simp only [List.getElem?_cons_zero, List.getElem?_cons_succ, Nat.add_zero] at g0 g1
    simp only [List.getD, ← g0, ← g1, Option.getD_some]
theorem dist_k (k : Nat) (a b c : List Nat) : xy_distanceFromSegmentSquared k a b c = xy_distanceFromSegmentSquared 0 a b c := rfl
theorem start_inv {N : Nat} (h3 : 3 ≤ N) (Φ : Nat → Nat → Nat → Rat) (M : Rat) : Inv N Φ M (((List.replicate N (0 : Int)).set 0 1).set (N - 1) 1) [N - 1, 0] := by
  have g : ∀ i, (((List.replicate N (0 : Int)).set 0 1).set (N - 1) 1)[i]? = if i = N - 1 then some 1 else if i = 0 then some 1 else if i < N then some 0 else none := by
    intro i
    rw [set_at (by simp; omega), set_at (by simp; omega)]
    simp [List.getElem?_replicate]
  refine ⟨by simp, by simp, ?_, ?_, ?_, by simp, ?_, ?_, ?_⟩
  · simp; omega
  · intro b hb; simp at hb; omega
  · intro i hi; rw [g]
    split
    · exact .inr rfl
    · split
      · exact .inr rfl
      · first
        | exact .inl rfl
        | (rw [if_pos hi]; exact .inl rfl)
  · rw [g, if_pos rfl]
  · intro E t e i hi
    cases e
    rw [g]
    simp only [List.mem_cons, List.not_mem_nil, or_false]
    constructor
    · intro h
      split at h
      · exact .inl (by assumption)
      · split at h
        · exact .inr (by assumption)
        · rw [if_pos (by omega)] at h; cases h
    · rintro (h | h)
      · rw [if_pos h]
      · split
        · rfl
        · first
          | rfl
          | rw [if_pos h]
  · intro E t e i j hi hij hj
    cases e
    omega
theorem quo_is {N st : Nat} (hst : 2 ≤ st) (h : N * st < 1000000) : iquo .i64 ((N * st : Nat) : Int) (st : Int) = some (N : Int) := by
  have hN : N ≤ N * st := Nat.le_mul_of_pos_right N (by omega)
  unfold iquo
  rw [if_neg (by omega), Int.tdiv_eq_ediv_of_nonneg (by omega), ← Int.natCast_ediv, Nat.mul_div_cancel _ (by omega), wrap_i64 (by omega) (by omega)]
theorem simplify_is {k : Nat} (hk : 1000 < k) {cs : List Nat} {st N : Nat} (hl : cs.length = N * st) (hN : N ≤ 60) (h3 : 3 ≤ N) (h2 : 2 ≤ st) (h8 : st ≤ 8)
    {Wd : Nat → Nat → Nat → Nat} {Φ : Nat → Nat → Nat → Rat} (hd : ∀ k s e i, s < N → e < N → i < N → xy_distanceFromSegmentSquared k (row cs st s) (row cs st e) (row cs st i) = some (Wd s e i) ∧ Q (Wd s e i) (Φ s e i))
    {th : Nat} {M : Rat} (qM : Q (gmul th th) M) (hM0 : 0 ≤ M) :
    ∃ F : List Nat, impl_Simplify k cs th (st : Int) = some (F.map (fun (i : Nat) => (i : Int)), true) ∧ F.Pairwise (· < ·) ∧ (∀ x ∈ F, x < N) ∧ 0 ∈ F ∧ N - 1 ∈ F ∧ F.length ≤ N ∧
      (∀ t (ht : t + 1 < F.length), ∀ l, F[t] < l → l < F[t + 1] → Φ F[t] F[t + 1] l ≤ M) := by
  have hNs : N * st ≤ 60 * 8 := Nat.mul_le_mul hN h8
  have q := quo_is (N := N) h2 (by omega)
  have m1 : mk 1 (0 : Int) (N : Int) (N : Int) = some (List.replicate N 0) := by
    unfold mk; rw [if_pos (by omega)]; rfl
  obtain ⟨cnt, mask, r1, inv, c0, c1⟩ := l3_is cs st N Wd Φ hl hN h8 hd qM hM0 k 118 _ 2 [N - 1, 0] (start_inv h3 Φ M) (by
    intro E t e; cases e; simp only [List.length_cons, List.length_nil]; omega) (by omega) (by omega) (by omega)
  have hst0 : stk [N - 1, 0] = [(0 : Int), ((N - 1 : Nat) : Int)] := rfl
  have hN1 : isub .i64 (N : Int) 1 = ((N - 1 : Nat) : Int) := by rw [isub_i64 (by omega) (by omega)]; omega
  have i0 : idx (List.replicate N (0 : Int)) 0 = some 0 := by
    have := idx_nat (List.replicate N (0 : Int)) 0
    rw [show ((0 : Nat) : Int) = 0 from rfl] at this
    rw [this, List.getElem?_replicate, if_pos (by omega)]
  obtain ⟨x, i1⟩ : ∃ x, idx ((List.replicate N (0 : Int)).set (0 : Int).toNat 1) ((N - 1 : Nat) : Int) = some x := ⟨_, idx_geti (by simp; omega)⟩
  have hw : xy_dpWorker k cs th (((List.replicate N (0 : Int)).set (0 : Int).toNat 1).set (((N - 1 : Nat) : Int)).toNat 1) (st : Int) = some (mask, cnt) := by
    unfold xy_dpWorker
    rw [hl, q, sbind, hN1, apd_ok (by simp) (by simp), sbind, List.nil_append, ← hst0, Int.toNat_natCast, show (0 : Int).toNat = 0 from rfl, r1, sbind]
  have hsl : (((List.replicate N (0 : Int)).set (0 : Int).toNat 1).length : Int) = (N : Int) := by simp
  have m2 : mk 8 (0 : Int) 0 cnt = some [] := by unfold mk; rw [if_pos (by omega)]; rfl
  have kl := kept_loop mask cnt N inv.len hN N k 0 [] (by omega) (by omega) (by omega) (by simp)
  rw [List.nil_append] at kl
  have klen : (kept mask 0 N).length ≤ N := by
    unfold kept
    have := List.length_filter_le (fun i => decide (mask.getD i 0 = 1)) (List.range' 0 N)
    simpa using this
  have mq : ∀ i, i < N → (mask.getD i 0 = 1 ↔ mask[i]? = some 1) := fun i hi => by
    have : mask[i]? = some (mask.getD i 0) := by
      have h : i < mask.length := by rw [inv.len]; exact hi
      rw [List.getElem?_eq_getElem h, getD_of h]
    rw [this]; simp
  refine ⟨kept mask 0 N, ?_, kept_lt, fun x hx => (kept_mem.1 hx).1, ?_, ?_, klen, ?_⟩
  · unfold impl_Simplify xy_SimplifyFlatCoords impl_ints
    rw [hl, q, sbind, decide_eq_false (show ¬ (N : Int) < 3 by omega), br_false, m1, sbind, i0, sbind, hsl, hN1, i1, sbind, hw, sbind, m2, sbind]
    have kl' : xy_SimplifyFlatCoords_l2 (mask, cnt) k ([], 0) = _ := kl
    rw [kl', sbind, sbind, apd_ok (by simp; omega) (by simp; omega), sbind, sbind, List.nil_append]
  · exact kept_mem.2 ⟨by omega, (mq 0 (by omega)).2 ((inv.low 0 [] rfl 0 (Nat.le_refl _)).2 (by simp))⟩
  · exact kept_mem.2 ⟨by omega, (mq _ (by omega)).2 inv.last⟩
  · intro t ht l l1 l2
    have a1 := kept_mem.1 (List.getElem_mem (show t < (kept mask 0 N).length by omega))
    have a2 := kept_mem.1 (List.getElem_mem ht)
    refine inv.high 0 [] rfl _ _ (Nat.zero_le _) (by omega) a2.1 ((mq _ a1.1).1 a1.2) ((mq _ a2.1).1 a2.2) ?_ l l1 l2
    intro m h1 h2 hm
    exact kept_none kept_lt ht h1 h2 (kept_mem.2 ⟨by omega, (mq m (by omega)).2 hm⟩)
/-! #### the law -/
def Ok (th : Nat) (r : Six) : Prop := ∀ k2, 400000 < k2 → ∃ y, laws_rootOf k2 r.1 r.2.1 r.2.2.1 r.2.2.2.1 r.2.2.2.2.1 r.2.2.2.2.2 = some y ∧ fgt y (gadd th 4517110426252607488) = false
theorem idx_six {pts : List Six} {i : Nat} (h : i < pts.length) : idx pts (i : Int) = some (pts.getD i six0) := by rw [idx_get h, getD_of h]
theorem sq_loop {pts : List Six} {N s e th : Nat} (hp : pts.length = N) (hN : N ≤ 60) (hs : s < N) (he : e < N)
    (hok : ∀ k, 400000 < k → ∀ i, s < i → i < e → ∃ r, spec_SquareTo k (pts.getD i six0).1 (pts.getD i six0).2.1 (pts.getD i six0).2.2.1 (pts.getD i six0).2.2.2.1 (pts.getD i six0).2.2.2.2.1 (pts.getD i six0).2.2.2.2.2
      (pts.getD s six0).1 (pts.getD s six0).2.1 (pts.getD s six0).2.2.1 (pts.getD s six0).2.2.2.1 (pts.getD s six0).2.2.2.2.1 (pts.getD s six0).2.2.2.2.2
      (pts.getD e six0).1 (pts.getD e six0).2.1 (pts.getD e six0).2.2.1 (pts.getD e six0).2.2.2.1 (pts.getD e six0).2.2.2.2.1 (pts.getD e six0).2.2.2.2.2 = some r ∧ Ok th r) :
    ∀ (n k j : Nat) (acc : List Six), e - j = n → 400000 + n < k → s < j → j ≤ e → acc.length ≤ j → (∀ r ∈ acc, Ok th r) →
    ∃ sq, spec_Squares_l1 (e : Int) pts (s : Int) k (acc, (j : Int)) = some sq ∧ sq.length ≤ 60 ∧ ∀ r ∈ sq, Ok th r
  | n, 0, j, acc, _, h, _, _, _, _ => absurd h (by omega)
  | n, k + 1, j, acc, hn, hk, hsj, hje, ha, hr => by
    simp only [spec_Squares_l1, spec_Squares_l1s]
    by_cases hlt : j < e
    · obtain ⟨r, r1, r2⟩ := hok k (by omega) j hsj hlt
      rw [lt_true hlt, br_true, idx_six (by omega), sbind, idx_six (by omega), sbind, idx_six (by omega), sbind, r1, sbind, apd_ok (by simp; omega) (by simp; omega), sbind, iadd_one (by omega)]
      refine sq_loop hp hN hs he hok (n - 1) k (j + 1) _ (by omega) (by omega) (by omega) (by omega) (by simp; omega) ?_
      intro x hx
      rcases List.mem_append.1 hx with h | h
      · exact hr x h
      · simp at h; rw [h]; exact r2
    · have : j = e := by omega
      subst this
      rw [lt_false (Nat.lt_irrefl _), br_false]
      exact ⟨acc, rfl, by omega, hr⟩
theorem root_loop {sq : List Six} {th : Nat} (hl : sq.length ≤ 60) (hr : ∀ r ∈ sq, Ok th r) : ∀ (n k j : Nat), sq.length - j = n → 400000 + n < k → j ≤ sq.length → laws_FnSimplifyNear_l2 sq th k (j : Int) = some (.inr ())
  | n, 0, j, _, h, _ => absurd h (by omega)
  | n, k + 1, j, hn, hk, hj => by
    simp only [laws_FnSimplifyNear_l2, laws_FnSimplifyNear_l2s]
    by_cases hlt : j < sq.length
    · obtain ⟨y, y1, y2⟩ := hr _ (List.getElem_mem hlt) k (by omega)
      rw [lt_true hlt, br_true, idx_get hlt, sbind, y1, sbind, sbind, y2, br_false, iadd_one (by omega)]
      exact root_loop hl hr (n - 1) k (j + 1) (by omega) (by omega) (by omega)
    · have : j = sq.length := by omega
      rw [lt_false (by omega), br_false]
theorem law_loop {pts : List Six} {F : List Nat} {N th : Nat} {ok : Bool} (hp : pts.length = N) (hN : N ≤ 60) (hF : F.Pairwise (· < ·)) (hb : ∀ x ∈ F, x < N) (hlen : F.length ≤ N)
    (hok : ∀ t (ht : t + 1 < F.length) k, 400000 < k → ∀ i, F[t] < i → i < F[t + 1] → ∃ r, spec_SquareTo k (pts.getD i six0).1 (pts.getD i six0).2.1 (pts.getD i six0).2.2.1 (pts.getD i six0).2.2.2.1 (pts.getD i six0).2.2.2.2.1 (pts.getD i six0).2.2.2.2.2
      (pts.getD F[t] six0).1 (pts.getD F[t] six0).2.1 (pts.getD F[t] six0).2.2.1 (pts.getD F[t] six0).2.2.2.1 (pts.getD F[t] six0).2.2.2.2.1 (pts.getD F[t] six0).2.2.2.2.2
      (pts.getD F[t + 1] six0).1 (pts.getD F[t + 1] six0).2.1 (pts.getD F[t + 1] six0).2.2.1 (pts.getD F[t + 1] six0).2.2.2.1 (pts.getD F[t + 1] six0).2.2.2.2.1 (pts.getD F[t + 1] six0).2.2.2.2.2 = some r ∧ Ok th r) :
    ∀ (n k j : Nat), F.length - j = n → 400100 + n < k → 1 ≤ j → j ≤ F.length → laws_FnSimplifyNear_l3 (F.map (fun (i : Nat) => (i : Int)), true) (pts, ok) th k (j : Int) = some (.inr ())
  | n, 0, j, _, h, _, _ => absurd h (by omega)
  | n, k + 1, j, hn, hk, h1, hj => by
    simp only [laws_FnSimplifyNear_l3, laws_FnSimplifyNear_l3s]
    have hlm : (F.map (fun (i : Nat) => (i : Int))).length = F.length := by simp
    by_cases hlt : j < F.length
    · obtain ⟨t, rfl⟩ : ∃ t, j = t + 1 := ⟨j - 1, by omega⟩
      have g : ∀ i (hi : i < F.length), idx (F.map (fun (i : Nat) => (i : Int))) (i : Int) = some ((F[i] : Nat) : Int) := fun i hi => by rw [idx_get (by omega)]; simp
      have s1 : isub .i64 ((t + 1 : Nat) : Int) 1 = (t : Int) := by rw [isub_i64 (by omega) (by omega)]; omega
      have b0 := hb _ (List.getElem_mem (show t < F.length by omega))
      have b1 := hb _ (List.getElem_mem hlt)
      have lt := pw_lt hF (show t < t + 1 by omega) hlt
      rw [lt_true (by omega), br_true, g _ hlt, sbind, s1, g t (by omega), sbind, decide_eq_false (show ¬ ((F[t + 1] : Nat) : Int) ≤ ((F[t] : Nat) : Int) by omega), br_false, sbind, sbind]
      obtain ⟨sq, q1, q2, q3⟩ := sq_loop (th := th) hp hN b0 b1 (hok t hlt) (F[t + 1] - (F[t] + 1)) k (F[t] + 1) [] rfl (by omega) (by omega) (by omega) (by simp) (fun r h => by cases h)
      unfold spec_Squares
      rw [iadd_one (by omega), q1, sbind, sbind]
      have rl := root_loop q2 q3 sq.length k 0 rfl (by omega) (by omega)
      have rl' : laws_FnSimplifyNear_l2 sq th k 0 = _ := rl
      rw [rl', sbind]
      dsimp only
      rw [iadd_one (by omega)]
      exact law_loop hp hN hF hb hlen hok (n - 1) k (t + 1 + 1) (by omega) (by omega) (by omega) (by omega)
    · rw [lt_false (by omega), br_false]
theorem th_is {th : Nat} (h1 : fge th 0 = true) (h2 : fle th 4670232813583204352 = true) : ∃ τ, Q th τ ∧ 0 ≤ τ ∧ τ ≤ 16384 := by
  have hfin : ∃ s m i, FloatKind.f64.format.read th = .number s m i := by
    rcases fle_read D_16384 h2 with h | h
    · exact h
    · rcases fge_read (D_zero 1074) h1 with h' | h'
      · exact h'
      · rw [h] at h'; cases h'
  obtain ⟨s, m, i, hr⟩ := hfin
  rw [fmt_is] at hr
  have hi : ∃ q : Nat, i = (q : Int) - 1074 := by
    unfold Ieee.Format.read at hr
    simp only [Go.Sx.sign_is, binade_is, inf_is, least_is] at hr
    split at hr
    · simp only [Ieee.Datum.number.injEq] at hr; exact ⟨0, by omega⟩
    · split at hr
      · simp only [Ieee.Datum.number.injEq] at hr; exact ⟨th % 2 ^ 63 / 2 ^ 52 - 1, by omega⟩
      · split at hr <;> cases hr
  obtain ⟨q, rfl⟩ := hi
  have hD : D th (signed s m q) 0 := ⟨s, m, q, hr, by simp⟩
  have hQ : Q th ((signed s m q : Int) / Un) := ⟨_, hD, un_cancel _⟩
  have q16 : Q 4670232813583204352 16384 := by have := Q_whole D_16384; exact this
  rw [fge_q hQ q_zero] at h1
  rw [fle_q hQ q16] at h2
  exact ⟨_, hQ, of_decide_eq_true h1, of_decide_eq_true h2⟩
theorem fact_FnSimplifyNear (a0 : List Nat) (a1 : Nat) (a2 : Int) (g0 : a0.length ≤ maxLen ∧ ∀ x ∈ a0, x < 18446744073709551616) {p q : Prop} (g1 : p) (g2 : q) : laws_FnSimplifyNear 1000000 a0 a1 a2 = some true := by
  unfold laws_FnSimplifyNear
  by_cases hlen : (2147483647 : Int) < (a0.length : Int)
  · rw [decide_eq_true hlen]; rfl
  rw [decide_eq_false hlen, br_false]
  obtain ⟨pts, ok, f1, f2⟩ := flatPoints_is (k := 1000000) (by decide) a2 a0 g0.2 (by omega)
  rw [f1, sbind]
  unfold laws_FnSimplifyNear_j1 laws_FnSimplifyNear_j2 laws_FnSimplifyNear_j3
  cases ok with
  | false => rfl
  | true =>
    obtain ⟨st, N, rfl, h2, h8, hl, hN, hp, XY, hpt⟩ := f2 rfl
    rw [Bool.not_true, br_false]
    dsimp only
    by_cases h3 : ((pts.length : Int) < 3)
    · rw [decide_eq_true h3]; rfl
    rw [decide_eq_false h3, br_false]
    cases hge : fge a1 0 with
    | false => rfl
    | true =>
      rw [br_true]
      cases hle : fle a1 4670232813583204352 with
      | false => rfl
      | true =>
        rw [Bool.not_true, br_false]
        obtain ⟨τ, qτ, τ0, τ1⟩ := th_is hge hle
        have hBB : (1099511627776 : Rat) ≤ BB := by decide +kernel
        have tb := bd_prod (a := τ) (b := τ) (A := 16384) (B := 16384) ⟨by grind, by grind⟩ ⟨by grind, by grind⟩
        obtain ⟨e, d, qM, he, hd⟩ := gmul_abs qτ qτ ⟨by grind, by grind⟩
        obtain ⟨M, hM⟩ : ∃ M, M = τ * τ * (1 + e) + d := ⟨_, rfl⟩
        rw [← hM] at qM
        have hM0 := gsq_nn qτ τ0 τ1 qM
        have hM1 : M ≤ τ * τ * (1 + uu) + uu := by
          have := Rat.mul_nonneg (Rat.mul_nonneg τ0 τ0) (show 0 ≤ uu - e by have := he.2; grind)
          have := hd.2
          generalize τ * τ = X at *
          grind
        -- the ways
        have ways : ∀ p : Nat × Nat × Nat, ∃ w : Nat × Rat, p.1 < N → p.2.1 < N → p.2.2 < N → ∃ u v u' v', xy_distanceFromSegmentSquared 0 (row a0 st p.1) (row a0 st p.2.1) (row a0 st p.2.2) = some w.1 ∧ Q w.1 w.2 ∧ u * u + v * v ≤ w.2 * (1 + 8 * uu) + 8 * uu ∧
            Way (XY p.1).1 (XY p.1).2 (XY p.2.1).1 (XY p.2.1).2 (XY p.2.2).1 (XY p.2.2).2 u' v' ∧ (u' - e34 ≤ u ∧ u ≤ u' + e34) ∧ (v' - e34 ≤ v ∧ v ≤ v' + e34) := by
          intro p
          by_cases h : p.1 < N ∧ p.2.1 < N ∧ p.2.2 < N
          · obtain ⟨ta, ea⟩ := row_is hl h2 h.1
            obtain ⟨tb, eb⟩ := row_is hl h2 h.2.1
            obtain ⟨tc, ec⟩ := row_is hl h2 h.2.2
            have pa := hpt _ h.1
            have pb := hpt _ h.2.1
            have pc := hpt _ h.2.2
            obtain ⟨w, φ, u, v, u', v', r1, r2, r3, r4, r5, r6⟩ := distSeg_is 0 (ta := ta) (tb := tb) (tp := tc) pa.dx pa.dy pb.dx pb.dy pc.dx pc.dy pa.bx pa.by_ pb.bx pb.by_ pc.bx pc.by_
            refine ⟨(w, φ), fun _ _ _ => ⟨u, v, u', v', ?_, r2, r3, r4, r5, r6⟩⟩
            rw [ea, eb, ec]; exact r1
          · exact ⟨(0, 0), fun h1 h2 h3 => absurd ⟨h1, h2, h3⟩ h⟩
        obtain ⟨w, hw⟩ := Classical.axiomOfChoice ways
        obtain ⟨F, s1, s2, s3, s4, s5, s6, s7⟩ := simplify_is (k := 1000000) (by decide) hl hN (by omega) h2 h8 (Wd := fun s e i => (w (s, e, i)).1) (Φ := fun s e i => (w (s, e, i)).2)
          (fun k s e i h1 h2 h3 => by
            obtain ⟨u, v, u', v', r1, r2, _⟩ := hw (s, e, i) h1 h2 h3
            exact ⟨by rw [dist_k]; exact r1, r2⟩) qM hM0
        rw [s1, sbind]
        dsimp only
        have hlm : (F.map (fun (i : Nat) => (i : Int))).length = F.length := by simp
        have hF2 : 2 ≤ F.length := by
          obtain ⟨u0, hu0, e0⟩ := List.getElem_of_mem s4
          obtain ⟨u1, hu1, e1⟩ := List.getElem_of_mem s5
          rcases Nat.lt_or_ge F.length 2 with h | h
          · have : u0 = u1 := by omega
            subst this
            omega
          · exact h
        rw [Bool.not_true, br_false, decide_eq_false (by omega)]
        unfold laws_FnSimplifyNear_j4 laws_FnSimplifyNear_j5 laws_FnSimplifyNear_j6
        have g : ∀ i (hi : i < F.length), idx (F.map (fun (i : Nat) => (i : Int))) (i : Int) = some ((F[i] : Nat) : Int) := fun i hi => by rw [idx_get (by omega)]; simp
        have g0 : idx (F.map (fun (i : Nat) => (i : Int))) 0 = some 0 := by
          have := g 0 (by omega)
          rw [kept_first s2 s4 (by omega)] at this; exact this
        have g1 : idx (F.map (fun (i : Nat) => (i : Int))) (isub .i64 ((F.map (fun (i : Nat) => (i : Int))).length : Int) 1) = some ((N - 1 : Nat) : Int) := by
          have e1 : isub .i64 ((F.map (fun (i : Nat) => (i : Int))).length : Int) 1 = ((F.length - 1 : Nat) : Int) := by rw [isub_i64 (by omega) (by omega)]; omega
          rw [e1, g _ (by omega), kept_last s2 s3 s5 (by omega)]
        have e2 : isub .i64 (pts.length : Int) 1 = ((N - 1 : Nat) : Int) := by rw [isub_i64 (by omega) (by omega)]; omega
        rw [br_false, g0, sbind, decide_eq_true rfl, Bool.not_true, br_false]
        dsimp only
        rw [g1, sbind, e2, decide_eq_true rfl, Bool.not_true, br_false]
        have ll := law_loop (ok := true) (th := a1) hp hN s2 s3 s6 (by
          intro t ht k hk i h1 h2
          have b0 := s3 _ (List.getElem_mem (show t < F.length by omega))
          have b1 := s3 _ (List.getElem_mem ht)
          obtain ⟨u, v, u', v', r1, r2, r3, r4, r5, r6⟩ := hw (F[t], F[t + 1], i) b0 b1 (show i < N by omega)
          exact notfar hk (hpt _ b0) (hpt _ b1) (hpt i (by omega)) r2 r3 r4 r5 r6 qτ τ0 τ1 hM1 (s7 t ht i h1 h2)) (F.length - 1) 1000000 1 rfl (by omega) (by omega) (by omega)
        have ll' : laws_FnSimplifyNear_l3 (F.map (fun (i : Nat) => (i : Int)), true) (pts, true) a1 1000000 1 = _ := ll
        rw [ll', sbind]
end Go.Proofs.Ytlipjaacncpaoaa
