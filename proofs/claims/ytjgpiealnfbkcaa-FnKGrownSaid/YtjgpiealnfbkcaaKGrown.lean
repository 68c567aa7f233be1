/-
  A k-d tree into which points are put one after another: the plain statement. Ours.
-/
import Derived.Test.YtjgpiealnfbkcaaKgIns
import Derived.Test.YtjgpiealnfbkcaaGridRows
namespace Go.Proofs.Ytjgpiealnfbkcaa
open Go.Sx
set_option linter.unusedVariables false
set_option linter.unusedSimpArgs false
set_option maxRecDepth 100000

theorem kfits_is (k : Nat) (t : List (List Nat)) (hl : t.length ≤ maxLen) (hk : t.length < k) : ∃ b, laws_zzFits4 k t = some b ∧ (b = true → t.length ≤ 2147483647) := by
  unfold laws_zzFits4
  cases hb : decide ((2147483647 : Int) < (t.length : Int)) with
  | true => exact ⟨false, rfl, fun h => by cases h⟩
  | false =>
    have hm : t.length ≤ 2147483647 := by have := of_decide_eq_false hb; omega
    rw [br_false]
    obtain ⟨y, h, _⟩ := loop_inv (F := laws_zzFits4_l1 t) 0 (fun m v => ∃ i : Nat, v = (i : Int) ∧ i + m = t.length) (fun _ => True) (fun k m v hk hI => by
      obtain ⟨i, h1, h2⟩ := hI
      subst h1
      by_cases hi : i < t.length
      · cases hd : decide ((2147483647 : Int) < (t[i].length : Int)) with
        | true => exact .inl ⟨.inl (), by simp only [laws_zzFits4_l1, laws_zzFits4_l1s, lt_true hi, br_true, br_false, idx_get hi, Option.bind_eq_bind, Option.bind_some, hd], trivial⟩
        | false => exact .inr ⟨m - 1, ((i + 1 : Nat) : Int), by omega, ⟨i + 1, rfl, by omega⟩, by simp only [laws_zzFits4_l1, laws_zzFits4_l1s, lt_true hi, br_true, br_false, idx_get hi, Option.bind_eq_bind, Option.bind_some, hd, iadd_one (show i < 9223372036854775807 by omega)]⟩
      · exact .inl ⟨.inr (), by simp only [laws_zzFits4_l1, laws_zzFits4_l1s, lt_false hi, br_false], trivial⟩) t.length 0 k ⟨0, rfl, by omega⟩ (by omega)
    rw [h, sbind]
    cases y with
    | inl u => exact ⟨false, rfl, fun h => by cases h⟩
    | inr u => exact ⟨true, rfl, fun _ => hm⟩

theorem some_is (k : Nat) (P : List (List Nat)) (q : List Nat) (hk : 2000 < k) (hP : ∀ r ∈ P, ∀ x ∈ r, x < 2 ^ 64) :
    ∃ b, laws_some k P q = some b ∧ (b = true → 0 < q.length ∧ q.length ≤ 6 ∧ P.length ≤ 100 ∧ ∀ r ∈ P, Pb q.length r) := by
  have no : ∃ b, (some false : Option Bool) = some b ∧ (b = true → 0 < q.length ∧ q.length ≤ 6 ∧ P.length ≤ 100 ∧ ∀ r ∈ P, Pb q.length r) := ⟨false, rfl, fun h => by cases h⟩
  unfold laws_some laws_some_j1
  by_cases h0 : (0 : Int) < (P.length : Int)
  · rw [decide_eq_true h0, br_true]
    by_cases h1 : (P.length : Int) ≤ 100
    · rw [decide_eq_true h1, br_true]
      unfold laws_some_j2
      by_cases h2 : (0 : Int) < (q.length : Int)
      · rw [decide_eq_true h2, br_true]
        unfold laws_some_j3
        by_cases h3 : (q.length : Int) ≤ 6
        · rw [decide_eq_true h3, br_true]
          obtain ⟨b, hb, hb'⟩ := grid_rows k P q.length (by omega) 4697254411347427328 (by omega) (by omega)
          rw [hb, sbind]
          unfold laws_some_j4
          cases b with
          | false => exact no
          | true =>
            rw [br_true]
            obtain ⟨c, hc, hc'⟩ := grid_rows k [q] q.length (by omega) 4697254411347427328 (by simp) (by simp; omega)
            rw [hc, sbind]
            refine ⟨c, rfl, fun h => ⟨by omega, by omega, by omega, fun r hr => ?_⟩⟩
            obtain ⟨g1, g2⟩ := hb' rfl r hr
            have w : ∀ i (hi : i < r.length), ∃ n, D r[i] n 1074 ∧ n.natAbs ≤ 1048576 := fun i hi => by
              have e : r.getD i 0 = r[i] := by simp [List.getD, List.getElem?_eq_getElem hi]
              have := g2 i hi
              rw [e] at this
              exact offGrid_num20 (hP r hr _ (List.getElem_mem hi)) this
            refine ⟨⟨g1, fun x hx => ?_⟩, fun j hj => ?_⟩
            · obtain ⟨i, hi, rfl⟩ := List.mem_iff_getElem.1 hx
              obtain ⟨n, h1, _⟩ := w i hi
              exact ⟨n, h1⟩
            · have hj' : j < r.length := by omega
              obtain ⟨n, h1, h2⟩ := w j hj'
              have e : r.getD j 0 = r[j] := by simp [List.getD, List.getElem?_eq_getElem hj']
              unfold ky
              rw [e, cv_of h1]; exact h2
        · rw [decide_eq_false h3]; exact no
      · rw [decide_eq_false h2]; exact no
    · rw [decide_eq_false h1]; exact no
  · rw [decide_eq_false h0]; exact no


theorem sub_at {t : List KN} {m : Nat} {bo : Bool} : ∀ (T : G66) (n q : Nat), Nd t T n → Kg m T q → Bx m bo T → ∀ i, n ≤ i → i < n + sz T →
    ∃ p pl a b e q', Nd t (.c1 (.c0 p) pl a b e) i ∧ Kg m (.c1 (.c0 p) pl a b e) q' ∧ Bx m bo (.c1 (.c0 p) pl a b e) ∧ i + (sz a + sz b + 1) ≤ n + sz T
  | .c0, n, q, _, _, _, i, h1, h2 => by simp only [sz] at h2; omega
  | .c1 (.c0 p) pl a b e, n, q, hn, hg, hb, i, h1, h2 => by
    have hn' := hn
    have hg' := hg
    have hb' := hb
    obtain ⟨g1, g2, g3⟩ := hn'
    obtain ⟨k1, k2, k3, k4, k5, k6, k7, k8⟩ := hg'
    have hba : Bx m bo a ∧ Bx m bo b := by
      cases bo with
      | true => exact ⟨hb'.2.1, hb'.2.2⟩
      | false => exact ⟨hb'.2.1, hb'.2.2⟩
    simp only [sz] at h2 ⊢
    by_cases e1 : i = n
    · subst e1
      exact ⟨p, pl, a, b, e, q, hn, hg, hb, by omega⟩
    · by_cases e2 : i < n + 1 + sz a
      · obtain ⟨p', pl', a', b', e', q', w1, w2, w3, w4⟩ := sub_at a (n + 1) _ g2 k6 hba.1 i (by omega) e2
        exact ⟨p', pl', a', b', e', q', w1, w2, w3, by omega⟩
      · obtain ⟨p', pl', a', b', e', q', w1, w2, w3, w4⟩ := sub_at b (n + 1 + sz a) _ g3 k7 hba.2 i (by omega) (by omega)
        exact ⟨p', pl', a', b', e', q', w1, w2, w3, by omega⟩
theorem boxed_is (k : Nat) {m : Nat} (hm : 0 < m) (hm2 : m ≤ 6) (bo : Bool) (T : G66) (hg : Kg m T 0) (hb : Bx m bo T) (hs : sz T < 500) (hk : 5000 < k) : laws_boxed k (pre T 0) bo = some true := by
  have hlen := pre_len T 0
  unfold laws_boxed
  obtain ⟨y, e1, e2⟩ := loop_inv (F := laws_boxed_l1 (pre T 0) bo) 3000 (fun r v => ∃ i : Nat, v = (i : Int) ∧ i + r = sz T) (fun y => y = .inr ()) (fun k r v hk hI => by
    obtain ⟨i, rfl, h2⟩ := hI
    by_cases hi : i < sz T
    · obtain ⟨p, pl, a, b, e, q', w1, w2, w3, w4⟩ := sub_at T 0 0 (nd_pre T) hg hb i (Nat.zero_le _) (by omega)
      have hkp := kpoints_is (k := k) w1 (by simp only [sz]; omega) (by omega) (by simp only [sz]; omega)
      have hkp' : spec_KPoints k (pre T 0) (i : Int) = some (pts a ++ p :: pts b) := hkp
      have hpg := kg_pts _ _ w2
      have hpl : (pts a ++ p :: pts b).length = sz a + sz b + 1 := pts_len (.c1 (.c0 p) pl a b e)
      obtain ⟨y, y1, y2⟩ := least_is k (P := pts a ++ p :: pts b) hpg (by omega) (show m < 1000 by omega) (by omega) (by omega)
      refine .inr ⟨r - 1, ((i + 1 : Nat) : Int), by omega, ⟨i + 1, rfl, by omega⟩, ?_⟩
      cases bo with
      | true =>
        obtain ⟨⟨u, v, rfl, hL⟩, _⟩ := w3
        obtain ⟨s1, s2⟩ := hL.same y2
        have t1 := same_is k hL.1 y2.1 (by omega) (by omega)
        have t2 := same_is k hL.2.1 y2.2.1 (by omega) (by omega)
        simp only [laws_boxed_l1, laws_boxed_l1s, lt_true (show i < (pre T 0).length by omega), br_true, w1.1, Option.bind_eq_bind, Option.bind_some, hkp', y1, Bool.not_true, br_false, laws_boxed_j3, blo, bhi, t1, t2, decide_eq_true s1, decide_eq_true s2, laws_boxed_j4, iadd_one (show i < 9223372036854775807 by omega)]
      | false =>
        obtain ⟨rfl, _⟩ := w3
        have t0 : spec_SamePoint k [] [] = some true := by
          have := same_is k (m := 0) (p := []) (q := []) ⟨rfl, by simp⟩ ⟨rfl, by simp⟩ (by omega) (by omega)
          rw [this, decide_eq_true rfl]
        simp only [laws_boxed_l1, laws_boxed_l1s, lt_true (show i < (pre T 0).length by omega), br_true, w1.1, Option.bind_eq_bind, Option.bind_some, hkp', y1, Bool.not_false, Bool.not_true, br_false, laws_boxed_j3, blo, bhi, t0, laws_boxed_j4, iadd_one (show i < 9223372036854775807 by omega)]
    · exact .inl ⟨.inr (), by simp only [laws_boxed_l1, laws_boxed_l1s, lt_false (show ¬ i < (pre T 0).length by omega), br_false], rfl⟩) (sz T) 0 k ⟨0, rfl, by omega⟩ (by omega)
  rw [e1, sbind, e2]

theorem grown_is (k : Nat) {m : Nat} (hm : 0 < m) (hm2 : m ≤ 6) (P : List (List Nat)) (bo : Bool) (hl : P.length ≤ 60) (hg : ∀ p ∈ P, Pb m p) (hk : 1000 < k) :
    ∃ T, laws_FnKGrown_l1 P bo k ([], (-1), 0) = some (.inr (pre T 0, rt T 0)) ∧ (pts T).Perm P ∧ Kg m T 0 ∧ Bx m bo T := by
  obtain ⟨y, e1, T, rfl, e2⟩ := loop_inv (F := laws_FnKGrown_l1 P bo) 500 (fun r v => ∃ (T : G66) (i : Nat), v = (pre T 0, rt T 0, (i : Int)) ∧ i + r = P.length ∧ (pts T).Perm (P.take i) ∧ Kg m T 0 ∧ Bx m bo T)
    (fun y => ∃ T, y = .inr (pre T 0, rt T 0) ∧ (pts T).Perm P ∧ Kg m T 0 ∧ Bx m bo T) (fun k r v hk hI => by
      obtain ⟨T, i, rfl, h1, h2, h3, h4⟩ := hI
      by_cases hi : i < P.length
      · have hs : sz T = i := by rw [← pts_len, h2.length_eq, List.length_take]; omega
        have hc := hg _ (List.getElem_mem hi)
        obtain ⟨T', t1, t2, t3, t4⟩ := all_is k hm hm2 hc bo T h3 (fun x hx => hg x (List.mem_of_mem_take (h2.mem_iff.1 hx))) h4 (by omega) (by omega)
        refine .inr ⟨r - 1, (pre T' 0, rt T' 0, ((i + 1 : Nat) : Int)), by omega, ⟨T', i + 1, rfl, by omega, ?_, t2, t4⟩, ?_⟩
        · rw [List.take_succ_eq_append_getElem hi]
          exact t3.trans ((h2.cons _).trans (List.perm_append_comm (l₁ := [P[i]]) (l₂ := P.take i)))
        · simp only [laws_FnKGrown_l1, laws_FnKGrown_l1s, lt_true hi, br_true, idx_get hi, Option.bind_eq_bind, Option.bind_some, impl_KInsert_v2, t1, Bool.not_true, br_false, iadd_one (show i < 9223372036854775807 by omega)]
      · have : i = P.length := by omega
        subst this
        exact .inl ⟨_, by simp only [laws_FnKGrown_l1, laws_FnKGrown_l1s, lt_false hi, br_false], T, rfl, by simpa using h2, h3, h4⟩) P.length ([], (-1), 0) k
    ⟨.c0, 0, rfl, by omega, by simp [pts], trivial, by cases bo <;> trivial⟩ (by omega)
  exact ⟨T, e1, e2⟩

theorem krest_is (k : Nat) {m : Nat} (hm : 0 < m) (hm2 : m ≤ 6) (P : List (List Nat)) (bo : Bool) (hl : P.length ≤ 60) (h0 : 0 < P.length) (hg : ∀ p ∈ P, Pb m p) (hk : 9000 < k) : laws_FnKGrown_j2 k P bo false = some true := by
  unfold laws_FnKGrown_j2
  rw [br_false]
  obtain ⟨T, h1, h2, h3, h4⟩ := grown_is k hm hm2 P bo hl hg (by omega)
  have hs : sz T = P.length := by rw [← pts_len, h2.length_eq]
  have hq : P[0].length = m := (hg _ (List.getElem_mem h0)).1.1
  rw [h1, sbind]
  simp only []
  rw [show (0 : Int) = ((0 : Nat) : Int) from rfl, idx_get h0, sbind, hq]
  have hn := nd_pre T
  have hlen := pre_len T 0
  rw [isk_is k hn h3 (by omega) (by omega) (by omega) hm, sbind]
  unfold laws_FnKGrown_j3
  rw [Bool.not_true, br_false, decide_eq_true (by rw [hlen, hs])]
  simp only [Bool.not_true, br_false]
  rw [kpoints_is hn (by omega) (by omega) (by omega), sbind, points_is k (kg_pts T 0 h3) (fun x hx => (hg x hx).1) (by omega) (by omega) h2 (by rw [h2.length_eq]; omega), sbind]
  unfold laws_FnKGrown_j4
  simp only [Bool.not_true, br_false]
  rw [boxed_is k hm hm2 bo T h3 h4 (by omega) (by omega), sbind]
  unfold laws_FnKGrown_j5
  simp only [Bool.not_true, br_false]
  rw [kwalk_is hn (by omega) (by omega) (by omega), sbind]
  have hna := node_at (m := m) T 0 0 hn (by rw [Nat.zero_mod]; exact h3)
  generalize hro : ((iin T 0 0).map (fun q => (q.1 : Int)), (iin T 0 0).map (fun q => (q.2 : Int)), true) = ro
  have ho : ro.1.length = sz T := by rw [← hro]; simp [iin_len]
  have ho2 : ro.2.1.length = sz T := by rw [← hro]; simp [iin_len]
  have er : ∀ i (hi : i < sz T), idx ro.1 (i : Int) = some (((iin T 0 0)[i]'(by rw [iin_len]; exact hi)).1 : Int) := fun i hi => by
    rw [idx_get (by omega)]; simp only [← hro]; simp
  have er2 : ∀ i (hi : i < sz T), idx ro.2.1 (i : Int) = some (((iin T 0 0)[i]'(by rw [iin_len]; exact hi)).2 : Int) := fun i hi => by
    rw [idx_get (by omega)]; simp only [← hro]; simp
  have rem : ∀ d : Nat, irem (d : Int) (m : Int) = some ((d % m : Nat) : Int) := fun d => by
    unfold irem; rw [if_neg (by omega), Int.tmod_eq_emod_of_nonneg (by omega)]; rfl
  obtain ⟨y, e1, e2⟩ := loop_inv (F := laws_FnKGrown_l2 ro (pre T 0, rt T 0) P[0]) 3000 (fun r v => ∃ i : Nat, v = (i : Int) ∧ i + r = sz T) (fun y => y = .inr ()) (fun k r v hk hI => by
    obtain ⟨i, rfl, h2⟩ := hI
    by_cases hi : i < sz T
    · obtain ⟨p, a, b, e, w1, _⟩ := hna _ (List.getElem_mem (show i < (iin T 0 0).length by rw [iin_len]; exact hi))
      refine .inr ⟨r - 1, ((i + 1 : Nat) : Int), by omega, ⟨i + 1, rfl, by omega⟩, ?_⟩
      simp only [laws_FnKGrown_l2, laws_FnKGrown_l2s, lt_true (show i < ro.1.length by omega), br_true, er i hi, er2 i hi, hq, rem, w1, Option.bind_eq_bind, Option.bind_some, decide_true, Bool.not_true, br_false, iadd_one (show i < 9223372036854775807 by omega)]
    · exact .inl ⟨.inr (), by simp only [laws_FnKGrown_l2, laws_FnKGrown_l2s, lt_false (show ¬ i < ro.1.length by omega), br_false], rfl⟩) (sz T) 0 k ⟨0, rfl, by omega⟩ (by omega)
  rw [e1, sbind, e2]

theorem fact_FnKGrown (a0 : List (List Nat)) (a1 : Bool) {p : Prop} (g0 : a0.length ≤ maxLen ∧ ∀ x ∈ a0, x.length ≤ maxLen ∧ ∀ y ∈ x, y < 18446744073709551616) (g1 : p) : ∃ k, laws_FnKGrown k a0 a1 = some true := by
  refine ⟨a0.length + 10000, ?_⟩
  have key2 : ∀ k, laws_FnKGrown_j2 k a0 a1 true = some true := fun k => rfl
  have key : ∀ k, laws_FnKGrown_j1 k a0 a1 true = some true := fun k => rfl
  unfold laws_FnKGrown
  obtain ⟨b, hb, _⟩ := kfits_is (a0.length + 10000) a0 g0.1 (by omega)
  rw [hb, sbind]
  cases b with
  | false => rfl
  | true =>
    rw [Bool.not_true, br_false]
    by_cases h0 : (a0.length : Int) = 0
    · rw [decide_eq_true h0, br_true, key]
    · rw [decide_eq_false h0, br_false]
      have hp : 0 < a0.length := by omega
      by_cases h60 : 60 < (a0.length : Int)
      · rw [decide_eq_true h60, key]
      · rw [decide_eq_false h60]
        unfold laws_FnKGrown_j1
        rw [br_false, show (0 : Int) = ((0 : Nat) : Int) from rfl, idx_get hp, sbind]
        obtain ⟨c, hc, hc'⟩ := some_is (a0.length + 10000) a0 a0[0] (by omega) (fun r hr x hx => (g0.2 r hr).2 x hx)
        rw [hc, sbind]
        cases c with
        | false => exact key2 _
        | true =>
          obtain ⟨q1, q2, q3, q4⟩ := hc' rfl
          rw [Bool.not_true]
          exact krest_is _ q1 q2 a0 a1 (by omega) hp q4 (by omega)
end Go.Proofs.Ytjgpiealnfbkcaa
