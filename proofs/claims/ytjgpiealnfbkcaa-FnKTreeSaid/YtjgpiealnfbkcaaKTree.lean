/-
  The k-d tree of some points: the plain statement. Ours.
-/
import Derived.Test.YtjgpiealnfbkcaaKtNodes
import Derived.Test.YtjgpiealnfbkcaaKtSame
import Derived.Test.YtjgpiealnfbkcaaGridRows
namespace Go.Proofs.Ytjgpiealnfbkcaa
open Go.Sx
set_option linter.unusedVariables false
set_option linter.unusedSimpArgs false
set_option maxRecDepth 100000

theorem kfits_is (k : Nat) (t : List (List Nat)) (hl : t.length ≤ maxLen) (hk : t.length < k) : ∃ b, laws_zzFits4 k t = some b ∧ (b = true → t.length ≤ 2147483647) := by
  unfold laws_zzFits4
  cases hb : decide ((2147483647 : Int) < (t.length : Int)) with
  | true => exact ⟨false, rfl, fun h => by cases h⟩
  | false =>
    have hm : t.length ≤ 2147483647 := by have := of_decide_eq_false hb; omega
    rw [br_false]
    obtain ⟨y, h, _⟩ := loop_inv (F := laws_zzFits4_l1 t) 0 (fun m v => ∃ i : Nat, v = (i : Int) ∧ i + m = t.length) (fun _ => True) (fun k m v hk hI => by
      obtain ⟨i, h1, h2⟩ := hI
      subst h1
      by_cases hi : i < t.length
      · cases hd : decide ((2147483647 : Int) < (t[i].length : Int)) with
        | true => exact .inl ⟨.inl (), by simp only [laws_zzFits4_l1, laws_zzFits4_l1s, lt_true hi, br_true, br_false, idx_get hi, Option.bind_eq_bind, Option.bind_some, hd], trivial⟩
        | false => exact .inr ⟨m - 1, ((i + 1 : Nat) : Int), by omega, ⟨i + 1, rfl, by omega⟩, by simp only [laws_zzFits4_l1, laws_zzFits4_l1s, lt_true hi, br_true, br_false, idx_get hi, Option.bind_eq_bind, Option.bind_some, hd, iadd_one (show i < 9223372036854775807 by omega)]⟩
      · exact .inl ⟨.inr (), by simp only [laws_zzFits4_l1, laws_zzFits4_l1s, lt_false hi, br_false], trivial⟩) t.length 0 k ⟨0, rfl, by omega⟩ (by omega)
    rw [h, sbind]
    cases y with
    | inl u => exact ⟨false, rfl, fun h => by cases h⟩
    | inr u => exact ⟨true, rfl, fun _ => hm⟩

theorem some_is (k : Nat) (P : List (List Nat)) (q : List Nat) (hk : 2000 < k) (hP : ∀ r ∈ P, ∀ x ∈ r, x < 2 ^ 64) :
    ∃ b, laws_some k P q = some b ∧ (b = true → 0 < q.length ∧ q.length ≤ 6 ∧ P.length ≤ 100 ∧ ∀ r ∈ P, Pg q.length r) := by
  have no : ∃ b, (some false : Option Bool) = some b ∧ (b = true → 0 < q.length ∧ q.length ≤ 6 ∧ P.length ≤ 100 ∧ ∀ r ∈ P, Pg q.length r) := ⟨false, rfl, fun h => by cases h⟩
  unfold laws_some laws_some_j1
  by_cases h0 : (0 : Int) < (P.length : Int)
  · rw [decide_eq_true h0, br_true]
    by_cases h1 : (P.length : Int) ≤ 100
    · rw [decide_eq_true h1, br_true]
      unfold laws_some_j2
      by_cases h2 : (0 : Int) < (q.length : Int)
      · rw [decide_eq_true h2, br_true]
        unfold laws_some_j3
        by_cases h3 : (q.length : Int) ≤ 6
        · rw [decide_eq_true h3, br_true]
          obtain ⟨b, hb, hb'⟩ := grid_rows k P q.length (by omega) 4697254411347427328 (by omega) (by omega)
          rw [hb, sbind]
          unfold laws_some_j4
          cases b with
          | false => exact no
          | true =>
            rw [br_true]
            obtain ⟨c, hc, hc'⟩ := grid_rows k [q] q.length (by omega) 4697254411347427328 (by simp) (by simp; omega)
            rw [hc, sbind]
            refine ⟨c, rfl, fun h => ⟨by omega, by omega, by omega, fun r hr => ?_⟩⟩
            obtain ⟨g1, g2⟩ := hb' rfl r hr
            refine ⟨g1, fun x hx => ?_⟩
            obtain ⟨i, hi, rfl⟩ := List.mem_iff_getElem.1 hx
            have e : r.getD i 0 = r[i] := by simp [List.getD, List.getElem?_eq_getElem hi]
            have := g2 i hi
            rw [e] at this
            obtain ⟨n, h1, _⟩ := offGrid_num20 (hP r hr _ hx) this
            exact ⟨n, h1⟩
        · rw [decide_eq_false h3]; exact no
      · rw [decide_eq_false h2]; exact no
    · rw [decide_eq_false h1]; exact no
  · rw [decide_eq_false h0]; exact no

theorem kpoints_copy (k : Nat) (P : List (List Nat)) (hl : P.length < 1000) (hr : ∀ r ∈ P, r.length ≤ 1000) (hk : P.length < k) : impl_kpoints k P = some P := by
  unfold impl_kpoints
  obtain ⟨y, e1, e2⟩ := loop_inv (F := impl_kpoints_l1 P) 0 (fun r v => ∃ i : Nat, v = (P.take i, (i : Int)) ∧ i + r = P.length) (fun y => y = P) (fun k r v _ hI => by
    obtain ⟨i, rfl, h2⟩ := hI
    by_cases hi : i < P.length
    · have ha : apd 24 (P.take i) [P[i]] = some (P.take (i + 1)) := by
        rw [apd_some (by simp; omega) (by simp; omega), List.take_succ_eq_append_getElem hi]
      refine .inr ⟨r - 1, (P.take (i + 1), ((i + 1 : Nat) : Int)), by omega, ⟨i + 1, rfl, by omega⟩, ?_⟩
      simp only [impl_kpoints_l1, impl_kpoints_l1s, lt_true hi, br_true, idx_get hi, Option.bind_eq_bind, Option.bind_some, floats_is k (hr _ (List.getElem_mem hi)), ha, iadd_one (show i < 9223372036854775807 by omega)]
    · have : i = P.length := by omega
      subst this
      exact .inl ⟨P, by simp only [impl_kpoints_l1, impl_kpoints_l1s, lt_false hi, br_false, List.take_length], rfl⟩) P.length ([], 0) k ⟨0, rfl, by omega⟩ (by omega)
  rw [e1, sbind, e2]

theorem ktree_is (k : Nat) {m : Nat} (hm : 0 < m) (hm2 : m ≤ 6) (P : List (List Nat)) (bo : Bool) (hl : P.length ≤ 100) (hg : ∀ p ∈ P, Pg m p) (hk : 5000 < k) :
    ∃ T, impl_KTree k P bo = some (pre T 0, rt T 0, true) ∧ (pts T).Perm P ∧ Kg m T 0 ∧ sz T = P.length := by
  unfold impl_KTree
  rw [kpoints_copy k P (by omega) (fun r hr => by rw [(hg r hr).1]; omega) (by omega), sbind]
  obtain ⟨V, T, c, h1, h2, h3⟩ := new_is k m hm (by omega) P bo (by omega) hg (by omega)
  have hs : sz T = P.length := by rw [← pts_len, h2.length_eq]
  rw [h1, sbind]
  simp only []
  rw [knodes_is m (by omega) k T 0 h3 (by omega) (by omega), sbind]
  exact ⟨T, rfl, h2, h3, hs⟩

theorem rest_is (k : Nat) {m : Nat} (hm : 0 < m) (hm2 : m ≤ 6) (P : List (List Nat)) (bo : Bool) (hl : P.length ≤ 100) (h0 : 0 < P.length) (hg : ∀ p ∈ P, Pg m p) (hk : 9000 < k) : laws_FnKTree_j1 k P bo false = some true := by
  unfold laws_FnKTree_j1
  rw [br_false, show (0 : Int) = ((0 : Nat) : Int) from rfl, idx_get h0, sbind]
  have hq : P[0].length = m := (hg _ (List.getElem_mem h0)).1
  obtain ⟨T, h1, h2, h3, h4⟩ := ktree_is k hm hm2 P bo hl hg (by omega)
  rw [h1, sbind, Bool.not_true, br_false, hq]
  have hn := nd_pre T
  have hlen := pre_len T 0
  rw [isk_is k hn h3 (by omega) (by omega) (by omega) hm, sbind]
  unfold laws_FnKTree_j2
  rw [Bool.not_true, br_false, decide_eq_true (by rw [hlen, h4])]
  unfold laws_FnKTree_j3
  simp only [Bool.not_true, br_false]
  rw [kpoints_is hn (by omega) (by omega) (by omega), sbind, points_is k (kg_pts T 0 h3) hg (by omega) (by omega) h2 (by rw [h2.length_eq]; omega), sbind]
  unfold laws_FnKTree_j4
  simp only [Bool.not_true, br_false]
  rw [kwalk_is hn (by omega) (by omega) (by omega), sbind]
  have hna := node_at (m := m) T 0 0 hn (by rw [Nat.zero_mod]; exact h3)
  generalize hro : ((iin T 0 0).map (fun q => (q.1 : Int)), (iin T 0 0).map (fun q => (q.2 : Int)), true) = ro
  have ho : ro.1.length = sz T := by rw [← hro]; simp [iin_len]
  have ho2 : ro.2.1.length = sz T := by rw [← hro]; simp [iin_len]
  have er : ∀ i (hi : i < sz T), idx ro.1 (i : Int) = some (((iin T 0 0)[i]'(by rw [iin_len]; exact hi)).1 : Int) := fun i hi => by
    rw [idx_get (by omega)]; simp only [← hro]; simp
  have er2 : ∀ i (hi : i < sz T), idx ro.2.1 (i : Int) = some (((iin T 0 0)[i]'(by rw [iin_len]; exact hi)).2 : Int) := fun i hi => by
    rw [idx_get (by omega)]; simp only [← hro]; simp
  have rem : ∀ d : Nat, irem (d : Int) (m : Int) = some ((d % m : Nat) : Int) := fun d => by
    unfold irem; rw [if_neg (by omega), Int.tmod_eq_emod_of_nonneg (by omega)]; rfl
  obtain ⟨y, e1, e2⟩ := loop_inv (F := laws_FnKTree_l3 ro (pre T 0, rt T 0, true) P[0]) 3000 (fun r v => ∃ i : Nat, v = (i : Int) ∧ i + r = sz T) (fun y => y = .inr ()) (fun k r v hk hI => by
    obtain ⟨i, rfl, h2⟩ := hI
    by_cases hi : i < sz T
    · obtain ⟨p, a, b, e, w1, w2, w3, w4, w5, w6, w7, w8⟩ := hna _ (List.getElem_mem (show i < (iin T 0 0).length by rw [iin_len]; exact hi))
      have pb := kpoints_is (k := k) w3 (by omega) (by omega) (by omega)
      have lb : (pts b).length < 1000 := by rw [pts_len]; omega
      generalize hq' : (iin T 0 0)[i]'(by rw [iin_len]; exact hi) = q at *
      obtain ⟨y5, f3, f4⟩ := loop_inv (F := laws_FnKTree_l2 (pts b) (p, ((q.2 % m : Nat) : Int), rt a (q.1 + 1), rt b (q.1 + 1 + sz a), blo e, bhi e)) 0 (fun r v => ∃ i : Nat, v = (i : Int) ∧ i + r = (pts b).length) (fun y => y = .inr ()) (fun k r v _ hI => by
        obtain ⟨i, rfl, h2⟩ := hI
        by_cases hi : i < (pts b).length
        · obtain ⟨x1, x2⟩ := w8 _ (List.getElem_mem hi)
          refine .inr ⟨r - 1, ((i + 1 : Nat) : Int), by omega, ⟨i + 1, rfl, by omega⟩, ?_⟩
          simp only [laws_FnKTree_l2, laws_FnKTree_l2s, lt_true hi, br_true, idx_get hi, Option.bind_eq_bind, Option.bind_some, (ky_at x1 w5).1, (ky_at w6 w5).1, D_gt (ky_at x1 w5).2 (ky_at w6 w5).2, decide_eq_true x2, Bool.not_true, br_false, iadd_one (show i < 9223372036854775807 by omega)]
        · exact .inl ⟨.inr (), by simp only [laws_FnKTree_l2, laws_FnKTree_l2s, lt_false hi, br_false], rfl⟩) (pts b).length 0 k ⟨0, rfl, by omega⟩ (by omega)
      subst f4
      refine .inr ⟨r - 1, ((i + 1 : Nat) : Int), by omega, ⟨i + 1, rfl, by omega⟩, ?_⟩
      have er' := er i hi
      have er2' := er2 i hi
      simp only [hq'] at er' er2'
      simp only [laws_FnKTree_l3, laws_FnKTree_l3s, lt_true (show i < ro.1.length by omega), br_true, er', er2', hq, rem, w1, Option.bind_eq_bind, Option.bind_some, decide_true, Bool.not_true, br_false, pb, f3, iadd_one (show i < 9223372036854775807 by omega)]
    · exact .inl ⟨.inr (), by simp only [laws_FnKTree_l3, laws_FnKTree_l3s, lt_false (show ¬ i < ro.1.length by omega), br_false], rfl⟩) (sz T) 0 k ⟨0, rfl, by omega⟩ (by omega)
  rw [e1, sbind, e2]

theorem fact_FnKTree (a0 : List (List Nat)) (a1 : Bool) {p : Prop} (g0 : a0.length ≤ maxLen ∧ ∀ x ∈ a0, x.length ≤ maxLen ∧ ∀ y ∈ x, y < 18446744073709551616) (g1 : p) : ∃ k, laws_FnKTree k a0 a1 = some true := by
  refine ⟨a0.length + 10000, ?_⟩
  have key : ∀ k, laws_FnKTree_j1 k a0 a1 true = some true := fun k => rfl
  unfold laws_FnKTree
  obtain ⟨b, hb, _⟩ := kfits_is (a0.length + 10000) a0 g0.1 (by omega)
  rw [hb, sbind]
  cases b with
  | false => rfl
  | true =>
    rw [Bool.not_true, br_false]
    by_cases h0 : (a0.length : Int) = 0
    · rw [decide_eq_true h0, br_true, key]
    · rw [decide_eq_false h0, br_false]
      have hp : 0 < a0.length := by omega
      rw [show (0 : Int) = ((0 : Nat) : Int) from rfl, idx_get hp, sbind]
      obtain ⟨c, hc, hc'⟩ := some_is (a0.length + 10000) a0 a0[0] (by omega) (fun r hr x hx => (g0.2 r hr).2 x hx)
      rw [hc, sbind]
      cases c with
      | false => exact key _
      | true =>
        obtain ⟨q1, q2, q3, q4⟩ := hc' rfl
        rw [Bool.not_true]
        exact rest_is _ q1 q2 a0 a1 q3 hp q4 (by omega)
end Go.Proofs.Ytjgpiealnfbkcaa
