/-
  FnSetLayout: a collection takes a layout just where all its kids have it. Ours.
-/
import Derived.Test.YtmagcmeknclljaaPlainBack
namespace Go.Proofs.Ytmagcmeknclljaa
open Go.Sx
set_option linter.unusedVariables false
set_option linter.unusedSimpArgs false
set_option maxRecDepth 100000

theorem fits3_is (xs : List (List Int)) (hlen : xs.length ≤ maxLen) (k : Nat) (hk : xs.length < k) : ∃ b, laws_zzFits3 k xs = some b ∧ (b = true → ∀ x ∈ xs, x.length ≤ 2147483647) := by
  unfold laws_zzFits3
  by_cases h : 2147483647 < (xs.length : Int)
  · rw [decide_eq_true h, br_true]; exact ⟨false, rfl, fun h => by cases h⟩
  rw [decide_eq_false h, br_false]
  have := loop_inv (F := laws_zzFits3_l1 xs) 0 (fun m p => p = ((xs.length - m : Nat) : Int) ∧ m ≤ xs.length ∧ ∀ i (hi : i < xs.length), i < xs.length - m → xs[i].length ≤ 2147483647) (fun y => y = .inr () → ∀ x ∈ xs, x.length ≤ 2147483647) (by
    intro k m p _ hI
    obtain ⟨rfl, hm, hI⟩ := hI
    have hs : laws_zzFits3_l1 xs (k + 1) ((xs.length - m : Nat) : Int) = laws_zzFits3_l1s xs k (laws_zzFits3_l1 xs k) ((xs.length - m : Nat) : Int) := rfl
    rw [hs]
    unfold laws_zzFits3_l1s
    by_cases e : m = 0
    · subst e
      rw [decide_eq_false (by omega), br_false]
      refine .inl ⟨_, rfl, fun _ x hx => ?_⟩
      obtain ⟨i, hi, rfl⟩ := List.mem_iff_getElem.1 hx
      exact hI i hi (by omega)
    · have hi : xs.length - m < xs.length := by omega
      rw [decide_eq_true (by omega), br_true, idx_get hi, sbind]
      by_cases hb : 2147483647 < (xs[xs.length - m].length : Int)
      · rw [decide_eq_true hb, br_true]
        exact .inl ⟨_, rfl, fun h => by cases h⟩
      · rw [decide_eq_false hb, br_false, iadd_one (by omega)]
        refine .inr ⟨m - 1, _, by omega, ⟨?_, by omega, fun i hi' hlt => ?_⟩, rfl⟩
        · congr 1; omega
        · by_cases ee : i = xs.length - m
          · subst ee; omega
          · exact hI i hi' (by omega)) xs.length 0 k ⟨by simp, Nat.le_refl _, fun i hi h => by omega⟩ (by omega)
  obtain ⟨y, hy, hQ⟩ := this
  rw [hy, sbind]
  rcases y with u | u
  · exact ⟨false, rfl, fun h => by cases h⟩
  · exact ⟨true, rfl, fun _ => hQ rfl⟩
theorem fits2_is (k : Nat) (a0 a1 a2 : Int) (a3 : List Nat) (a4 : List Int) (a5 : List (List Int)) (a6 : List T27) (h5 : a5.length ≤ maxLen) (hk : a5.length < k) :
    ∃ b, laws_zzFits2 k a0 a1 a2 a3 a4 a5 a6 = some b ∧ (b = true → a3.length ≤ 2147483647 ∧ a4.length ≤ 2147483647 ∧ a5.length ≤ 2147483647 ∧ (∀ x ∈ a5, x.length ≤ 2147483647) ∧ a6.length ≤ 2147483647) := by
  unfold laws_zzFits2
  by_cases h3 : 2147483647 < (a3.length : Int)
  · rw [decide_eq_true h3, br_true]; exact ⟨false, rfl, fun h => by cases h⟩
  rw [decide_eq_false h3, br_false]
  by_cases h4 : 2147483647 < (a4.length : Int)
  · rw [decide_eq_true h4, br_true]; exact ⟨false, rfl, fun h => by cases h⟩
  rw [decide_eq_false h4, br_false]
  have h5' : a5.length ≤ 2147483647 ∨ laws_zzFits3 k a5 = some false := by
    by_cases h : 2147483647 < (a5.length : Int)
    · right; unfold laws_zzFits3; rw [decide_eq_true h, br_true]
    · left; omega
  obtain ⟨b, hb, hQ⟩ := fits3_is a5 h5 k hk
  rw [hb, sbind]
  cases b
  · exact ⟨false, rfl, fun h => by cases h⟩
  rw [Bool.not_true, br_false]
  by_cases h6 : 2147483647 < (a6.length : Int)
  · rw [decide_eq_true h6, br_true]; exact ⟨false, rfl, fun h => by cases h⟩
  rw [decide_eq_false h6, br_false]
  refine ⟨true, rfl, fun _ => ⟨by omega, by omega, ?_, hQ rfl, by omega⟩⟩
  rcases h5' with h | h
  · exact h
  · rw [hb] at h; cases h

theorem sameIntsK {k : Nat} (xs : List Int) (h : xs.length < k) (h2 : xs.length < 9223372036854775807) : spec_sameInts_v2 k xs xs = some true := by
  have key := loop_any (F := spec_sameInts_v2_l1 xs xs) 0 xs.length (fun _ => false) (.inl ()) (.inr ()) (fun k i _ hi => by
    simp only [spec_sameInts_v2_l1, spec_sameInts_v2_l1s, lt_true hi, br_true, idx_get hi, Option.bind_eq_bind, Option.bind_some, decide_true, Bool.not_true, br_false, Bool.false_eq_true, if_false]
    rw [iadd_one (by omega)]) (fun k => by simp only [spec_sameInts_v2_l1, spec_sameInts_v2_l1s, lt_false (Nat.lt_irrefl _), br_false]) xs.length 0 k (by omega) (by omega)
  have e : (List.range' 0 xs.length).any (fun _ => false) = false := any_false fun _ _ => rfl
  rw [e] at key
  unfold spec_sameInts_v2
  have : (!decide ((xs.length : Int) = (xs.length : Int))) = false := by simp
  rw [this, br_false]
  rw [show (0 : Int) = ((0 : Nat) : Int) from rfl, key]
  rfl
theorem sameFloatsK {k : Nat} (xs : List Nat) (h : xs.length < k) (h2 : xs.length < 9223372036854775807) : spec_SameFloats_v2 k xs xs = some true := by
  have key := loop_any (F := spec_SameFloats_v2_l1 xs xs) 0 xs.length (fun _ => false) (.inl ()) (.inr ()) (fun k i _ hi => by
    simp only [spec_SameFloats_v2_l1, spec_SameFloats_v2_l1s, lt_true hi, br_true, idx_get hi, Option.bind_eq_bind, Option.bind_some, decide_true, Bool.not_true, br_false, Bool.false_eq_true, if_false]
    rw [iadd_one (by omega)]) (fun k => by simp only [spec_SameFloats_v2_l1, spec_SameFloats_v2_l1s, lt_false (Nat.lt_irrefl _), br_false]) xs.length 0 k (by omega) (by omega)
  have e : (List.range' 0 xs.length).any (fun _ => false) = false := any_false fun _ _ => rfl
  rw [e] at key
  unfold spec_SameFloats_v2
  have : (!decide ((xs.length : Int) = (xs.length : Int))) = false := by simp
  rw [this, br_false]
  rw [show (0 : Int) = ((0 : Nat) : Int) from rfl, key]
  rfl
theorem sameK {x : T27} (hx : x.OkW) : ∃ K, ∀ k, K ≤ k → spec_SameGeom_v2 k x.f0 x.f1 x.f2 x.f3 x.f4 x.f5 x.f6 x.f0 x.f1 x.f2 x.f3 x.f4 x.f5 x.f6 = some true := by
  induction hx with
  | @mk x0 x1 x2 x3 x4 x5 x6 g0 g1 g2 g3 g4 g5 g6 gk ih =>
    have hm : maxLen = 9223372036854775807 := rfl
    obtain ⟨K, hK⟩ := all_bound x6 ih
    refine ⟨K + x6.length + x5.length + 140737488355328 + 3, fun k hk => ?_⟩
    obtain ⟨j, rfl⟩ : ∃ j, k = j + 1 := ⟨k - 1, by omega⟩
    have k5 := loop_any (F := spec_SameGeom_v2_l1 x5 x5) 140737488355328 x5.length (fun _ => false) (.inl ()) (.inr ()) (fun k i hkm hi => by
      have := (g5.2 _ (List.getElem_mem hi)).1
      simp only [spec_SameGeom_v2_l1, spec_SameGeom_v2_l1s, lt_true hi, br_true, idx_get hi, sameIntsK x5[i] (k := k) (by omega) (by omega), Option.bind_eq_bind, Option.bind_some, decide_true, Bool.not_true, br_false, Bool.false_eq_true, if_false]
      rw [iadd_one (by omega)]) (fun k => by simp only [spec_SameGeom_v2_l1, spec_SameGeom_v2_l1s, lt_false (Nat.lt_irrefl _), br_false]) x5.length 0 j (by omega) (by omega)
    have k6 := loop_any (F := spec_SameGeom_v2_l2 x6 x6 (spec_SameGeom_v2 j)) 0 x6.length (fun _ => false) (.inl ()) (.inr ()) (fun k i _ hi => by
      have := hK j (by omega) _ (List.getElem_mem hi)
      simp only [spec_SameGeom_v2_l2, spec_SameGeom_v2_l2s, lt_true hi, br_true, idx_get hi, this, Option.bind_eq_bind, Option.bind_some, decide_true, Bool.not_true, br_false, Bool.false_eq_true, if_false]
      rw [iadd_one (by omega)]) (fun k => by simp only [spec_SameGeom_v2_l2, spec_SameGeom_v2_l2s, lt_false (Nat.lt_irrefl _), br_false]) x6.length 0 j (by omega) (by omega)
    have e : ∀ n, (List.range' 0 n).any (fun _ => false) = false := fun n => any_false fun _ _ => rfl
    rw [e] at k5 k6
    have k5' : spec_SameGeom_v2_l1 x5 x5 j 0 = some (.inr ()) := k5
    have k6' : spec_SameGeom_v2_l2 x6 x6 (spec_SameGeom_v2 j) j 0 = some (.inr ()) := k6
    show spec_SameGeom_v2_b (spec_SameGeom_v2 j) j x0 x1 x2 x3 x4 x5 x6 x0 x1 x2 x3 x4 x5 x6 = some true
    simp only [spec_SameGeom_v2_b, spec_SameGeom_v2_j1, spec_SameGeom_v2_j2, spec_SameGeom_v2_j3, spec_SameGeom_v2_j4, spec_SameGeom_v2_j5, spec_SameGeom_v2_j6, decide_true, Bool.not_true, br_false, sameFloatsK x3 (k := j) (by omega) (by omega), sameIntsK x4 (k := j) (by omega) (by omega), sbind, k5', k6']
theorem same_top {x6 : List T27} (h6 : x6.length * 120 ≤ 140737488351232) (gk : ∀ y ∈ x6, T27.OkW y) (a b c : Int) : ∃ K, ∀ k, K ≤ k → spec_SameGeom k a b c x6 a b c [] [] [] x6 = some true := by
  obtain ⟨K, hK⟩ := all_bound x6 (fun y hy => sameK (gk y hy))
  refine ⟨K + x6.length + 1, fun k hk => ?_⟩
  have k6 := loop_any (F := spec_SameGeom_l1 x6 x6) K x6.length (fun _ => false) (.inl ()) (.inr ()) (fun k i hkm hi => by
    have := hK k hkm _ (List.getElem_mem hi)
    simp only [spec_SameGeom_l1, spec_SameGeom_l1s, lt_true hi, br_true, idx_get hi, this, Option.bind_eq_bind, Option.bind_some, decide_true, Bool.not_true, br_false, Bool.false_eq_true, if_false]
    rw [iadd_one (by omega)]) (fun k => by simp only [spec_SameGeom_l1, spec_SameGeom_l1s, lt_false (Nat.lt_irrefl _), br_false]) x6.length 0 k (by omega) (by omega)
  have e : ∀ n, (List.range' 0 n).any (fun _ => false) = false := fun n => any_false fun _ _ => rfl
  rw [e] at k6
  have k6' : spec_SameGeom_l1 x6 x6 k 0 = some (.inr ()) := k6
  have hf : spec_SameFloats k [] = some true := rfl
  have hi : spec_sameInts k [] = some true := rfl
  simp only [spec_SameGeom, spec_SameGeom_j1, spec_SameGeom_j2, spec_SameGeom_j3, spec_SameGeom_j4, spec_SameGeom_j5, spec_SameGeom_j6, decide_true, Bool.not_true, br_false, hf, hi, sbind, List.length_nil, k6']
theorem chk_gen (x6 : List T27) (a1 : Int) (K : Nat) (hl : x6.length ≤ maxLen) (hk : ∀ k, K ≤ k → ∀ y ∈ x6, lay k (GO y) = some (LO y)) (k : Nat) (hkk : x6.length + K < k) :
    ∃ y, gogeom_GeometryCollection_CheckLayout_v2_l1 (x6.map GO) a1 k 0 = some y ∧ ((y = .inr () ∧ ∀ z ∈ x6, LO z = a1) ∨ ((∃ v, y = .inl v) ∧ ∃ z ∈ x6, LO z ≠ a1)) := by
  have hx : maxLen = 9223372036854775807 := rfl
  refine loop_inv (F := gogeom_GeometryCollection_CheckLayout_v2_l1 (x6.map GO) a1) K (fun m p => p = ((x6.length - m : Nat) : Int) ∧ m ≤ x6.length ∧ ∀ z ∈ x6.take (x6.length - m), LO z = a1) _ ?_ x6.length 0 k ⟨by simp, Nat.le_refl _, by simp⟩ hkk
  intro k m i hK hI
  obtain ⟨hi, hml, hz⟩ := hI
  subst hi
  show (∃ y, gogeom_GeometryCollection_CheckLayout_v2_l1s (x6.map GO) a1 k (gogeom_GeometryCollection_CheckLayout_v2_l1 (x6.map GO) a1 k) ((x6.length - m : Nat) : Int) = some y ∧ _) ∨ ∃ m' x', _ ∧ _ ∧ gogeom_GeometryCollection_CheckLayout_v2_l1s (x6.map GO) a1 k (gogeom_GeometryCollection_CheckLayout_v2_l1 (x6.map GO) a1 k) ((x6.length - m : Nat) : Int) = _
  unfold gogeom_GeometryCollection_CheckLayout_v2_l1s
  by_cases e : m = 0
  · subst e
    rw [decide_eq_false (by rw [List.length_map]; omega), br_false]
    exact .inl ⟨_, rfl, .inl ⟨rfl, by simpa using hz⟩⟩
  · have hi : x6.length - m < x6.length := by omega
    have hv := hk k hK _ (List.getElem_mem hi)
    have hc : x6.length - (m - 1) = x6.length - m + 1 := by omega
    rw [decide_eq_true (by rw [List.length_map]; omega), br_true, idx_get (by rw [List.length_map]; exact hi), sbind, List.getElem_map]
    by_cases hw : LO x6[x6.length - m] = a1
    · refine .inr ⟨m - 1, ((x6.length - m + 1 : Nat) : Int), by omega, ⟨by congr 1; omega, by omega, fun z hz' => ?_⟩, ?_⟩
      · rw [hc, List.take_add_one, List.getElem?_eq_getElem hi] at hz'
        rcases List.mem_append.1 hz' with h | h
        · exact hz z h
        · simp at h; rw [h]; exact hw
      · rw [hw] at hv
        generalize GO x6[x6.length - m] = g at hv ⊢
        cases g with
        | c7 a b c =>
          have hv' : gogeom_GeometryCollection_Layout k a b c = some a1 := hv
          simp only [hv', sbind]
          rw [decide_eq_true trivial, Bool.not_true, br_false, iadd_one (by omega)]
        | _ =>
          cases hv
          simp only [gogeom_geom0_Layout, gogeom_geom0_Layout_v2, gogeom_geom0_Layout_v3, sbind]
          rw [decide_eq_true trivial, Bool.not_true, br_false, iadd_one (by omega)]
    · refine .inl ⟨.inl (LO x6[x6.length - m]), ?_, .inr ⟨⟨_, rfl⟩, _, List.getElem_mem hi, hw⟩⟩
      generalize LO x6[x6.length - m] = w at hv hw ⊢
      generalize GO x6[x6.length - m] = g at hv ⊢
      cases g with
      | c7 a b c =>
        have hv' : gogeom_GeometryCollection_Layout k a b c = some w := hv
        simp only [hv', sbind]
        rw [decide_eq_false hw, Bool.not_false, br_true]
      | _ =>
        cases hv
        simp only [gogeom_geom0_Layout, gogeom_geom0_Layout_v2, gogeom_geom0_Layout_v3, sbind]
        rw [decide_eq_false hw, Bool.not_false, br_true]
theorem kids_gen (x6 : List T27) (a1 : Int) (K : Nat) (hl : x6.length ≤ maxLen) (hk : ∀ k, K ≤ k → ∀ y ∈ x6, spec_LayoutOf k y.f0 y.f1 y.f2 y.f3 y.f4 y.f5 y.f6 = some (LO y)) (k : Nat) (hkk : x6.length + K < k) :
    ∃ y, laws_gKidsOf_l1 x6 a1 k 0 = some y ∧ ((y = .inr () ∧ ∀ z ∈ x6, LO z = a1) ∨ ((∃ v, y = .inl v) ∧ ∃ z ∈ x6, LO z ≠ a1)) := by
  have hx : maxLen = 9223372036854775807 := rfl
  refine loop_inv (F := laws_gKidsOf_l1 x6 a1) K (fun m p => p = ((x6.length - m : Nat) : Int) ∧ m ≤ x6.length ∧ ∀ z ∈ x6.take (x6.length - m), LO z = a1) _ ?_ x6.length 0 k ⟨by simp, Nat.le_refl _, by simp⟩ hkk
  intro k m i hK hI
  obtain ⟨hi, hml, hz⟩ := hI
  subst hi
  show (∃ y, laws_gKidsOf_l1s x6 a1 k (laws_gKidsOf_l1 x6 a1 k) ((x6.length - m : Nat) : Int) = some y ∧ _) ∨ ∃ m' x', _ ∧ _ ∧ laws_gKidsOf_l1s x6 a1 k (laws_gKidsOf_l1 x6 a1 k) ((x6.length - m : Nat) : Int) = _
  unfold laws_gKidsOf_l1s
  by_cases e : m = 0
  · subst e
    rw [decide_eq_false (by omega), br_false]
    exact .inl ⟨_, rfl, .inl ⟨rfl, by simpa using hz⟩⟩
  · have hi : x6.length - m < x6.length := by omega
    have hv := hk k hK _ (List.getElem_mem hi)
    have hc : x6.length - (m - 1) = x6.length - m + 1 := by omega
    rw [decide_eq_true (by omega), br_true, idx_get hi, sbind, hv, sbind]
    by_cases hw : LO x6[x6.length - m] = a1
    · refine .inr ⟨m - 1, ((x6.length - m + 1 : Nat) : Int), by omega, ⟨by congr 1; omega, by omega, fun z hz' => ?_⟩, ?_⟩
      · rw [hc, List.take_add_one, List.getElem?_eq_getElem hi] at hz'
        rcases List.mem_append.1 hz' with h | h
        · exact hz z h
        · simp at h; rw [h]; exact hw
      · rw [decide_eq_true hw, Bool.not_true, br_false, iadd_one (by omega)]
    · refine .inl ⟨.inl (), ?_, .inr ⟨⟨_, rfl⟩, _, List.getElem_mem hi, hw⟩⟩
      rw [decide_eq_false hw, Bool.not_false, br_true]
theorem set_point (k : Nat) : ∃ a b c, impl_SetLayout_v2 k 7 0 0 1 = some (a, b, c, true) := ⟨_, _, _, rfl⟩
theorem out_seven {o : Out} {a : Int} {kids : List G53} {c : Int} (h : toG o = .c7 a kids c) : o = .inr (.inr (.inr (.inr (.inr (.inr (.inr (a, kids, c))))))) := by
  rcases o with y | y | y | y | y | y | y | y <;> first | (cases h; rfl) | cases h
theorem fact_FnSetLayout (a0 a1 a2 : Int) (a3 : List Nat) (a4 : List Int) (a5 : List (List Int)) (a6 : List T27) (b : Int)
    (g : (IntKind.min .i64 ≤ a0 ∧ a0 ≤ IntKind.max .i64) ∧ (IntKind.min .i64 ≤ a1 ∧ a1 ≤ IntKind.max .i64) ∧ (IntKind.min .i64 ≤ a2 ∧ a2 ≤ IntKind.max .i64) ∧ (a3.length * 8 ≤ 140737488351232 ∧ ∀ y ∈ a3, y < 18446744073709551616) ∧ (a4.length * 8 ≤ 140737488351232 ∧ ∀ y ∈ a4, IntKind.min .i64 ≤ y ∧ y ≤ IntKind.max .i64) ∧ (a5.length * 24 ≤ 140737488351232 ∧ ∀ x ∈ a5, x.length * 8 ≤ 140737488351232 ∧ ∀ y ∈ x, IntKind.min .i64 ≤ y ∧ y ≤ IntKind.max .i64) ∧ (a6.length * 120 ≤ 140737488351232 ∧ ∀ y ∈ a6, T27.OkW y))
    {p : Prop} (gb : p) :
    ∃ k, laws_FnSetLayout k a0 a1 a2 a3 a4 a5 a6 b = some true := by
  obtain ⟨g0, g1, g2, g3, g4, g5, g6, gk⟩ := g
  have hx := T27.OkW.mk g0 g1 g2 g3 g4 g5 g6 gk
  have hm : maxLen = 9223372036854775807 := rfl
  obtain ⟨K, hK⟩ := gGood_is (okw_ok hx)
  obtain ⟨L, hL⟩ := geom_is hx
  obtain ⟨M, hM⟩ := all_bound (P := fun y k => lay k (GO y) = some (LO y)) a6 (fun y hy => lay_is (okw_ok (gk y hy)))
  obtain ⟨R, hR⟩ := all_bound (P := fun y k => spec_LayoutOf k y.f0 y.f1 y.f2 y.f3 y.f4 y.f5 y.f6 = some (LO y)) a6 (fun y hy => lo_is (okw_ok (gk y hy)))
  obtain ⟨U, hU⟩ := same_top g6 gk 7 b a2
  obtain ⟨V, hV⟩ := all_bound a6 (fun y hy => back_is (gk y hy))
  refine ⟨K + L + M + R + U + V + a5.length + a6.length + 10, ?_⟩
  generalize hkk : K + L + M + R + U + V + a5.length + a6.length + 10 = k
  obtain ⟨t, ht, htt⟩ := fits2_is k a0 a1 a2 a3 a4 a5 a6 (by omega) (by omega)
  unfold laws_FnSetLayout
  rw [ht, sbind]
  cases t
  · rfl
  rw [Bool.not_true, br_false]
  obtain ⟨q, hq, hqt⟩ := hK k (by omega)
  rw [hq, sbind]
  cases q
  · rfl
  obtain ⟨j, hj⟩ := hqt rfl
  rw [Bool.not_true, br_false]
  by_cases h7 : a0 = 7
  rotate_left
  · rw [decide_eq_false h7]; rfl
  rw [decide_eq_true h7]
  by_cases h1 : a1 = 0
  rotate_left
  · unfold laws_FnSetLayout_j1; rw [decide_eq_false h1]; rfl
  unfold laws_FnSetLayout_j1
  rw [decide_eq_true h1, Bool.not_true, br_false]
  unfold laws_FnSetLayout_j2
  rw [br_false]
  by_cases hb1 : b < 1
  · rw [decide_eq_true hb1]; rfl
  rw [decide_eq_false hb1]
  unfold laws_FnSetLayout_j3
  rw [br_false]
  by_cases hb9 : 9 < b
  · rw [decide_eq_true hb9]; rfl
  rw [decide_eq_false hb9]
  unfold laws_FnSetLayout_j4
  rw [br_false]
  subst h7; subst h1
  obtain ⟨rfl, rfl, rfl⟩ := good_seven g3.1 g4.1 g5.1 hj
  have hkid := good_kids (by omega) hj
  obtain ⟨o, ho, hto⟩ := hL k (by omega) ⟨j, hj⟩
  replace ho : impl_geometry k 7 0 a2 [] [] [] a6 = some o := ho
  rw [GO_mk, if_pos rfl] at hto
  obtain rfl := out_seven hto
  obtain ⟨pa, pb, pc, hpt⟩ := set_point k
  obtain ⟨y, hy, hyy⟩ := chk_gen a6 b M (by omega) hM k (by omega)
  obtain ⟨z, hz, hzz⟩ := kids_gen a6 b R (by omega) hR k (by omega)
  have hb0 : b ≠ 0 := by omega
  unfold impl_SetLayout
  rw [ho, sbind]
  simp only [gogeom_GeometryCollection_SetLayout_v2, gogeom_GeometryCollection_CheckLayout_v2, gogeom_GeometryCollection_CheckLayout_v2_j1, decide_eq_false hb0, Bool.not_false, br_true, hy, sbind, hpt, laws_gKidsOf, hz]
  rcases hyy with ⟨rfl, hall⟩ | ⟨⟨v, rfl⟩, w, hw, hwn⟩
  · rcases hzz with ⟨rfl, _⟩ | ⟨_, w, hw, hwn⟩
    · have hl : impl_plain_l1 (b, a6.map GO, a2) k ([], 0) = some a6 := by
        refine back_step (F := impl_plain_l1 (b, a6.map GO, a2)) a6 g6 V (fun k i hi hkV => ?_) (fun k s => ?_) k (by omega)
        · show impl_plain_l1s (b, a6.map GO, a2) k (impl_plain_l1 (b, a6.map GO, a2) k) (a6.take i) (i : Int) = _
          unfold impl_plain_l1s
          rw [decide_eq_true (by simp; omega), br_true, idx_get (by rw [List.length_map]; exact hi), sbind, List.getElem_map, hV k hkV a6[i] (List.getElem_mem hi) (hkid i hi).1, sbind]
          cases a6[i]; rfl
        · show impl_plain_l1s (b, a6.map GO, a2) k (impl_plain_l1 (b, a6.map GO, a2) k) s (a6.length : Int) = _
          unfold impl_plain_l1s
          rw [decide_eq_false (by simp), br_false]
      simp only [impl_plain, gogeom_GeometryCollection_SRID, gogeom_DoorLayout, gogeom_GeometryCollection_Geoms, hl, sbind]
      show laws_FnSetLayout_j5 k (7, b, a2, a6, true) 7 b a2 [] [] [] a6 true = some true
      unfold laws_FnSetLayout_j5
      rw [br_true]
      show ((spec_SameGeom k 7 b a2 a6 7 b a2 [] [] [] a6) >>= fun r63 => laws_FnSetLayout_j6 k r63) = some true
      rw [hU k (by omega), sbind]; rfl
    · exact absurd (hall w hw) hwn
  · rcases hzz with ⟨rfl, hall⟩ | ⟨⟨u, rfl⟩, _⟩
    · exact absurd (hall w hw) hwn
    · rfl
end Go.Proofs.Ytmagcmeknclljaa
