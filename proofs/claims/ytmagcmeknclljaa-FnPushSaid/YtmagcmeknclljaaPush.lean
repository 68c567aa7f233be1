/-
  Pushing a part: the plain statement. Ours.
-/
import Derived.Test.YtmagcmeknclljaaPushRes
namespace Go.Proofs.Ytmagcmeknclljaa
open Go.Sx
set_option linter.unusedVariables false
set_option linter.unusedSimpArgs false
set_option maxRecDepth 100000

theorem same_if {x : T27} {s : Prop} (h : s → x.OkW) : ∃ K, ∀ k, K ≤ k → s → spec_SameGeom k x.f0 x.f1 x.f2 x.f3 x.f4 x.f5 x.f6 x.f0 x.f1 x.f2 x.f3 x.f4 x.f5 x.f6 = some true := by
  by_cases hs : s
  · obtain ⟨K, hK⟩ := sameK (h hs)
    exact ⟨K, fun k hk _ => hK k hk⟩
  · exact ⟨0, fun k _ h' => absurd h' hs⟩
theorem has_is {a0 a1 a2 : Int} {a3 : List Nat} {a4 : List Int} {a5 : List (List Int)} {a6 : List T27} {k : Nat} {q : Bool} (h : laws_gGood k [T27.mk a0 a1 a2 a3 a4 a5 a6] = some q) :
    ∃ b, laws_gHasParts k a0 a1 a2 a3 a4 a5 a6 = some b ∧ (b = true → 3 ≤ a0 ∧ a0 ≤ 7) := by
  unfold laws_gHasParts
  rw [h, sbind]
  cases q
  · exact ⟨false, rfl, fun h => by cases h⟩
  rw [br_true]
  by_cases h3 : 3 ≤ a0
  · rw [decide_eq_true h3, br_true]
    exact ⟨decide (a0 ≤ 7), rfl, fun h => ⟨h3, of_decide_eq_true h⟩⟩
  · rw [decide_eq_false h3, br_false]
    exact ⟨false, rfl, fun h => by cases h⟩
theorem isub_one {a : Int} (h1 : 3 ≤ a) (h2 : a ≤ 7) : isub .i64 a 3 = a - 3 := by
  unfold isub IntKind.wrap
  simp only [IntKind.signed, IntKind.bits]
  have : (a - 3) % 2 ^ 64 = a - 3 := Int.emod_eq_of_lt (by omega) (by omega)
  simp only [this, Bool.true_and, decide_eq_true_eq]
  rw [if_neg (by omega)]
theorem partOf_is {a0 a1 a2 : Int} {a3 : List Nat} {a4 : List Int} {a5 : List (List Int)} {a6 : List T27} {c0 c1 c2 : Int} {c3 : List Nat} {c4 : List Int} {c5 : List (List Int)} {c6 : List T27} (k : Nat) (h3 : 3 ≤ a0) (h7 : a0 ≤ 7) :
    ∃ b, laws_gPartOf k a0 a1 a2 a3 a4 a5 a6 c0 c1 c2 c3 c4 c5 c6 = some b ∧ (b = true → (a0 = 3 ∨ a0 = 4 ∨ a0 = 5 → c0 = kdOfP a0 ∧ c0 = kdOf a0) ∧ (a0 = 6 → c0 = 3)) := by
  unfold laws_gPartOf
  by_cases e3 : a0 = 3
  · subst e3
    rw [decide_eq_true rfl, br_true]
    exact ⟨_, rfl, fun h => ⟨fun _ => by have := of_decide_eq_true h; subst this; exact ⟨rfl, rfl⟩, fun h => by omega⟩⟩
  rw [decide_eq_false e3, br_false]
  by_cases e7 : a0 = 7
  · subst e7
    rw [decide_eq_true rfl, br_true]
    exact ⟨true, rfl, fun _ => ⟨fun h => by omega, fun h => by omega⟩⟩
  rw [decide_eq_false e7, br_false]
  have : spec_KidOf k a0 = some (a0 - 3) := by
    unfold spec_KidOf
    rw [decide_eq_true (by omega), br_true, decide_eq_true (by omega)]
    unfold spec_KidOf_j1
    rw [br_true, isub_one (by omega) (by omega)]
  rw [this, sbind]
  refine ⟨_, rfl, fun h => ?_⟩
  have h := of_decide_eq_true h
  refine ⟨fun hh => ?_, fun hh => by omega⟩
  unfold kdOfP kdOf
  rcases hh with hh | hh | hh
  · omega
  · subst hh; subst h; exact ⟨rfl, rfl⟩
  · subst hh; subst h; exact ⟨rfl, rfl⟩
theorem fact_FnPush (a0 a1 a2 : Int) (a3 : List Nat) (a4 : List Int) (a5 : List (List Int)) (a6 : List T27) (c0 c1 c2 : Int) (c3 : List Nat) (c4 : List Int) (c5 : List (List Int)) (c6 : List T27)
    (g : (IntKind.min .i64 ≤ a0 ∧ a0 ≤ IntKind.max .i64) ∧ (IntKind.min .i64 ≤ a1 ∧ a1 ≤ IntKind.max .i64) ∧ (IntKind.min .i64 ≤ a2 ∧ a2 ≤ IntKind.max .i64) ∧ (a3.length * 8 ≤ 140737488351232 ∧ ∀ y ∈ a3, y < 18446744073709551616) ∧ (a4.length * 8 ≤ 140737488351232 ∧ ∀ y ∈ a4, IntKind.min .i64 ≤ y ∧ y ≤ IntKind.max .i64) ∧ (a5.length * 24 ≤ 140737488351232 ∧ ∀ x ∈ a5, x.length * 8 ≤ 140737488351232 ∧ ∀ y ∈ x, IntKind.min .i64 ≤ y ∧ y ≤ IntKind.max .i64) ∧ (a6.length * 120 ≤ 140737488351232 ∧ ∀ y ∈ a6, T27.OkW y))
    (h : (IntKind.min .i64 ≤ c0 ∧ c0 ≤ IntKind.max .i64) ∧ (IntKind.min .i64 ≤ c1 ∧ c1 ≤ IntKind.max .i64) ∧ (IntKind.min .i64 ≤ c2 ∧ c2 ≤ IntKind.max .i64) ∧ (c3.length * 8 ≤ 140737488351232 ∧ ∀ y ∈ c3, y < 18446744073709551616) ∧ (c4.length * 8 ≤ 140737488351232 ∧ ∀ y ∈ c4, IntKind.min .i64 ≤ y ∧ y ≤ IntKind.max .i64) ∧ (c5.length * 24 ≤ 140737488351232 ∧ ∀ x ∈ c5, x.length * 8 ≤ 140737488351232 ∧ ∀ y ∈ x, IntKind.min .i64 ≤ y ∧ y ≤ IntKind.max .i64) ∧ (c6.length * 120 ≤ 140737488351232 ∧ ∀ y ∈ c6, T27.OkW y)) :
    ∃ k, laws_FnPush k a0 a1 a2 a3 a4 a5 a6 c0 c1 c2 c3 c4 c5 c6 = some true := by
  obtain ⟨g0, g1, g2, g3, g4, g5, g6, gk⟩ := g
  obtain ⟨h0, h1, h2, h3, h4, h5, h6, hk'⟩ := h
  have hx := T27.OkW.mk g0 g1 g2 g3 g4 g5 g6 gk
  have hp := T27.OkW.mk h0 h1 h2 h3 h4 h5 h6 hk'
  have hm : maxLen = 9223372036854775807 := rfl
  obtain ⟨K1, k1⟩ := gGood2_is (okw_ok hx) (okw_ok hp)
  obtain ⟨K2, k2⟩ := gGood_is (okw_ok hx)
  obtain ⟨K3, k3⟩ := lo_is (okw_ok hp)
  obtain ⟨K4, k4⟩ := geom_is hx
  obtain ⟨K5, k5⟩ := geom_is hp
  obtain ⟨K6, k6⟩ := lay_is (okw_ok hp)
  obtain ⟨K7, k7⟩ := all_bound (P := fun y k => (∃ j, spec_Good (j + 1) y.f0 y.f1 y.f2 y.f3 y.f4 y.f5 y.f6 = some true) → impl_plain_v6 k (GO y) = some (y.f0, y.f1, y.f2, y.f3, y.f4, y.f5, y.f6)) (a6 ++ [T27.mk c0 c1 c2 c3 c4 c5 c6]) (fun y hy => by
    rcases List.mem_append.1 hy with hh | hh
    · exact back_is (gk y hh)
    · rw [List.mem_singleton.1 hh]; exact back_is hp)
  obtain ⟨K8, k8⟩ := same_if (x := T27.mk a0 a1 a2 (a3 ++ c3) (a4 ++ [((a3 ++ c3).length : Int)]) [] []) (s := a3.length ≤ 2147483647 ∧ c3.length ≤ 2147483647 ∧ a4.length ≤ 2147483647) (fun hs => okw_rows (T27.OkW.mk g0 g1 g2 g3 g4 (by simp) (by simp) (by simp)) h3.2 hs.1 hs.2.1 hs.2.2)
  obtain ⟨K9, k9⟩ := same_if (x := T27.mk 6 a1 a2 (a3 ++ c3) [] (a5 ++ [mv a3.length c4]) []) (s := a3.length ≤ 2147483647 ∧ c3.length ≤ 2147483647 ∧ a5.length ≤ 2147483647 ∧ c4.length ≤ 2147483647) (fun hs => okw_polys (T27.OkW.mk (by decide) g1 g2 g3 (by simp) g5 (by simp) (by simp)) h3.2 hs.1 hs.2.1 hs.2.2.1 hs.2.2.2)
  obtain ⟨K10, k10⟩ := same_if (x := T27.mk 7 a1 a2 [] [] [] (a6 ++ [T27.mk c0 c1 c2 c3 c4 c5 c6])) (s := a6.length ≤ 2147483647) (fun hs => okw_col (T27.OkW.mk (by decide) g1 g2 (by simp) (by simp) (by simp) g6 gk) hp hs)
  refine ⟨K1 + K2 + K3 + K4 + K5 + K6 + K7 + K8 + K9 + K10 + a4.length + a5.length + a6.length + c4.length + c5.length + 10000000000, ?_⟩
  generalize hkk : K1 + K2 + K3 + K4 + K5 + K6 + K7 + K8 + K9 + K10 + a4.length + a5.length + a6.length + c4.length + c5.length + 10000000000 = k
  obtain ⟨t, ht, htt⟩ := fits2_is k a0 a1 a2 a3 a4 a5 a6 (by omega) (by omega)
  unfold laws_FnPush
  rw [ht, sbind]
  cases t
  · rfl
  obtain ⟨u, hu, huu⟩ := fits2_is k c0 c1 c2 c3 c4 c5 c6 (by omega) (by omega)
  rw [Bool.not_true, br_false, hu, sbind]
  cases u
  · rfl
  obtain ⟨s3, s4, s5, s5', s6⟩ := htt rfl
  obtain ⟨r3, r4, r5, r5', r6⟩ := huu rfl
  rw [Bool.not_true]
  unfold laws_FnPush_j1
  rw [br_false]
  obtain ⟨q, hq, hqt⟩ := k1 k (by omega)
  rw [hq, sbind]
  cases q
  · rfl
  obtain ⟨⟨jx, gx⟩, ⟨jp, gp⟩⟩ := hqt rfl
  replace gx : spec_Good (jx + 1) a0 a1 a2 a3 a4 a5 a6 = some true := gx
  replace gp : spec_Good (jp + 1) c0 c1 c2 c3 c4 c5 c6 = some true := gp
  rw [Bool.not_true, br_false]
  obtain ⟨q2, hq2, -⟩ := k2 k (by omega)
  obtain ⟨b, hb, hbt⟩ := has_is hq2
  rw [hb, sbind]
  cases b
  · rfl
  obtain ⟨e3, e7⟩ := hbt rfl
  rw [Bool.not_true]
  unfold laws_FnPush_j2
  rw [br_false]
  obtain ⟨b, hb, hbt⟩ := partOf_is (a1 := a1) (a2 := a2) (a3 := a3) (a4 := a4) (a5 := a5) (a6 := a6) (c0 := c0) (c1 := c1) (c2 := c2) (c3 := c3) (c4 := c4) (c5 := c5) (c6 := c6) k e3 e7
  rw [hb, sbind]
  cases b
  · rfl
  obtain ⟨t1, t2⟩ := hbt rfl
  rw [Bool.not_true]
  unfold laws_FnPush_j3
  have hlo : spec_LayoutOf k c0 c1 c2 c3 c4 c5 c6 = some (LO (T27.mk c0 c1 c2 c3 c4 c5 c6)) := k3 k (by omega)
  rw [br_false, hlo, sbind]
  obtain ⟨i, rfl⟩ : ∃ i, k = i + 2 := ⟨k - 2, by omega⟩
  have hco := const_ok (i + 1) (by omega)
  by_cases h7 : a0 = 7
  · subst h7
    obtain ⟨rfl, rfl, rfl⟩ := good_seven g3.1 g4.1 g5.1 gx
    rw [decide_eq_true rfl, br_true]
    have hkid := good_kids (x1 := a1) (x2 := a2) (x3 := []) (x4 := []) (x5 := []) (x6 := a6) (by omega) gx
    obtain ⟨o, ho, hto⟩ := k4 (i + 2) (by omega) ⟨jx, gx⟩
    rw [GO_mk, if_pos rfl] at hto
    obtain ⟨o', ho', hto'⟩ := k5 (i + 2) (by omega) ⟨jp, gp⟩
    have hpush := push_col (kids := a6) (p := T27.mk c0 c1 c2 c3 c4 c5 c6) (K := K7) ho hto ho' hto' (k6 (i + 1) (by omega)) (fun k hk y hy => k7 k hk y hy (by
      rcases List.mem_append.1 hy with hh | hh
      · obtain ⟨m, hm, rfl⟩ := List.mem_iff_getElem.1 hh
        exact (hkid m hm).1
      · rw [List.mem_singleton.1 hh]; exact ⟨jp, gp⟩)) (by omega) (by omega)
    have hend : ∀ x, x = decide (a1 = 0 ∨ LO (T27.mk c0 c1 c2 c3 c4 c5 c6) = a1) → laws_FnPush_j4 (i + 2) a6 c0 c1 c2 c3 c4 c5 c6 7 a1 a2 [] [] [] x = some true := by
      intro x hx
      unfold laws_FnPush_j4
      rw [apd_some (by simp; omega) (by simp; omega), sbind, List.nil_append, apd_some (by simp; omega) (by simp; omega), sbind, hx]
      exact j5_is hpush hco (k10 (i + 2) (by omega) s6)
    by_cases hl : LO (T27.mk c0 c1 c2 c3 c4 c5 c6) = a1
    · rw [decide_eq_true hl, br_true]; exact hend _ (decide_eq_true (.inr hl)).symm
    · rw [decide_eq_false hl, br_false]
      by_cases h0 : a1 = 0
      · rw [decide_eq_true h0]; exact hend _ (decide_eq_true (.inl h0)).symm
      · rw [decide_eq_false h0]; exact hend _ (decide_eq_false (fun hh => hh.elim h0 hl)).symm
  rw [decide_eq_false h7, br_false]
  have hc7 : c0 ≠ 7 := by
    intro hc
    by_cases h6 : a0 = 6
    · have := t2 h6; omega
    · have := (t1 (by omega)).1; unfold kdOfP at this; repeat' split at this
      all_goals omega
  have l1 := good_str gx h7
  have l2 := good_str gp hc7
  obtain ⟨rfl, f5, f4⟩ := good_form gx h7
  obtain ⟨rfl, p5, p4⟩ := good_form gp hc7
  have hLO : LO (T27.mk c0 c1 c2 c3 c4 c5 []) = c1 := by rw [LO_mk, if_neg (by omega)]
  rw [hLO]
  by_cases h6 : a0 = 6
  · subst h6
    obtain rfl := t2 rfl
    obtain rfl : a4 = [] := f4.resolve_left (by omega)
    obtain rfl : c5 = [] := p5.resolve_left (by omega)
    obtain ⟨s, hen⟩ := en6_good l1 s3 s5 s5' (fun es he x hx => (g5.2 es he).2 x hx) gx
    have hM : ∀ i, (a5.getD i []).length ≤ 2147483647 := by
      intro i
      by_cases hi : i < a5.length
      · rw [List.getD_eq_getElem?_getD, List.getElem?_eq_getElem hi]; exact s5' _ (List.getElem_mem hi)
      · rw [List.getD_eq_getElem?_getD, List.getElem?_eq_none (by omega)]; simp
    have hl6 := prts6_length a1 a3 a5 a5.length
    rw [parts6_is (k := i + 2) hen hM (by omega), sbind, apd_some (by simp only [List.length_singleton, hl6]; omega) (by simp only [List.length_singleton, hl6]; omega), sbind,
      of6_is (p := T27.mk 3 c1 c2 c3 c4 [] []) hen r3 r4 hM (by show a5.length + 2147483647 + c4.length + 2 < i + 2; omega), sbind]
    exact j5_is (push_polys (i + 1) a1 a2 c1 c2 a3 c3 c4 a5 [] [] l1 l2 s3 s5 s5' r3 r4 (fun x hx => h4.2 x hx) (by omega)) hco (k9 (i + 2) (by omega) ⟨s3, r3, s5, r4⟩)
  · have hK : a0 = 3 ∨ a0 = 4 ∨ a0 = 5 := by omega
    obtain rfl : a5 = [] := f5.resolve_left (by omega)
    obtain ⟨hkp, hkd⟩ := t1 hK
    have hcn : ¬ (c0 = 3 ∨ c0 = 4 ∨ c0 = 5) ∧ c0 ≠ 6 := by
      unfold kdOfP at hkp; repeat' split at hkp
      all_goals omega
    obtain rfl : c4 = [] := p4.resolve_left hcn.1
    obtain rfl : c5 = [] := p5.resolve_left hcn.2
    have hen := ens_good hK s4 l1 gx
    have hl := prts_length (kdOf a0) a1 a3 a4 a4.length
    rw [parts_is (k := i + 2) hK hen s3 s4 (by omega), sbind, apd_some (by simp only [List.length_singleton, hl]; omega) (by simp only [List.length_singleton, hl]; omega), sbind,
      of_is (p := T27.mk c0 c1 c2 c3 [] [] []) h6 hen s3 s4 r3 (kdOf a0) (by omega), sbind]
    subst hkp
    exact j5_is (push_rows (i + 1) a0 a1 a2 c1 c2 a3 c3 a4 [] [] [] hK l1 l2 s3 s4 r3 (by omega) (fun e he => by subst e; subst he; exact good_noends gx)) hco (k8 (i + 2) (by omega) ⟨s3, r3, s4⟩)
end Go.Proofs.Ytmagcmeknclljaa
