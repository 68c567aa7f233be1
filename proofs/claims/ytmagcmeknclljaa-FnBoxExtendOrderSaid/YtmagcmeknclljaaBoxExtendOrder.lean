/-
  A box that is extended by two geometries is the same in either order: the plain statement. Ours.
-/
import Derived.Test.YtmagcmeknclljaaBoxExtendAll
namespace Go.Proofs.Ytmagcmeknclljaa
open Go.Sx
set_option linter.unusedVariables false
set_option linter.unusedSimpArgs false
set_option maxRecDepth 100000

theorem small_tot (l : List T27) (hl : l.length < 1000) (hx : ∀ x ∈ l, x.Ok) : ∃ K, ∀ k, K ≤ k → ∃ b, laws_gSmall k l = some b := by
  obtain ⟨K1, h1⟩ := all_bound l fun x hm => weight_tot (hx x hm)
  obtain ⟨K2, h2⟩ := all_bound l fun x hm => layouts_tot (hx x hm)
  refine ⟨K1 + K2 + 1005, fun k hk => ?_⟩
  unfold laws_gSmall
  obtain ⟨y, hy, _⟩ := for_tot (F := laws_gSmall_l1 l) l (by simp [maxLen]; omega) (K1 + K2) (fun _ => True) (fun k s i hi hb hkm => by
    have hs : laws_gSmall_l1 l (k + 1) (s, (i : Int)) = laws_gSmall_l1s l k (laws_gSmall_l1 l k) s (i : Int) := rfl
    rw [hs]
    unfold laws_gSmall_l1s
    obtain ⟨w, hw⟩ := h1 k (by omega) l[i] (List.getElem_mem hi) s
    obtain ⟨z, hz⟩ := h2 k (by omega) l[i] (List.getElem_mem hi) 9
    rw [decide_eq_true (by omega), br_true, idx_get hi, sbind]
    rw [hw, sbind, hz, sbind]
    simp only [laws_gSmall_j2, iadd_one hb, br_if]
    repeat' split
    all_goals first | exact .inl ⟨_, rfl, trivial⟩ | exact .inr ⟨_, rfl⟩) (fun k s _ => by
    refine ⟨.inr (), ?_, trivial⟩
    show laws_gSmall_l1s l k (laws_gSmall_l1 l k) s (l.length : Int) = _
    unfold laws_gSmall_l1s
    rw [decide_eq_false (by simp), br_false]) 2000 k (by omega)
  rw [hy, sbind]
  cases y <;> exact ⟨_, rfl⟩

/-- one geometry -/
theorem add_one {x0 x1 x2 : Int} {x3 : List Nat} {x4 : List Int} {x5 : List (List Int)} {x6 : List T27} (hx : (T27.mk x0 x1 x2 x3 x4 x5 x6).Ok) (h3 : x3.length ≤ 2147483647) (h4 : x4.length ≤ 2147483647) (h5 : x5.length ≤ 2147483647) (h5' : ∀ x ∈ x5, x.length ≤ 2147483647)
    (l : List T27) (i : Nat) (hi : i < l.length) (hl : l.length < 1000) (he : l[i] = T27.mk x0 x1 x2 x3 x4 x5 x6) :
    ∃ K, ∀ k, K ≤ k → laws_bAdds_l1 l (k + 1) (i : Int) = some (.inl ()) ∨ (laws_bAdds_l1 l (k + 1) (i : Int) = laws_bAdds_l1 l k ((i + 1 : Nat) : Int) ∧ GX x0 x1 x3 x4 x5 ∧ x6 = []) := by
  obtain ⟨K, hK⟩ := gPlain_is hx
  refine ⟨K + x3.length + 10, fun k hk => ?_⟩
  obtain ⟨k, rfl⟩ : ∃ j, k = j + 2 := ⟨k - 2, by omega⟩
  have hs : laws_bAdds_l1 l (k + 2 + 1) (i : Int) = laws_bAdds_l1s l (k + 2) (laws_bAdds_l1 l (k + 2)) (i : Int) := rfl
  rw [hs]
  unfold laws_bAdds_l1s
  rw [lt_true hi, br_true, idx_get hi, sbind, he]
  obtain ⟨p, hp, hpt⟩ := hK (k + 2) (by omega)
  have hp' : laws_gPlain (k + 2) (T27.mk x0 x1 x2 x3 x4 x5 x6).f0 (T27.mk x0 x1 x2 x3 x4 x5 x6).f1 (T27.mk x0 x1 x2 x3 x4 x5 x6).f2 (T27.mk x0 x1 x2 x3 x4 x5 x6).f3 (T27.mk x0 x1 x2 x3 x4 x5 x6).f4 (T27.mk x0 x1 x2 x3 x4 x5 x6).f5 (T27.mk x0 x1 x2 x3 x4 x5 x6).f6 = some p := hp
  rw [hp', sbind]
  unfold laws_bAdds_j3 laws_bAdds_j4
  cases p with
  | false => exact .inl rfl
  | true =>
    rw [Bool.not_true, br_false]
    obtain ⟨hkd, hst, j, hg⟩ := hpt rfl
    have h7 : x0 ≠ 7 := by omega
    obtain ⟨rfl, f5, f4⟩ := good_form hg h7
    obtain ⟨b, b1, b2⟩ := layouts_is k x0 x1 x2 x3 x4 x5 h7
    have b1' : laws_gLayouts (k + 2) (T27.mk x0 x1 x2 x3 x4 x5 []).f0 (T27.mk x0 x1 x2 x3 x4 x5 []).f1 (T27.mk x0 x1 x2 x3 x4 x5 []).f2 (T27.mk x0 x1 x2 x3 x4 x5 []).f3 (T27.mk x0 x1 x2 x3 x4 x5 []).f4 (T27.mk x0 x1 x2 x3 x4 x5 []).f5 (T27.mk x0 x1 x2 x3 x4 x5 []).f6 4 = some b := b1
    rw [b1', sbind]
    cases b with
    | false => exact .inl rfl
    | true =>
      rw [Bool.not_true, br_false]
      obtain ⟨c, c1, c2⟩ := each_is x3 h3 (k + 2) (by omega) x0 x1 x2 x4 x5
      have c1' : laws_gEach (k + 2) (T27.mk x0 x1 x2 x3 x4 x5 []).f0 (T27.mk x0 x1 x2 x3 x4 x5 []).f1 (T27.mk x0 x1 x2 x3 x4 x5 []).f2 (T27.mk x0 x1 x2 x3 x4 x5 []).f3 (T27.mk x0 x1 x2 x3 x4 x5 []).f4 (T27.mk x0 x1 x2 x3 x4 x5 []).f5 (T27.mk x0 x1 x2 x3 x4 x5 []).f6 = some c := c1
      rw [c1', sbind]
      cases c with
      | false => exact .inl rfl
      | true =>
        rw [Bool.not_true, br_false, iadd_one (show i < 9223372036854775807 by omega)]
        refine .inr ⟨rfl, ⟨hkd, (b2 rfl).1, (b2 rfl).2, h3, h4, h5, h5', f5, f4, fun e1 e2 => ?_, c2 rfl, ?_⟩, rfl⟩
        · subst e1 e2; exact good_noends hg
        · have := good_mod hg h7 hst
          have hpos : (0 : Int) ≤ (x3.length : Int) := by omega
          rw [Int.tmod_eq_emod_of_nonneg hpos] at this
          exact this

theorem fact_FnBoxExtendOrder (b0 : Int) (b1 b2 : List Nat) (a0 a1 a2 : Int) (a3 : List Nat) (a4 : List Int) (a5 : List (List Int)) (a6 : List T27) (c0 c1 c2 : Int) (c3 : List Nat) (c4 : List Int) (c5 : List (List Int)) (c6 : List T27) {p : Prop} (gb : p)
    (g : (IntKind.min .i64 ≤ a0 ∧ a0 ≤ IntKind.max .i64) ∧ (IntKind.min .i64 ≤ a1 ∧ a1 ≤ IntKind.max .i64) ∧ (IntKind.min .i64 ≤ a2 ∧ a2 ≤ IntKind.max .i64) ∧ (a3.length ≤ maxLen ∧ ∀ y ∈ a3, y < 18446744073709551616) ∧ (a4.length ≤ maxLen ∧ ∀ y ∈ a4, IntKind.min .i64 ≤ y ∧ y ≤ IntKind.max .i64) ∧ (a5.length ≤ maxLen ∧ ∀ x ∈ a5, x.length ≤ maxLen ∧ ∀ y ∈ x, IntKind.min .i64 ≤ y ∧ y ≤ IntKind.max .i64) ∧ (a6.length ≤ maxLen ∧ ∀ y ∈ a6, T27.Ok y))
    (h : (IntKind.min .i64 ≤ c0 ∧ c0 ≤ IntKind.max .i64) ∧ (IntKind.min .i64 ≤ c1 ∧ c1 ≤ IntKind.max .i64) ∧ (IntKind.min .i64 ≤ c2 ∧ c2 ≤ IntKind.max .i64) ∧ (c3.length ≤ maxLen ∧ ∀ y ∈ c3, y < 18446744073709551616) ∧ (c4.length ≤ maxLen ∧ ∀ y ∈ c4, IntKind.min .i64 ≤ y ∧ y ≤ IntKind.max .i64) ∧ (c5.length ≤ maxLen ∧ ∀ x ∈ c5, x.length ≤ maxLen ∧ ∀ y ∈ x, IntKind.min .i64 ≤ y ∧ y ≤ IntKind.max .i64) ∧ (c6.length ≤ maxLen ∧ ∀ y ∈ c6, T27.Ok y)) :
    ∃ k, laws_FnBoxExtendOrder k b0 b1 b2 a0 a1 a2 a3 a4 a5 a6 c0 c1 c2 c3 c4 c5 c6 = some true := by
  have gO : (T27.mk a0 a1 a2 a3 a4 a5 a6).Ok := by
    obtain ⟨g0, g1, g2, g3, g4, g5, g6, gk⟩ := g
    exact T27.Ok.mk g0 g1 g2 g3 g4 g5 g6 gk
  have hO : (T27.mk c0 c1 c2 c3 c4 c5 c6).Ok := by
    obtain ⟨g0, g1, g2, g3, g4, g5, g6, gk⟩ := h
    exact T27.Ok.mk g0 g1 g2 g3 g4 g5 g6 gk
  by_cases big : a3.length ≤ 2147483647 ∧ a4.length ≤ 2147483647 ∧ a5.length ≤ 2147483647 ∧ (∀ x ∈ a5, x.length ≤ 2147483647) ∧ c3.length ≤ 2147483647 ∧ c4.length ≤ 2147483647 ∧ c5.length ≤ 2147483647 ∧ (∀ x ∈ c5, x.length ≤ 2147483647)
  · obtain ⟨e3, e4, e5, e6, d3, d4, d5, d6⟩ := big
    obtain ⟨K1, k1⟩ := add_one gO e3 e4 e5 e6 [T27.mk a0 a1 a2 a3 a4 a5 a6, T27.mk c0 c1 c2 c3 c4 c5 c6] 0 (by simp) (by simp) rfl
    obtain ⟨K2, k2⟩ := add_one hO d3 d4 d5 d6 [T27.mk a0 a1 a2 a3 a4 a5 a6, T27.mk c0 c1 c2 c3 c4 c5 c6] 1 (by simp) (by simp) rfl
    obtain ⟨K3, k3⟩ := small_tot [T27.mk a0 a1 a2 a3 a4 a5 a6, T27.mk c0 c1 c2 c3 c4 c5 c6] (by simp) (by
      intro x hx
      simp only [List.mem_cons, List.not_mem_nil, or_false] at hx
      rcases hx with rfl | rfl
      · exact gO
      · exact hO)
    refine ⟨K1 + K2 + K3 + a3.length + c3.length + a5.length + c5.length + 1000, ?_⟩
    generalize hk : K1 + K2 + K3 + a3.length + c3.length + a5.length + c5.length + 1000 = k
    unfold laws_FnBoxExtendOrder
    obtain ⟨t, ht, ht'⟩ := bfits1_is k b0 b1 b2
    rw [ht, sbind]
    obtain ⟨u, hu, _⟩ := fits2_is k a0 a1 a2 a3 a4 a5 a6 (by simp [maxLen]; omega) (by omega)
    obtain ⟨w, hw, _⟩ := fits2_is k c0 c1 c2 c3 c4 c5 c6 (by simp [maxLen]; omega) (by omega)
    have skip : laws_FnBoxExtendOrder_j2 k b0 b1 b2 a0 a1 a2 a3 a4 a5 a6 c0 c1 c2 c3 c4 c5 c6 true = some true := rfl
    cases t with
    | false => exact skip
    | true =>
      rw [Bool.not_true, br_false, hu, sbind]
      unfold laws_FnBoxExtendOrder_j1
      cases u with
      | false => exact skip
      | true =>
        rw [Bool.not_true, br_false, hw, sbind]
        cases w with
        | false => exact skip
        | true =>
          rw [Bool.not_true]
          unfold laws_FnBoxExtendOrder_j2
          rw [br_false]
          obtain ⟨bb, hbb, hgb⟩ := bBox_is k [(b0, b1, b2)] (by simp) (by simp; omega)
          rw [hbb, sbind]
          have skip3 : laws_FnBoxExtendOrder_j4 k b0 b1 b2 a0 a1 a2 a3 a4 a5 a6 c0 c1 c2 c3 c4 c5 c6 true = some true := rfl
          unfold laws_FnBoxExtendOrder_j3
          cases bb with
          | false => exact skip3
          | true =>
            rw [Bool.not_true, br_false]
            by_cases h4 : 4 < b0
            · rw [decide_eq_true h4]; exact skip3
            · rw [decide_eq_false h4, br_false]
              have tot : ∃ r, laws_bAdds k [T27.mk a0 a1 a2 a3 a4 a5 a6, T27.mk c0 c1 c2 c3 c4 c5 c6] = some r ∧ (r = true → (GX a0 a1 a3 a4 a5 ∧ a6 = []) ∧ GX c0 c1 c3 c4 c5 ∧ c6 = []) := by
                obtain ⟨j, rfl⟩ : ∃ j, k = j + 3 := ⟨k - 3, by omega⟩
                obtain ⟨s, hs⟩ := k3 (j + 3) (by omega)
                unfold laws_bAdds
                have q1 := k1 (j + 2) (by omega)
                have q2 := k2 (j + 1) (by omega)
                have q3 : laws_bAdds_l1 [T27.mk a0 a1 a2 a3 a4 a5 a6, T27.mk c0 c1 c2 c3 c4 c5 c6] (j + 1) ((1 + 1 : Nat) : Int) = some (.inr ()) := rfl
                rcases q1 with q1 | ⟨q1, v1⟩
                · rw [show laws_bAdds_l1 [T27.mk a0 a1 a2 a3 a4 a5 a6, T27.mk c0 c1 c2 c3 c4 c5 c6] (j + 3) 0 = some (.inl ()) from q1, sbind]
                  exact ⟨false, rfl, fun h => by cases h⟩
                · rw [show laws_bAdds_l1 [T27.mk a0 a1 a2 a3 a4 a5 a6, T27.mk c0 c1 c2 c3 c4 c5 c6] (j + 3) 0 = _ from q1]
                  rcases q2 with q2 | ⟨q2, v2⟩
                  · rw [show laws_bAdds_l1 [T27.mk a0 a1 a2 a3 a4 a5 a6, T27.mk c0 c1 c2 c3 c4 c5 c6] (j + 2) ((0 + 1 : Nat) : Int) = some (.inl ()) from q2, sbind]
                    exact ⟨false, rfl, fun h => by cases h⟩
                  · rw [show laws_bAdds_l1 [T27.mk a0 a1 a2 a3 a4 a5 a6, T27.mk c0 c1 c2 c3 c4 c5 c6] (j + 2) ((0 + 1 : Nat) : Int) = _ from q2, q3, sbind]
                    simp only [hs, Option.bind_eq_bind, Option.bind_some]
                    exact ⟨s, rfl, fun _ => ⟨v1, v2⟩⟩
              obtain ⟨r, hr, hr'⟩ := tot
              rw [hr, sbind]
              unfold laws_FnBoxExtendOrder_j4
              cases r with
              | false => rfl
              | true =>
                rw [Bool.not_true, br_false]
                obtain ⟨⟨gx, rfl⟩, hx, rfl⟩ := hr' rfl
                -- the box
                obtain ⟨w0, w9, w1, w2, w3⟩ := hgb rfl (b0, b1, b2) (by simp)
                have hst := w1 0 (stri b0) (stride_is 0 b0)
                have nn : ∀ x, feq x x = true → isn x = false := fun x hx => by
                  cases hq : isn x with
                  | false => rfl
                  | true =>
                    exfalso
                    have := order_nan (x := x) (y := x) (.inl hq)
                    unfold feq at hx
                    rw [this] at hx
                    cases hx
                have bx : BX b0 b1 b2 := by
                  simp only at w0 w1 w2 w3 hst
                  refine ⟨w0, by omega, hst, by omega, fun q hq => ?_, fun q hq => ?_⟩
                  · have := w3 q hq
                    unfold nanAt at this
                    simp only [Bool.or_eq_false_iff, Bool.not_eq_false'] at this
                    exact nn _ this.1
                  · have := w3 q (by omega)
                    unfold nanAt at this
                    simp only [Bool.or_eq_false_iff, Bool.not_eq_false'] at this
                    exact nn _ this.2
                obtain ⟨j, rfl⟩ : ∃ j, k = j + 1 := ⟨k - 1, by omega⟩
                obtain ⟨m1, n1, i1, x1, y1, z1⟩ := boxExtend_is j bx a0 a1 a2 a3 a4 a5 gx (by omega)
                obtain ⟨m2, n2, i2, x2, y2, z2⟩ := boxExtend_is j x1 c0 c1 c2 c3 c4 c5 hx (by omega)
                obtain ⟨m3, n3, i3, x3, y3, z3⟩ := boxExtend_is j bx c0 c1 c2 c3 c4 c5 hx (by omega)
                obtain ⟨m4, n4, i4, x4, y4, z4⟩ := boxExtend_is j x3 a0 a1 a2 a3 a4 a5 gx (by omega)
                simp only [i1, i2, i3, i4, Option.bind_eq_bind, Option.bind_some, br_true]
                have hcc := cov_comm (L := b0) bx.lo bx.hi gx.lo gx.hi hx.lo hx.hi
                rw [← hcc] at x4 y4 z4 ⊢
                have sb := sameBox_is (a := m2) (b := n2) (c := m4) (d := n4) x2 x4 (fun q => by rw [y2, y4, y1, y3]; exact fold_comm lmin_comm3 _ _ _) (fun q => by rw [z2, z4, z1, z3]; exact fold_comm lmax_comm3 _ _ _) (j + 1) (by omega)
                simp only [laws_FnBoxExtendOrder_j5, laws_FnBoxExtendOrder_j6, laws_FnBoxExtendOrder_j7, laws_FnBoxExtendOrder_j8, br_true, sb, Option.bind_eq_bind, Option.bind_some]
  · -- too large: nothing is asked
    refine ⟨a5.length + c5.length + 10, ?_⟩
    unfold laws_FnBoxExtendOrder
    obtain ⟨t, ht, ht'⟩ := bfits1_is (a5.length + c5.length + 10) b0 b1 b2
    rw [ht, sbind]
    have skip : laws_FnBoxExtendOrder_j2 (a5.length + c5.length + 10) b0 b1 b2 a0 a1 a2 a3 a4 a5 a6 c0 c1 c2 c3 c4 c5 c6 true = some true := rfl
    obtain ⟨u, hu, hu'⟩ := fits2_is (a5.length + c5.length + 10) a0 a1 a2 a3 a4 a5 a6 g.2.2.2.2.2.1.1 (by omega)
    obtain ⟨w, hw, hw'⟩ := fits2_is (a5.length + c5.length + 10) c0 c1 c2 c3 c4 c5 c6 h.2.2.2.2.2.1.1 (by omega)
    cases t with
    | false => exact skip
    | true =>
      rw [Bool.not_true, br_false, hu, sbind]
      unfold laws_FnBoxExtendOrder_j1
      cases u with
      | false => exact skip
      | true =>
        rw [Bool.not_true, br_false, hw, sbind]
        cases w with
        | false => exact skip
        | true =>
          obtain ⟨r1, r2, r3, r4, _⟩ := hu' rfl
          obtain ⟨s1, s2, s3, s4, _⟩ := hw' rfl
          exact absurd ⟨r1, r2, r3, r4, s1, s2, s3, s4⟩ big
end Go.Proofs.Ytmagcmeknclljaa
