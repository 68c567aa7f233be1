/-
  impl.plain gives back what was built. Ours.
-/
import Derived.Test.YtmagcmeknclljaaPuBuild
namespace Go.Proofs.Ytmagcmeknclljaa
open Go.Sx
set_option linter.unusedVariables false
set_option linter.unusedSimpArgs false
set_option maxRecDepth 100000

theorem intsV (k : Nat) : impl_ints_v3 k = some [] := by
  unfold impl_ints_v3
  rw [apd_some (by decide) (by decide)]; rfl
theorem good_seven {x1 x2 : Int} {x3 : List Nat} {x4 : List Int} {x5 : List (List Int)} {x6 : List T27} {j : Nat} (h3 : x3.length * 8 ≤ 140737488351232) (h4 : x4.length * 8 ≤ 140737488351232) (h5 : x5.length * 24 ≤ 140737488351232) (h : spec_Good (j + 1) 7 x1 x2 x3 x4 x5 x6 = some true) : x3 = [] ∧ x4 = [] ∧ x5 = [] := by
  have hb : spec_Good_b (spec_Good j) j 7 x1 x2 x3 x4 x5 x6 = some true := h
  unfold spec_Good_b at hb
  rw [stride_is, sbind, decide_eq_true (show (7 : Int) = 7 from rfl), br_true] at hb
  cases hl : spec_Good_l2 x6 (spec_Good j) x1 j 0 with
  | none => rw [hl] at hb; cases hb
  | some r =>
    rw [hl, sbind] at hb
    cases r with
    | inl u => cases hb
    | inr u =>
      simp only [spec_Good_j1] at hb
      rw [iadd_i64 (a := (x3.length : Int)) (b := (x4.length : Int)) (by omega) (by omega), iadd_i64 (by omega) (by omega)] at hb
      by_cases h0 : 0 ≤ x1
      · rw [decide_eq_true h0, br_true] at hb
        have := of_decide_eq_true (Option.some.inj hb)
        exact ⟨List.length_eq_zero_iff.1 (by omega), List.length_eq_zero_iff.1 (by omega), List.length_eq_zero_iff.1 (by omega)⟩
      · rw [decide_eq_false h0, br_false] at hb; cases hb
theorem back_flat (j : Nat) (a0 a1 a2 : Int) (a3 : List Nat) (a4 : List Int) (a5 : List (List Int)) (h0 : a0 = 1 ∨ a0 = 2 ∨ a0 = 3 ∨ a0 = 4 ∨ a0 = 5 ∨ a0 = 6 ∨ a0 = 8)
    (h3 : a3.length * 8 ≤ 140737488351232) (h4 : a4.length * 8 ≤ 140737488351232) (h5 : a5.length * 24 ≤ 140737488351232) (h5' : ∀ x ∈ a5, x.length * 8 ≤ 140737488351232) (hk : a5.length < j)
    (f5 : a0 = 6 ∨ a5 = []) (f4 : (a0 = 3 ∨ a0 = 4 ∨ a0 = 5) ∨ a4 = []) :
    impl_plain_v6 (j + 1) (toG (flatOut a0 a1 a2 a3 a4 a5)) = some (a0, a1, a2, a3, a4, a5, []) := by
  have n5 : a0 ≠ 6 → a5 = [] := fun h => f5.resolve_left h
  have n4 : ¬ (a0 = 3 ∨ a0 = 4 ∨ a0 = 5) → a4 = [] := fun h => f4.resolve_left h
  have hf := floatsW j a3 h3
  have hii := intssW j a5 h5 h5' hk
  rcases h0 with rfl | rfl | rfl | rfl | rfl | rfl | rfl
  · obtain rfl := n5 (by decide); obtain rfl := n4 (by decide)
    show impl_plain_v6_b (impl_plain_v6 j) j (.c0 a1 (stri a1) a3 a2) = _
    unfold impl_plain_v6_b
    simp only [gogeom_geom0_SRID_v5, gogeom_geom0_Layout, gogeom_geom0_FlatCoords_v5, gogeom_geom0_Ends_v2, gogeom_geom0_Endss_v4, impl_intss_v2, hf, intsV, sbind]
  · obtain rfl := n5 (by decide); obtain rfl := n4 (by decide)
    show impl_plain_v6_b (impl_plain_v6 j) j (.c1 a1 (stri a1) a3 a2) = _
    unfold impl_plain_v6_b
    simp only [gogeom_geom0_SRID_v5, gogeom_geom0_Layout, gogeom_geom0_FlatCoords_v5, gogeom_geom0_Ends_v2, gogeom_geom0_Endss_v4, impl_intss_v2, hf, intsV, sbind]
  · obtain rfl := n5 (by decide)
    show impl_plain_v6_b (impl_plain_v6 j) j (.c3 a1 (stri a1) a3 a2 a4) = _
    unfold impl_plain_v6_b
    by_cases he : a4 = []
    · subst he
      simp only [gogeom_geom0_SRID_v6, gogeom_geom0_Layout_v2, gogeom_geom0_FlatCoords_v6, gogeom_geom2_Ends_v4, gogeom_geom0_Endss_v5, impl_intss_v2, hf, ints_nil, sbind]
    · simp only [gogeom_geom0_SRID_v6, gogeom_geom0_Layout_v2, gogeom_geom0_FlatCoords_v6, gogeom_geom2_Ends_v4, gogeom_geom0_Endss_v5, impl_intss_v2, hf, intsW j a4 h4 he, sbind]
  · obtain rfl := n5 (by decide)
    show impl_plain_v6_b (impl_plain_v6 j) j (.c4 a1 (stri a1) a3 a2 a4) = _
    unfold impl_plain_v6_b
    by_cases he : a4 = []
    · subst he
      simp only [gogeom_geom0_SRID_v6, gogeom_geom0_Layout_v2, gogeom_geom0_FlatCoords_v6, gogeom_geom2_Ends_v4, gogeom_geom0_Endss_v5, impl_intss_v2, hf, ints_nil, sbind]
    · simp only [gogeom_geom0_SRID_v6, gogeom_geom0_Layout_v2, gogeom_geom0_FlatCoords_v6, gogeom_geom2_Ends_v4, gogeom_geom0_Endss_v5, impl_intss_v2, hf, intsW j a4 h4 he, sbind]
  · obtain rfl := n5 (by decide)
    show impl_plain_v6_b (impl_plain_v6 j) j (.c5 a1 (stri a1) a3 a2 a4) = _
    unfold impl_plain_v6_b
    by_cases he : a4 = []
    · subst he
      simp only [gogeom_geom0_SRID_v6, gogeom_geom0_Layout_v2, gogeom_geom0_FlatCoords_v6, gogeom_geom2_Ends_v4, gogeom_geom0_Endss_v5, impl_intss_v2, hf, ints_nil, sbind]
    · simp only [gogeom_geom0_SRID_v6, gogeom_geom0_Layout_v2, gogeom_geom0_FlatCoords_v6, gogeom_geom2_Ends_v4, gogeom_geom0_Endss_v5, impl_intss_v2, hf, intsW j a4 h4 he, sbind]
  · obtain rfl := n4 (by decide)
    show impl_plain_v6_b (impl_plain_v6 j) j (.c6 a1 (stri a1) a3 a2 a5) = _
    unfold impl_plain_v6_b
    simp only [gogeom_geom0_SRID_v7, gogeom_geom0_Layout_v3, gogeom_geom0_FlatCoords_v7, gogeom_geom0_Ends_v3, gogeom_geom3_Endss_v2, hf, hii, intsV, sbind]
  · obtain rfl := n5 (by decide); obtain rfl := n4 (by decide)
    show impl_plain_v6_b (impl_plain_v6 j) j (.c2 a1 (stri a1) a3 a2) = _
    unfold impl_plain_v6_b
    simp only [gogeom_geom0_SRID_v5, gogeom_geom0_Layout, gogeom_geom0_FlatCoords_v5, gogeom_geom0_Ends_v2, gogeom_geom0_Endss_v4, impl_intss_v2, hf, intsV, sbind]
/-- a loop over the kids that were built -/
theorem back_step {F : Nat → (List T27) × Int → Option (List T27)} (x6 : List T27) (h6 : x6.length * 120 ≤ 140737488351232) (K : Nat)
    (step : ∀ k (i : Nat) (hi : i < x6.length), K ≤ k → F (k + 1) (x6.take i, (i : Int)) = ((apd 120 (x6.take i) [x6[i]]) >>= fun r => F k (r, iadd .i64 (i : Int) 1)))
    (stop : ∀ k s, F (k + 1) (s, (x6.length : Int)) = some s) (k : Nat) (hk : x6.length + K < k) : F k ([], 0) = some x6 := by
  obtain ⟨y, hy, rfl⟩ := loop_inv (F := F) K (fun m p => p = (x6.take (x6.length - m), ((x6.length - m : Nat) : Int)) ∧ m ≤ x6.length) (fun y => y = x6) (by
    intro k m p hK hI
    obtain ⟨hp, hml⟩ := hI
    subst hp
    by_cases e : m = 0
    · subst e
      exact .inl ⟨_, stop k _, by simp⟩
    · have hi : x6.length - m < x6.length := by omega
      refine .inr ⟨m - 1, (x6.take (x6.length - (m - 1)), ((x6.length - (m - 1) : Nat) : Int)), by omega, ⟨rfl, by omega⟩, ?_⟩
      rw [step k _ hi hK, apd_some (by simp; omega) (by simp; omega), sbind, iadd_one (by omega)]
      have hc : x6.length - (m - 1) = x6.length - m + 1 := by omega
      have ht : x6.take (x6.length - m) ++ [x6[x6.length - m]] = x6.take (x6.length - m + 1) := by
        rw [List.take_add_one, List.getElem?_eq_getElem hi]; rfl
      rw [hc, ht]) x6.length ([], 0) k ⟨by simp, Nat.le_refl _⟩ (by omega)
  exact hy
theorem back_is {x : T27} (hx : x.OkW) : ∃ K, ∀ k, K ≤ k → (∃ j, spec_Good (j + 1) x.f0 x.f1 x.f2 x.f3 x.f4 x.f5 x.f6 = some true) → impl_plain_v6 k (GO x) = some (x.f0, x.f1, x.f2, x.f3, x.f4, x.f5, x.f6) := by
  induction hx with
  | @mk x0 x1 x2 x3 x4 x5 x6 g0 g1 g2 g3 g4 g5 g6 gk ih =>
    have hx : maxLen = 9223372036854775807 := rfl
    obtain ⟨K, hK⟩ := all_bound x6 ih
    refine ⟨K + x6.length + x5.length + 3, fun k hk => ?_⟩
    obtain ⟨j, rfl⟩ : ∃ j, k = j + 1 := ⟨k - 1, by omega⟩
    rintro ⟨q, hg⟩
    replace hg : spec_Good (q + 1) x0 x1 x2 x3 x4 x5 x6 = some true := hg
    show _ = some (x0, x1, x2, x3, x4, x5, x6)
    rw [GO_mk]
    by_cases h7 : x0 = 7
    · subst h7
      rw [if_pos rfl]
      obtain ⟨rfl, rfl, rfl⟩ := good_seven g3.1 g4.1 g5.1 hg
      have hkid := good_kids (by omega) hg
      have hl : impl_plain_v6_l1 (x6.map GO) (impl_plain_v6 j) j ([], 0) = some x6 := by
        refine back_step (F := impl_plain_v6_l1 (x6.map GO) (impl_plain_v6 j)) x6 g6 0 (fun k i hi _ => ?_) (fun k s => ?_) j (by omega)
        · show impl_plain_v6_l1s (x6.map GO) (impl_plain_v6 j) k (impl_plain_v6_l1 (x6.map GO) (impl_plain_v6 j) k) (x6.take i) (i : Int) = _
          unfold impl_plain_v6_l1s
          rw [decide_eq_true (by rw [List.length_map]; omega), br_true, idx_get (by rw [List.length_map]; exact hi), sbind, List.getElem_map, hK j (by omega) x6[i] (List.getElem_mem hi) (hkid i hi).1, sbind]
          cases x6[i]; rfl
        · show impl_plain_v6_l1s (x6.map GO) (impl_plain_v6 j) k (impl_plain_v6_l1 (x6.map GO) (impl_plain_v6 j) k) s (x6.length : Int) = _
          unfold impl_plain_v6_l1s
          rw [decide_eq_false (by rw [List.length_map]; omega), br_false]
      show impl_plain_v6_b (impl_plain_v6 j) j (.c7 x1 (x6.map GO) x2) = _
      unfold impl_plain_v6_b
      simp only [gogeom_GeometryCollection_SRID_v2, gogeom_DoorLayout_v2, gogeom_GeometryCollection_Geoms_v2, hl, sbind]
    · rw [if_neg h7]
      obtain ⟨rfl, f5, f4⟩ := good_form hg h7
      have hk0 : x0 = 1 ∨ x0 = 2 ∨ x0 = 3 ∨ x0 = 4 ∨ x0 = 5 ∨ x0 = 6 ∨ x0 = 8 := by
        by_cases hc : x0 = 1 ∨ x0 = 2 ∨ x0 = 3 ∨ x0 = 4 ∨ x0 = 5 ∨ x0 = 6 ∨ x0 = 8
        · exact hc
        · rw [good_kind x0 x1 x2 x3 x4 x5 [] q (by omega)] at hg; cases hg
      exact back_flat j x0 x1 x2 x3 x4 x5 hk0 g3.1 g4.1 g5.1 (fun y hy => (g5.2 y hy).1) (by omega) f5 f4
end Go.Proofs.Ytmagcmeknclljaa
