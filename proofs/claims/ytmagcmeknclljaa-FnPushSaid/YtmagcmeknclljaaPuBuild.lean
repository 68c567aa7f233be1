/-
  impl.geometry of good plain geometries, with kids. Ours.
-/
import Derived.Test.YtmagcmeknclljaaPuKids
namespace Go.Proofs.Ytmagcmeknclljaa
open Go.Sx
set_option linter.unusedVariables false
set_option linter.unusedSimpArgs false
set_option maxRecDepth 100000

theorem good_kind (x0 x1 x2 : Int) (x3 : List Nat) (x4 : List Int) (x5 : List (List Int)) (x6 : List T27) (j : Nat) (h : x0 ≠ 1 ∧ x0 ≠ 2 ∧ x0 ≠ 3 ∧ x0 ≠ 4 ∧ x0 ≠ 5 ∧ x0 ≠ 6 ∧ x0 ≠ 7 ∧ x0 ≠ 8) : spec_Good (j + 1) x0 x1 x2 x3 x4 x5 x6 = some false := by
  obtain ⟨h1, h2, h3, h4, h5, h6, h7, h8⟩ := h
  show spec_Good_b (spec_Good j) j x0 x1 x2 x3 x4 x5 x6 = some false
  unfold spec_Good_b
  have key : ∀ b, spec_Good_j2 j x0 x4 x3 (stri x1) x5 x6 b = some false := by
    intro b
    simp only [spec_Good_j2, spec_Good_j3, spec_Good_j4, spec_Good_j5, spec_Good_j7, spec_Good_j8, decide_eq_false h1, decide_eq_false h2, decide_eq_false h3, decide_eq_false h4, decide_eq_false h5, decide_eq_false h6, decide_eq_false h8, br_false, br_true, br_same]
  rw [stride_is, sbind, decide_eq_false h7, br_false]
  by_cases hs : stri x1 = 0
  · rw [decide_eq_true hs, br_true]; exact key true
  · have : irem (x3.length : Int) (stri x1) = some ((x3.length : Int).tmod (stri x1)) := by unfold irem; rw [if_neg hs]
    rw [decide_eq_false hs, br_false, this, sbind]; exact key _

/-- a multi point without ends has no numbers -/
theorem good_noends {x1 x2 : Int} {x3 : List Nat} {x5 : List (List Int)} {x6 : List T27} {j : Nat} (h : spec_Good (j + 1) 4 x1 x2 x3 [] x5 x6 = some true) : x3 = [] := by
  have hb : spec_Good_b (spec_Good j) j 4 x1 x2 x3 [] x5 x6 = some true := h
  unfold spec_Good_b at hb
  rw [stride_is, sbind, decide_eq_false (show ¬ ((4 : Int) = 7) by decide), br_false] at hb
  have hj : ∃ b, spec_Good_j2 j 4 [] x3 (stri x1) x5 x6 b = some true := by
    by_cases hs : stri x1 = 0
    · rw [decide_eq_true hs, br_true] at hb; exact ⟨_, hb⟩
    · have : irem (x3.length : Int) (stri x1) = some ((x3.length : Int).tmod (stri x1)) := by unfold irem; rw [if_neg hs]
      rw [decide_eq_false hs, br_false, this, sbind] at hb
      exact ⟨_, hb⟩
  obtain ⟨b, hj⟩ := hj
  have k5 : ∀ b, spec_Good_j5 j 4 [] x3 (stri x1) x5 b = some true → x3 = [] := by
    intro b hh
    cases b
    · have hh' : spec_Good_j8 j [] (stri x1) 4 x3 x5 true = some true := hh
      unfold spec_Good_j8 at hh'
      rw [br_true] at hh'
      cases j with
      | zero => cases hh'
      | succ j =>
        have he : spec_goodEnds (j + 1) [] 0 (stri x1) (decide ((4 : Int) = 4)) = some (0, true) := rfl
        rw [he, sbind] at hh'
        have : some (decide ((0 : Int) = (x3.length : Int))) = some true := hh'
        have := of_decide_eq_true (Option.some.inj this)
        exact List.length_eq_zero_iff.1 (by omega)
    · cases hh
  have k3 : ∀ b, spec_Good_j3 j 4 [] x3 (stri x1) x5 b = some true → x3 = [] := by
    intro b hh
    unfold spec_Good_j3 spec_Good_j4 at hh
    cases b
    · rw [br_false] at hh
      cases hd : decide (0 < (x5.length : Int))
      · rw [hd, br_false] at hh; exact k5 _ hh
      · rw [hd, br_true] at hh; exact k5 _ hh
    · rw [br_true] at hh; exact k5 _ hh
  unfold spec_Good_j2 at hj
  cases b
  · rw [br_false] at hj; exact k3 _ hj
  · rw [br_true] at hj; exact k3 _ hj
theorem good_str {x0 x1 x2 : Int} {x3 : List Nat} {x4 : List Int} {x5 : List (List Int)} {x6 : List T27} {j : Nat} (h : spec_Good (j + 1) x0 x1 x2 x3 x4 x5 x6 = some true) (h7 : x0 ≠ 7) : 1 ≤ x1 := by
  have hb : spec_Good_b (spec_Good j) j x0 x1 x2 x3 x4 x5 x6 = some true := h
  unfold spec_Good_b at hb
  rw [stride_is, sbind, decide_eq_false h7, br_false] at hb
  refine stri_pos fun hs => ?_
  rw [decide_eq_true hs, br_true] at hb
  cases hb
theorem good_loop (x6 : List T27) (recf : Int → Int → Int → List Nat → List Int → List (List Int) → List T27 → Option Bool) (a1 : Int) (hm : x6.length ≤ maxLen) :
    ∀ k (i : Nat), i ≤ x6.length → spec_Good_l2 x6 recf a1 k (i : Int) = some (.inr ()) → ∀ m (hm : m < x6.length), i ≤ m → recf x6[m].f0 x6[m].f1 x6[m].f2 x6[m].f3 x6[m].f4 x6[m].f5 x6[m].f6 = some true ∧ (a1 ≠ 0 → ∃ q, spec_LayoutOf q x6[m].f0 x6[m].f1 x6[m].f2 x6[m].f3 x6[m].f4 x6[m].f5 x6[m].f6 = some a1)
  | 0, _, _, h, _, _, _ => by cases h
  | k + 1, i, hi, h, m, hml, him => by
    have h' : spec_Good_l2s x6 recf a1 k (spec_Good_l2 x6 recf a1 k) (i : Int) = some (.inr ()) := h
    unfold spec_Good_l2s at h'
    have hx : maxLen = 9223372036854775807 := rfl
    have e : i < x6.length := by omega
    rw [decide_eq_true (by omega), br_true, idx_get e, sbind] at h'
    cases hv : recf x6[i].f0 x6[i].f1 x6[i].f2 x6[i].f3 x6[i].f4 x6[i].f5 x6[i].f6 with
    | none => rw [hv] at h'; cases h'
    | some v =>
      rw [hv, sbind] at h'
      cases v with
      | false => cases h'
      | true =>
        rw [Bool.not_true, br_false] at h'
        have hn : (a1 ≠ 0 → ∃ q, spec_LayoutOf q x6[i].f0 x6[i].f1 x6[i].f2 x6[i].f3 x6[i].f4 x6[i].f5 x6[i].f6 = some a1) ∧ spec_Good_l2 x6 recf a1 k ((i + 1 : Nat) : Int) = some (.inr ()) := by
          by_cases h0 : a1 = 0
          · rw [decide_eq_true h0, Bool.not_true, br_false] at h'
            unfold spec_Good_j15 spec_Good_j16 at h'
            rw [br_false, iadd_one (by omega)] at h'
            exact ⟨fun hh => absurd h0 hh, h'⟩
          · rw [decide_eq_false h0, Bool.not_false, br_true] at h'
            cases hq : spec_LayoutOf k x6[i].f0 x6[i].f1 x6[i].f2 x6[i].f3 x6[i].f4 x6[i].f5 x6[i].f6 with
            | none => rw [hq] at h'; cases h'
            | some w =>
              rw [hq, sbind] at h'
              unfold spec_Good_j15 spec_Good_j16 at h'
              by_cases hw : w = a1
              · rw [decide_eq_true hw, Bool.not_true, br_false, iadd_one (by omega)] at h'
                subst hw
                exact ⟨fun _ => ⟨k, hq⟩, h'⟩
              · rw [decide_eq_false hw, Bool.not_false, br_true] at h'; cases h'
        by_cases hem : m = i
        · subst hem; exact ⟨hv, hn.1⟩
        · exact good_loop x6 recf a1 hm k (i + 1) e hn.2 m hml (by omega)
theorem good_kids {x1 x2 : Int} {x3 : List Nat} {x4 : List Int} {x5 : List (List Int)} {x6 : List T27} {j : Nat} (hm : x6.length ≤ maxLen) (h : spec_Good (j + 1) 7 x1 x2 x3 x4 x5 x6 = some true) :
    ∀ m (hm : m < x6.length), (∃ q, spec_Good (q + 1) x6[m].f0 x6[m].f1 x6[m].f2 x6[m].f3 x6[m].f4 x6[m].f5 x6[m].f6 = some true) ∧ (x1 ≠ 0 → ∃ q, spec_LayoutOf q x6[m].f0 x6[m].f1 x6[m].f2 x6[m].f3 x6[m].f4 x6[m].f5 x6[m].f6 = some x1) := by
  intro m hml
  have hb : spec_Good_b (spec_Good j) j 7 x1 x2 x3 x4 x5 x6 = some true := h
  unfold spec_Good_b at hb
  rw [stride_is, sbind, decide_eq_true (show (7 : Int) = 7 from rfl), br_true] at hb
  cases hl : spec_Good_l2 x6 (spec_Good j) x1 j 0 with
  | none => rw [hl] at hb; cases hb
  | some r =>
    rw [hl, sbind] at hb
    cases r with
    | inl u => cases hb
    | inr u =>
      obtain ⟨ha, hc⟩ := good_loop x6 (spec_Good j) x1 hm j 0 (Nat.zero_le _) hl m hml (Nat.zero_le _)
      refine ⟨?_, hc⟩
      cases j with
      | zero => cases ha
      | succ q => exact ⟨q, ha⟩
theorem push_is (k : Nat) (kids : List G53) (a2 : Int) (g : G53) (h : (kids.length + 1) * 16 ≤ 140737488351232) : gogeom_GeometryCollection_MustPush_v2 k 0 kids a2 [g] = some (0, kids ++ [g], a2) := by
  unfold gogeom_GeometryCollection_MustPush_v2 gogeom_GeometryCollection_Push_v2 gogeom_GeometryCollection_Push_v2_j1
  rw [decide_eq_true rfl, Bool.not_true, br_false, apd_some (by simp; omega) (by simp; omega)]
  rfl
/-- the step of the loop over the kids, whatever the kid is -/
theorem gl_step (x6 : List T27) (recf : Int → Int → Int → List Nat → List Int → List (List Int) → List T27 → Option Out) (k : Nat) (kids : List G53) (a2 : Int) (i : Nat) (hi : i < x6.length) (hb : i < 9223372036854775807) (o : Out)
    (ho : recf x6[i].f0 x6[i].f1 x6[i].f2 x6[i].f3 x6[i].f4 x6[i].f5 x6[i].f6 = some o) (h : (kids.length + 1) * 16 ≤ 140737488351232) :
    impl_geometry_l1 x6 recf (k + 1) (0, kids, a2, (i : Int)) = impl_geometry_l1 x6 recf k (0, kids ++ [toG o], a2, ((i + 1 : Nat) : Int)) := by
  show impl_geometry_l1s x6 recf k (impl_geometry_l1 x6 recf k) 0 kids a2 (i : Int) = _
  unfold impl_geometry_l1s
  rw [decide_eq_true (by omega), br_true, idx_get hi, sbind, ho, sbind]
  rcases o with y | y | y | y | y | y | y | y
  all_goals
    simp only [push_is k kids a2 _ h, sbind]
    rw [iadd_one hb]
    rfl
/-- the check of the kids' layouts -/
theorem chk_is (kids : List G53) (a1 : Int) (K : Nat) (hl : kids.length ≤ maxLen) (hk : ∀ k, K ≤ k → ∀ y ∈ kids, lay k y = some a1) (k : Nat) (hkk : kids.length + K < k) :
    gogeom_GeometryCollection_CheckLayout_v2_l1 kids a1 k 0 = some (.inr ()) := by
  have hx : maxLen = 9223372036854775807 := rfl
  obtain ⟨y, hy, rfl⟩ := loop_inv (F := gogeom_GeometryCollection_CheckLayout_v2_l1 kids a1) K (fun m p => p = ((kids.length - m : Nat) : Int) ∧ m ≤ kids.length) (fun y => y = .inr ()) (by
    intro k m i hK hI
    obtain ⟨hi, hml⟩ := hI
    subst hi
    show (∃ y, gogeom_GeometryCollection_CheckLayout_v2_l1s kids a1 k (gogeom_GeometryCollection_CheckLayout_v2_l1 kids a1 k) ((kids.length - m : Nat) : Int) = some y ∧ _) ∨ ∃ m' x', _ ∧ _ ∧ gogeom_GeometryCollection_CheckLayout_v2_l1s kids a1 k (gogeom_GeometryCollection_CheckLayout_v2_l1 kids a1 k) ((kids.length - m : Nat) : Int) = _
    unfold gogeom_GeometryCollection_CheckLayout_v2_l1s
    by_cases e : m = 0
    · subst e
      rw [decide_eq_false (by omega), br_false]
      exact .inl ⟨_, rfl, rfl⟩
    · have hi : kids.length - m < kids.length := by omega
      have hv := hk k hK _ (List.getElem_mem hi)
      refine .inr ⟨m - 1, ((kids.length - m + 1 : Nat) : Int), by omega, ⟨by congr 1; omega, by omega⟩, ?_⟩
      rw [decide_eq_true (by omega), br_true, idx_get hi, sbind]
      generalize kids[kids.length - m] = g at hv ⊢
      cases g with
      | c7 a b c =>
        have hv' : gogeom_GeometryCollection_Layout k a b c = some a1 := hv
        simp only [hv', sbind]
        rw [decide_eq_true trivial, Bool.not_true, br_false, iadd_one (by omega)]
      | _ =>
        cases hv
        simp only [gogeom_geom0_Layout, gogeom_geom0_Layout_v2, gogeom_geom0_Layout_v3, sbind]
        rw [decide_eq_true trivial, Bool.not_true, br_false, iadd_one (by omega)]) kids.length 0 k ⟨by simp, Nat.le_refl _⟩ (by omega)
  exact hy
theorem setl_is (kids : List G53) (a1 a2 : Int) (K : Nat) (hl : kids.length ≤ maxLen) (hk : a1 ≠ 0 → ∀ k, K ≤ k → ∀ y ∈ kids, lay k y = some a1) (k : Nat) (hkk : kids.length + K < k) :
    gogeom_GeometryCollection_MustSetLayout_v2 k 0 kids a2 a1 = some (a1, kids, a2) := by
  unfold gogeom_GeometryCollection_MustSetLayout_v2 gogeom_GeometryCollection_SetLayout_v2 gogeom_GeometryCollection_CheckLayout_v2 gogeom_GeometryCollection_CheckLayout_v2_j1
  by_cases h1 : a1 = 0
  · rw [decide_eq_true h1]; rfl
  · rw [decide_eq_false h1, Bool.not_false, br_true, chk_is kids a1 K hl (hk h1) k hkk]; rfl

/-- good plain geometries are built -/
theorem geom_is {x : T27} (hx : x.OkW) : ∃ K, ∀ k, K ≤ k → (∃ j, spec_Good (j + 1) x.f0 x.f1 x.f2 x.f3 x.f4 x.f5 x.f6 = some true) → ∃ o, impl_geometry k x.f0 x.f1 x.f2 x.f3 x.f4 x.f5 x.f6 = some o ∧ toG o = GO x := by
  induction hx with
  | @mk x0 x1 x2 x3 x4 x5 x6 g0 g1 g2 g3 g4 g5 g6 gk ih =>
    have hx : maxLen = 9223372036854775807 := rfl
    obtain ⟨K, hK⟩ := all_bound x6 ih
    obtain ⟨L, hL⟩ := all_bound (P := fun y k => lay k (GO y) = some (LO y)) x6 (fun y hy => lay_is (okw_ok (gk y hy)))
    refine ⟨K + L + x6.length + x5.length + 3, fun k hk => ?_⟩
    obtain ⟨j, rfl⟩ : ∃ j, k = j + 1 := ⟨k - 1, by omega⟩
    rintro ⟨q, hg⟩
    replace hg : spec_Good (q + 1) x0 x1 x2 x3 x4 x5 x6 = some true := hg
    show ∃ o, impl_geometry (j + 1) x0 x1 x2 x3 x4 x5 x6 = some o ∧ _
    rw [GO_mk]
    by_cases h7 : x0 = 7
    · subst h7
      rw [if_pos rfl]
      have hkid := good_kids (by omega) hg
      have hloop : impl_geometry_l1 x6 (impl_geometry j) j (0, [], x2, 0) = some (0, x6.map GO, x2) := by
        obtain ⟨y, hy, rfl⟩ := loop_inv (F := impl_geometry_l1 x6 (impl_geometry j)) 0 (fun m p => p = (0, (x6.take (x6.length - m)).map GO, x2, ((x6.length - m : Nat) : Int)) ∧ m ≤ x6.length) (fun y => y = (0, x6.map GO, x2)) (by
          intro k m p _ hI
          obtain ⟨hp, hml⟩ := hI
          subst hp
          by_cases e : m = 0
          · subst e
            left
            show ∃ y, impl_geometry_l1s x6 (impl_geometry j) k (impl_geometry_l1 x6 (impl_geometry j) k) 0 _ x2 ((x6.length - 0 : Nat) : Int) = some y ∧ _
            unfold impl_geometry_l1s
            rw [decide_eq_false (by omega), br_false]
            exact ⟨_, rfl, by simp⟩
          · have hi : x6.length - m < x6.length := by omega
            obtain ⟨o, ho, ht⟩ := hK j (by omega) x6[x6.length - m] (List.getElem_mem hi) (hkid _ hi).1
            refine .inr ⟨m - 1, _, by omega, ⟨?_, by omega⟩, gl_step x6 (impl_geometry j) k _ x2 (x6.length - m) hi (by omega) o ho (by simp; omega)⟩
            have hc : x6.length - (m - 1) = x6.length - m + 1 := by omega
            rw [hc, List.take_add_one, List.getElem?_eq_getElem hi, List.map_append, ht]; rfl) x6.length (0, [], x2, 0) j ⟨by simp, Nat.le_refl _⟩ (by omega)
        exact hy
      have hset : gogeom_GeometryCollection_MustSetLayout_v2 j 0 (x6.map GO) x2 x1 = some (x1, x6.map GO, x2) := by
        refine setl_is (x6.map GO) x1 x2 L (by rw [List.length_map]; omega) (fun h1 k hk y hy => ?_) j (by rw [List.length_map]; omega)
        obtain ⟨z, hz, rfl⟩ := List.mem_map.1 hy
        have hlz := hL k hk z hz
        obtain ⟨m, hm, rfl⟩ := List.getElem_of_mem hz
        obtain ⟨w, hw⟩ := (hkid m hm).2 h1
        rw [lo_some (okw_ok (gk _ hz)) w x1 hw]; exact hlz
      show ∃ o, impl_geometry_b (impl_geometry j) j 7 x1 x2 x3 x4 x5 x6 = some o ∧ _
      unfold impl_geometry_b
      have hd : ∀ n : Int, n ≠ 7 → decide ((7 : Int) = n) = false := fun n hn => decide_eq_false (fun h => hn h.symm)
      rw [floatsW j x3 g3.1, sbind, hd 1 (by decide), br_false, hd 2 (by decide), br_false, hd 8 (by decide), br_false, hd 3 (by decide), br_false, hd 4 (by decide), br_false, hd 5 (by decide), br_false, hd 6 (by decide), br_false, decide_eq_true rfl, br_true]
      simp only [gogeom_NewGeometryCollection, gogeom_GeometryCollection_SetSRID, sbind, hloop, hset]
      exact ⟨_, rfl, rfl⟩
    · rw [if_neg h7]
      have hk0 : x0 = 1 ∨ x0 = 2 ∨ x0 = 3 ∨ x0 = 4 ∨ x0 = 5 ∨ x0 = 6 ∨ x0 = 8 := by
        by_cases hc : x0 = 1 ∨ x0 = 2 ∨ x0 = 3 ∨ x0 = 4 ∨ x0 = 5 ∨ x0 = 6 ∨ x0 = 8
        · exact hc
        · rw [good_kind x0 x1 x2 x3 x4 x5 x6 q (by omega)] at hg; cases hg
      refine ⟨_, geom_flat j x0 x1 x2 x3 x4 x5 x6 hk0 (good_str hg h7) g3.1 g4.1 g5.1 (fun y hy => (g5.2 y hy).1) (by omega) (fun h4 he => ?_), rfl⟩
      subst h4; subst he
      exact good_noends hg
end Go.Proofs.Ytmagcmeknclljaa
