/-
  Geometries with kids: their layout and what is built out of them (values of the interface told apart). Ours.
-/
import Derived.Test.YtmagcmeknclljaaPuFlat
namespace Go.Proofs.Ytmagcmeknclljaa
open Go.Sx
set_option linter.unusedVariables false
set_option linter.unusedSimpArgs false
set_option maxRecDepth 100000

/-! #### covering layouts -/
def cov (a b : Int) : Int := if (a = 2 ∧ b = 3) ∨ (a = 3 ∧ b = 2) then 4 else max a b
theorem imax_is (a b : Int) : imax a b = max a b := by unfold imax; split <;> omega
theorem cover_is (k : Nat) (a b : Int) : spec_Cover k a b = some (cov a b) := by
  have hi := imax_is a b
  simp only [spec_Cover, spec_Cover_j1, spec_Cover_j2, spec_Cover_j3, br_if, cov, hi]
  by_cases h1 : a = 2 <;> by_cases h2 : b = 3 <;> by_cases h3 : a = 3 <;> by_cases h4 : b = 2 <;> simp [h1, h2, h3, h4] <;> omega
/-- the layout of a plain geometry -/
def LO : T27 → Int
  | .mk x0 x1 x2 x3 x4 x5 x6 => if x0 = 7 ∧ x1 = 0 then (x6.attach.map fun y => LO y.1).foldl cov 0 else x1
termination_by x => SizeOf.sizeOf x
decreasing_by
  have := List.sizeOf_lt_of_mem y.2
  simp only [T27.mk.sizeOf_spec]
  omega
theorem LO_mk (x0 x1 x2 : Int) (x3 : List Nat) (x4 : List Int) (x5 : List (List Int)) (x6 : List T27) : LO (.mk x0 x1 x2 x3 x4 x5 x6) = if x0 = 7 ∧ x1 = 0 then (x6.map LO).foldl cov 0 else x1 := by
  rw [LO]; congr 2; exact List.attach_map_val (l := x6) (f := LO)
theorem lo_is {x : T27} (hx : x.Ok) : ∃ K, ∀ k, K ≤ k → spec_LayoutOf k x.f0 x.f1 x.f2 x.f3 x.f4 x.f5 x.f6 = some (LO x) := by
  induction hx with
  | @mk x0 x1 x2 x3 x4 x5 x6 g0 g1 g2 g3 g4 g5 g6 gk ih =>
    obtain ⟨K, hK⟩ := all_bound x6 ih
    refine ⟨K + x6.length + 3, fun k hk => ?_⟩
    obtain ⟨j, rfl⟩ : ∃ j, k = j + 1 := ⟨k - 1, by omega⟩
    show spec_LayoutOf_b (spec_LayoutOf j) j x0 x1 x2 x3 x4 x5 x6 = some _
    have hm : maxLen = 9223372036854775807 := rfl
    have hl : spec_LayoutOf_l1 x6 (spec_LayoutOf j) j (x1, 0) = some ((x6.map LO).foldl cov x1) := by
      obtain ⟨y, hy, rfl⟩ := loop_inv (F := spec_LayoutOf_l1 x6 (spec_LayoutOf j)) 0 (fun m p => p.2 = ((x6.length - m : Nat) : Int) ∧ m ≤ x6.length ∧ ((x6.drop (x6.length - m)).map LO).foldl cov p.1 = (x6.map LO).foldl cov x1) (fun y => y = (x6.map LO).foldl cov x1) (by
        intro k m p _ hI
        obtain ⟨s, i⟩ := p
        obtain ⟨hi, hml, hf⟩ := hI
        simp only at hi hf
        subst hi
        have hs : spec_LayoutOf_l1 x6 (spec_LayoutOf j) (k + 1) (s, ((x6.length - m : Nat) : Int)) = spec_LayoutOf_l1s x6 (spec_LayoutOf j) k (spec_LayoutOf_l1 x6 (spec_LayoutOf j) k) s ((x6.length - m : Nat) : Int) := rfl
        rw [hs]
        unfold spec_LayoutOf_l1s
        by_cases e : m = 0
        · subst e
          rw [decide_eq_false (by omega), br_false]
          refine .inl ⟨_, rfl, ?_⟩
          rw [← hf]; simp
        · have hi : x6.length - m < x6.length := by omega
          have hv := hK j (by omega) x6[x6.length - m] (List.getElem_mem hi)
          rw [decide_eq_true (by omega), br_true, idx_get hi, sbind, hv, sbind, cover_is, sbind, iadd_one (by omega)]
          refine .inr ⟨m - 1, _, by omega, ⟨?_, by omega, ?_⟩, rfl⟩
          · simp only; congr 1; omega
          · simp only
            rw [← hf, List.drop_eq_getElem_cons hi, List.map_cons, List.foldl_cons, show x6.length - (m - 1) = x6.length - m + 1 by omega]) x6.length (x1, 0) j ⟨by simp, Nat.le_refl _, by simp⟩ (by omega)
      exact hy
    rw [LO_mk]
    simp only [spec_LayoutOf_b, spec_LayoutOf_j1, hl, sbind]
    by_cases h7 : x0 = 7
    · by_cases h1 : x1 = 0
      · subst h7; subst h1; rfl
      · subst h7; simp [h1, br_if]
    · simp [h7, br_if]
theorem lo_loop (x6 : List T27) (recf : Int → Int → Int → List Nat → List Int → List (List Int) → List T27 → Option Int) (hr : ∀ y ∈ x6, ∀ w, recf y.f0 y.f1 y.f2 y.f3 y.f4 y.f5 y.f6 = some w → w = LO y) (hm : x6.length ≤ maxLen) :
    ∀ k s (i : Nat) w, i ≤ x6.length → spec_LayoutOf_l1 x6 recf k (s, (i : Int)) = some w → w = ((x6.drop i).map LO).foldl cov s
  | 0, _, _, _, _, h => by cases h
  | k + 1, s, i, w, hi, h => by
    have h' : spec_LayoutOf_l1s x6 recf k (spec_LayoutOf_l1 x6 recf k) s (i : Int) = some w := h
    unfold spec_LayoutOf_l1s at h'
    have hx : maxLen = 9223372036854775807 := rfl
    by_cases e : i < x6.length
    · rw [decide_eq_true (by omega), br_true, idx_get e, sbind] at h'
      cases hv : recf x6[i].f0 x6[i].f1 x6[i].f2 x6[i].f3 x6[i].f4 x6[i].f5 x6[i].f6 with
      | none => rw [hv] at h'; cases h'
      | some v =>
        have := hr _ (List.getElem_mem e) v hv
        subst this
        rw [hv, sbind, cover_is, sbind, iadd_one (by omega)] at h'
        rw [lo_loop x6 recf hr hm k _ _ w e h', List.drop_eq_getElem_cons e, List.map_cons, List.foldl_cons]
    · rw [decide_eq_false (by omega), br_false] at h'
      rw [List.drop_eq_nil_of_le (by omega)]
      exact (Option.some.inj h').symm
theorem lo_some {x : T27} (hx : x.Ok) : ∀ k w, spec_LayoutOf k x.f0 x.f1 x.f2 x.f3 x.f4 x.f5 x.f6 = some w → w = LO x := by
  induction hx with
  | @mk x0 x1 x2 x3 x4 x5 x6 g0 g1 g2 g3 g4 g5 g6 gk ih =>
    intro k w h
    cases k with
    | zero => cases h
    | succ j =>
      have h' : spec_LayoutOf_b (spec_LayoutOf j) j x0 x1 x2 x3 x4 x5 x6 = some w := h
      have hl := lo_loop x6 (spec_LayoutOf j) (fun y hy w hw => ih y hy j w hw) g6 j x1 0 
      rw [LO_mk]
      simp only [spec_LayoutOf_b, spec_LayoutOf_j1] at h'
      by_cases h7 : x0 = 7
      · by_cases h1 : x1 = 0
        · subst h7; subst h1
          rw [if_pos ⟨rfl, rfl⟩]
          cases hq : spec_LayoutOf_l1 x6 (spec_LayoutOf j) j (0, 0) with
          | none => simp [br_if, hq] at h'
          | some v =>
            have := hl v (Nat.zero_le _) hq
            simp [br_if, hq] at h'
            rw [← h', this]; simp
        · subst h7
          simp [br_if, h1] at h' ⊢; exact h'.symm
      · simp [br_if, h7] at h' ⊢; exact h'.symm
end Go.Proofs.Ytmagcmeknclljaa
