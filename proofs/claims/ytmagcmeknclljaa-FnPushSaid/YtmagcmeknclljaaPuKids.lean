/-
  What is built out of plain geometries with kids, and its layout. Ours.
-/
import Derived.Test.YtmagcmeknclljaaPuAll
namespace Go.Proofs.Ytmagcmeknclljaa
open Go.Sx
set_option linter.unusedVariables false
set_option linter.unusedSimpArgs false
set_option maxRecDepth 100000

def GO : T27 → G53
  | .mk x0 x1 x2 x3 x4 x5 x6 => if x0 = 7 then .c7 x1 (x6.attach.map fun y => GO y.1) x2 else toG (flatOut x0 x1 x2 x3 x4 x5)
termination_by x => SizeOf.sizeOf x
decreasing_by
  have := List.sizeOf_lt_of_mem y.2
  simp only [T27.mk.sizeOf_spec]
  omega
theorem GO_mk (x0 x1 x2 : Int) (x3 : List Nat) (x4 : List Int) (x5 : List (List Int)) (x6 : List T27) : GO (.mk x0 x1 x2 x3 x4 x5 x6) = if x0 = 7 then .c7 x1 (x6.map GO) x2 else toG (flatOut x0 x1 x2 x3 x4 x5) := by
  rw [GO]; congr 2; exact List.attach_map_val (l := x6) (f := GO)
/-- the layout that the built geometry tells -/
def lay (k : Nat) : G53 → Option Int
  | .c0 a _ _ _ => some a
  | .c1 a _ _ _ => some a
  | .c2 a _ _ _ => some a
  | .c3 a _ _ _ _ => some a
  | .c4 a _ _ _ _ => some a
  | .c5 a _ _ _ _ => some a
  | .c6 a _ _ _ _ => some a
  | .c7 a b c => gogeom_GeometryCollection_Layout k a b c
theorem lay_flat (k : Nat) (x0 x1 x2 : Int) (x3 : List Nat) (x4 : List Int) (x5 : List (List Int)) : lay k (toG (flatOut x0 x1 x2 x3 x4 x5)) = some x1 := by
  unfold flatOut
  repeat' split
  all_goals rfl
theorem lay_step (k : Nat) (rec1 : Int × Int → Option Int) (x3 x4 v : Int) :
    br (decide (v = 2))
          (br (decide (x3 = 3))
            (gogeom_GeometryCollection_Layout_j2 k rec1 x4 4)
            (br (decide (x3 < v))
              (gogeom_GeometryCollection_Layout_j2 k rec1 x4 v)
              (gogeom_GeometryCollection_Layout_j2 k rec1 x4 x3)))
          (br (decide (v = 3))
            (br (decide (x3 = 2))
              (gogeom_GeometryCollection_Layout_j2 k rec1 x4 4)
              (br (decide (x3 < v))
                (gogeom_GeometryCollection_Layout_j2 k rec1 x4 v)
                (gogeom_GeometryCollection_Layout_j2 k rec1 x4 x3)))
            (br (decide (x3 < v))
              (gogeom_GeometryCollection_Layout_j2 k rec1 x4 v)
              (gogeom_GeometryCollection_Layout_j2 k rec1 x4 x3))) = rec1 (cov x3 v, iadd .i64 x4 1) := by
  simp only [gogeom_GeometryCollection_Layout_j2, br_if, decide_eq_true_eq]
  unfold cov
  repeat' split
  all_goals first | (exfalso; omega) | rfl | rw [show max x3 v = v by omega] | rw [show max x3 v = x3 by omega]
theorem layl_step (kids : List G53) (j k : Nat) (s : Int) (i : Nat) (hi : i < kids.length) (hb : i < 9223372036854775807) (v : Int) (hv : lay j kids[i] = some v) :
    gogeom_GeometryCollection_Layout_l1 kids (gogeom_GeometryCollection_Layout j) (k + 1) (s, (i : Int)) = gogeom_GeometryCollection_Layout_l1 kids (gogeom_GeometryCollection_Layout j) k (cov s v, ((i + 1 : Nat) : Int)) := by
  show gogeom_GeometryCollection_Layout_l1s kids (gogeom_GeometryCollection_Layout j) k (gogeom_GeometryCollection_Layout_l1 kids (gogeom_GeometryCollection_Layout j) k) s (i : Int) = _
  unfold gogeom_GeometryCollection_Layout_l1s
  rw [decide_eq_true (by omega), br_true, idx_get hi, sbind]
  generalize kids[i] = g at hv ⊢
  cases g with
  | c7 a b c =>
    have hv' : gogeom_GeometryCollection_Layout j a b c = some v := hv
    simp only [hv', sbind]
    rw [lay_step, iadd_one hb]
  | _ =>
    cases hv
    simp only [gogeom_geom0_Layout, gogeom_geom0_Layout_v2, gogeom_geom0_Layout_v3, sbind]
    rw [lay_step, iadd_one hb]
theorem lay_is {x : T27} (hx : x.Ok) : ∃ K, ∀ k, K ≤ k → lay k (GO x) = some (LO x) := by
  induction hx with
  | @mk x0 x1 x2 x3 x4 x5 x6 g0 g1 g2 g3 g4 g5 g6 gk ih =>
    obtain ⟨K, hK⟩ := all_bound x6 ih
    refine ⟨K + x6.length + 3, fun k hk => ?_⟩
    obtain ⟨j, rfl⟩ : ∃ j, k = j + 1 := ⟨k - 1, by omega⟩
    have hm : maxLen = 9223372036854775807 := rfl
    rw [GO_mk, LO_mk]
    by_cases h7 : x0 = 7
    · rw [if_pos h7]
      show gogeom_GeometryCollection_Layout_b (gogeom_GeometryCollection_Layout j) j x1 (x6.map GO) x2 = _
      unfold gogeom_GeometryCollection_Layout_b
      by_cases h1 : x1 = 0
      · rw [if_pos ⟨h7, h1⟩, decide_eq_true h1, Bool.not_true, br_false]
        obtain ⟨y, hy, rfl⟩ := loop_inv (F := gogeom_GeometryCollection_Layout_l1 (x6.map GO) (gogeom_GeometryCollection_Layout j)) 0 (fun m p => p.2 = ((x6.length - m : Nat) : Int) ∧ m ≤ x6.length ∧ ((x6.drop (x6.length - m)).map LO).foldl cov p.1 = (x6.map LO).foldl cov 0) (fun y => y = (x6.map LO).foldl cov 0) (by
          intro k m p _ hI
          obtain ⟨s, i⟩ := p
          obtain ⟨hi, hml, hf⟩ := hI
          simp only at hi hf
          subst hi
          by_cases e : m = 0
          · subst e
            left
            show ∃ y, gogeom_GeometryCollection_Layout_l1s (x6.map GO) (gogeom_GeometryCollection_Layout j) k (gogeom_GeometryCollection_Layout_l1 (x6.map GO) (gogeom_GeometryCollection_Layout j) k) s ((x6.length - 0 : Nat) : Int) = some y ∧ _
            unfold gogeom_GeometryCollection_Layout_l1s
            rw [decide_eq_false (by rw [List.length_map]; omega), br_false]
            refine ⟨_, rfl, ?_⟩
            rw [← hf]; simp
          · have hi : x6.length - m < x6.length := by omega
            have hv := hK j (by omega) x6[x6.length - m] (List.getElem_mem hi)
            rw [layl_step (x6.map GO) j k s (x6.length - m) (by rw [List.length_map]; exact hi) (by omega) (LO x6[x6.length - m]) (by rw [List.getElem_map]; exact hv)]
            refine .inr ⟨m - 1, _, by omega, ⟨?_, by omega, ?_⟩, rfl⟩
            · simp only; congr 1; omega
            · simp only
              rw [← hf, List.drop_eq_getElem_cons hi, List.map_cons, List.foldl_cons, show x6.length - (m - 1) = x6.length - m + 1 by omega]) x6.length (0, 0) j ⟨by simp, Nat.le_refl _, by simp⟩ (by omega)
        rw [hy, sbind]
      · rw [if_neg (fun h => h1 h.2), decide_eq_false h1]; rfl
    · rw [if_neg h7, if_neg (fun h => h7 h.1)]
      exact lay_flat _ _ _ _ _ _ _
end Go.Proofs.Ytmagcmeknclljaa
