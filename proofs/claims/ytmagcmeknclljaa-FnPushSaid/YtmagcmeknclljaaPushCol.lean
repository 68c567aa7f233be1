/-
  What the program's push does: collections. Ours.
-/
import Derived.Test.YtmagcmeknclljaaPushDo6
namespace Go.Proofs.Ytmagcmeknclljaa
open Go.Sx
set_option linter.unusedVariables false
set_option linter.unusedSimpArgs false
set_option maxRecDepth 100000

theorem col_one (k : Nat) (ly sr : Int) (kg : List G53) (g : G53) (L : Int) (hL : lay (k + 1) g = some L) (hk : (kg.length + 1) * 16 ≤ 140737488351232) :
    gogeom_GeometryCollection_Push_v2 (k + 2) ly kg sr [g] = some (if ly = 0 ∨ L = ly then .inl (ly, kg ++ [g], sr) else .inr (ly, kg, sr, L)) := by
  have hj : ∀ k, gogeom_GeometryCollection_Push_v2_j1 k kg [g] ly sr = some (.inl (ly, kg ++ [g], sr)) := by
    intro k
    unfold gogeom_GeometryCollection_Push_v2_j1
    rw [apd_some (by simp; omega) (by simp; omega), sbind]
  unfold gogeom_GeometryCollection_Push_v2
  by_cases h0 : ly = 0
  · rw [decide_eq_true h0, Bool.not_true, br_false, hj, if_pos (.inl h0)]
  · rw [decide_eq_false h0, Bool.not_false, br_true]
    have hst : gogeom_GeometryCollection_Push_v2_l1 [g] ly (k + 2) 0 = (lay (k + 1) g >>= fun r20 => br (!decide (r20 = ly)) (some (.inl r20)) (gogeom_GeometryCollection_Push_v2_l1 [g] ly (k + 1) 1)) := by
      show gogeom_GeometryCollection_Push_v2_l1s [g] ly (k + 1) (gogeom_GeometryCollection_Push_v2_l1 [g] ly (k + 1)) 0 = _
      unfold gogeom_GeometryCollection_Push_v2_l1s
      rw [show decide ((0 : Int) < ((([g] : List G53).length : Nat) : Int)) = true from rfl, br_true, show idx [g] 0 = some g from rfl, sbind]
      cases g <;> rfl
    have hend : gogeom_GeometryCollection_Push_v2_l1 [g] ly (k + 1) 1 = some (.inr ()) := by
      show gogeom_GeometryCollection_Push_v2_l1s [g] ly k (gogeom_GeometryCollection_Push_v2_l1 [g] ly k) 1 = _
      unfold gogeom_GeometryCollection_Push_v2_l1s
      rw [show decide ((1 : Int) < ((([g] : List G53).length : Nat) : Int)) = false from rfl, br_false]
    rw [hst, hL, sbind]
    by_cases hl : L = ly
    · rw [decide_eq_true hl, Bool.not_true, br_false, hend, sbind, if_pos (.inr hl)]
      exact hj _
    · rw [decide_eq_false hl, Bool.not_false, br_true, sbind, if_neg (by rintro (h | h); exact h0 h; exact hl h)]
theorem plain5_is {xs : List T27} {ly sr : Int} {K : Nat} (hb : ∀ k, K ≤ k → ∀ y ∈ xs, impl_plain_v6 k (GO y) = some (y.f0, y.f1, y.f2, y.f3, y.f4, y.f5, y.f6)) (h : xs.length * 120 ≤ 140737488351232) {k : Nat} (hk : xs.length + K < k) :
    impl_plain_v5 k ly (xs.map GO) sr = some (ly, xs.map GO, sr, 7, ly, sr, xs) := by
  have hl : impl_plain_v5_l1 (ly, xs.map GO, sr) k ([], 0) = some xs := by
    refine back_step (F := impl_plain_v5_l1 (ly, xs.map GO, sr)) xs h K (fun k i hi hKk => ?_) (fun k s => ?_) k hk
    · show impl_plain_v5_l1s (ly, xs.map GO, sr) k (impl_plain_v5_l1 (ly, xs.map GO, sr) k) (xs.take i) (i : Int) = _
      unfold impl_plain_v5_l1s
      rw [decide_eq_true (by show (i : Int) < ((xs.map GO).length : Int); rw [List.length_map]; omega), br_true]
      show (idx (xs.map GO) (i : Int) >>= _) = _
      rw [idx_get (by rw [List.length_map]; exact hi), sbind, List.getElem_map, hb k hKk xs[i] (List.getElem_mem hi), sbind]
      cases xs[i]; rfl
    · show impl_plain_v5_l1s (ly, xs.map GO, sr) k (impl_plain_v5_l1 (ly, xs.map GO, sr) k) s (xs.length : Int) = _
      unfold impl_plain_v5_l1s
      rw [decide_eq_false (by show ¬ (xs.length : Int) < ((xs.map GO).length : Int); rw [List.length_map]; omega), br_false]
  unfold impl_plain_v5
  simp only [gogeom_GeometryCollection_SRID, gogeom_DoorLayout, gogeom_GeometryCollection_Geoms, sbind, hl]
theorem out_seven {o : Out} {a : Int} {kids : List G53} {c : Int} (h : toG o = .c7 a kids c) : o = .inr (.inr (.inr (.inr (.inr (.inr (.inr (a, kids, c))))))) := by
  rcases o with y | y | y | y | y | y | y | y <;> first | (cases h; rfl) | cases h
theorem push_col {k : Nat} {ly sr : Int} {kids : List T27} {p : T27} {o o' : Out} {K : Nat} (hg : impl_geometry (k + 2) 7 ly sr [] [] [] kids = some o) (ho : toG o = .c7 ly (kids.map GO) sr)
    (hp : impl_geometry (k + 2) p.f0 p.f1 p.f2 p.f3 p.f4 p.f5 p.f6 = some o') (ho' : toG o' = GO p) (hL : lay (k + 1) (GO p) = some (LO p))
    (hb : ∀ k, K ≤ k → ∀ y ∈ kids ++ [p], impl_plain_v6 k (GO y) = some (y.f0, y.f1, y.f2, y.f3, y.f4, y.f5, y.f6)) (h : (kids.length + 1) * 120 ≤ 140737488351232) (hk : kids.length + 1 + K < k + 2) :
    impl_Push (k + 2) 7 ly sr [] [] [] kids p.f0 p.f1 p.f2 p.f3 p.f4 p.f5 p.f6 = some (if ly = 0 ∨ LO p = ly then (7, ly, sr, [], [], [], kids ++ [p], true) else (0, 0, 0, [], [], [], [], false)) := by
  obtain rfl := out_seven ho
  have h5 := plain5_is (ly := ly) (sr := sr) hb (by simp; omega) (k := k + 2) (by simp; omega)
  rw [List.map_append] at h5
  have hc := col_one k ly sr (kids.map GO) (toG o') (LO p) (by rw [ho']; exact hL) (by rw [List.length_map]; omega)
  have key : (gogeom_GeometryCollection_Push_v2 (k + 2) ly (kids.map GO) sr [toG o'] >>= fun r58 => match r58 with
      | .inl y105 => impl_Push_j5a (k + 2) y105.1 y105.2.1 y105.2.2
      | .inr y105 => impl_Push_j5b (k + 2) y105.2.2.2 y105.1 y105.2.1 y105.2.2.1) = some (if ly = 0 ∨ LO p = ly then (7, ly, sr, [], [], [], kids ++ [p], true) else (0, 0, 0, [], [], [], [], false)) := by
    rw [hc, sbind]
    by_cases hd : ly = 0 ∨ LO p = ly
    · rw [if_pos hd, if_pos hd]
      show impl_Push_j5a _ _ _ _ = _
      unfold impl_Push_j5a
      rw [ho']
      show (impl_plain_v5 (k + 2) ly (kids.map GO ++ [p].map GO) sr >>= _) = _
      rw [h5, sbind]
    · rw [if_neg hd, if_neg hd]; rfl
  unfold impl_Push
  rw [hg, sbind, hp]
  rcases o' with y | y | y | y | y | y | y | y <;> exact key
end Go.Proofs.Ytmagcmeknclljaa
