/-
  A box that is extended by two geometries is the same in either order: the plain statement. Ours.
-/
import Derived.Test.YtmagcmeknclljaaBoxExt
import Derived.Test.YtmagcmeknclljaaBoxBaseC
import Derived.Test.YtmagcmeknclljaaGeomCopy
namespace Go.Proofs.Ytmagcmeknclljaa
open Go.Sx
set_option linter.unusedVariables false
set_option linter.unusedSimpArgs false
set_option maxRecDepth 100000

/-- the numbers of an axis -/
def crd (g : Int) (F : List Nat) (a : Nat) : List (Int × Int) := match pos g a with
  | some p => col F (stri g).toNat p (F.length / (stri g).toNat)
  | none => []
def extc (k : Nat) (L : Int) (mn mx : List Nat) (g : Int) (F : List Nat) (s : Int) : Option (Int × (List Nat) × (List Nat)) :=
  (gogeom_Bounds_extendLayout k L mn mx g) >>= fun r =>
  if r.1 = 4 ∧ g = 3 then gogeom_Bounds_extendXYZMFlatCoordsWithXYM k r.1 r.2.1 r.2.2 F 0 (F.length : Int) else gogeom_Bounds_extendFlatCoords k r.1 r.2.1 r.2.2 F 0 (F.length : Int) s

theorem cov_in {L g : Int} (h0 : 0 ≤ L) (h4 : L ≤ 4) (g1 : 1 ≤ g) (g4 : g ≤ 4) : 1 ≤ cov L g ∧ cov L g ≤ 4 ∧ stri g ≤ stri (cov L g) ∧ 2 ≤ stri g ∧ stri g ≤ 4 ∧
    (¬ (cov L g = 4 ∧ g = 3) → ∀ a, a < 4 → (∀ p, pos g a = some p → pos (cov L g) a = some p ∧ (p : Int) < stri g) ∧ (pos g a = none → ∀ p, pos (cov L g) a = some p → stri g ≤ p)) := by
  have hL : L = 0 ∨ L = 1 ∨ L = 2 ∨ L = 3 ∨ L = 4 := by omega
  have hg : g = 1 ∨ g = 2 ∨ g = 3 ∨ g = 4 := by omega
  rcases hL with rfl | rfl | rfl | rfl | rfl <;> rcases hg with rfl | rfl | rfl | rfl <;> refine ⟨by decide, by decide, by decide, by decide, by decide, fun hn a ha => ?_⟩ <;>
    first
    | exact absurd ⟨rfl, rfl⟩ hn
    | (rcases (show a = 0 ∨ a = 1 ∨ a = 2 ∨ a = 3 by omega) with rfl | rfl | rfl | rfl <;> refine ⟨fun p hp => ?_, fun hp p hq => ?_⟩ <;> first | (cases hp; done) | (cases hq; decide) | (cases hp; exact ⟨rfl, by decide⟩) | (cases hq; done))
theorem pos_big (L : Int) (a : Nat) (h : 4 ≤ a) : pos L a = none := by
  unfold pos; repeat' split
  all_goals first | rfl | omega
theorem ax_big (L : Int) (mn : List Nat) (d : Int × Int) (a : Nat) (h : 4 ≤ a) : ax L mn d a = d := by unfold ax; rw [pos_big L a h]
theorem crd_big (g : Int) (F : List Nat) (a : Nat) (h : 4 ≤ a) : crd g F a = [] := by unfold crd; rw [pos_big g a h]

theorem extend_is {L g : Int} {mn mx F : List Nat} (h : BX L mn mx) (g1 : 1 ≤ g) (g4 : g ≤ 4) (hF : Nu F) (hl : F.length ≤ 2147483647) (hm : (F.length : Int) % stri g = 0) (k : Nat) (hk : F.length + 20 < k) :
    ∃ mn' mx', extc k L mn mx g F (stri g) = some (cov L g, mn', mx') ∧ BX (cov L g) mn' mx' ∧ (∀ a, ax (cov L g) mn' (1, 0) a = (crd g F a).foldl lmin (ax L mn (1, 0) a)) ∧ ∀ a, ax (cov L g) mx' (-1, 0) a = (crd g F a).foldl lmax (ax L mx (-1, 0) a) := by
  obtain ⟨j, rfl⟩ : ∃ j, k = j + 9 := ⟨k - 9, by omega⟩
  obtain ⟨m1, m2, e1, b1, x1, x2⟩ := layout_is h g g1 g4 j
  obtain ⟨c1, c2, c3, c4, c5, c6⟩ := cov_in h.lo h.hi g1 g4
  obtain ⟨s, hs⟩ : ∃ s : Nat, stri g = (s : Int) := ⟨(stri g).toNat, by omega⟩
  obtain ⟨N, hN⟩ : ∃ N, F.length = N * s := ⟨F.length / s, by
    rw [hs] at hm
    have : F.length % s = 0 := by omega
    exact (Nat.div_mul_cancel (Nat.dvd_of_mod_eq_zero this)).symm⟩
  have hNs : F.length / s = N := by rw [hN]; exact Nat.mul_div_cancel _ (by omega)
  have hNl : N ≤ F.length := by rw [hN]; exact Nat.le_mul_of_pos_right _ (by omega)
  have bl1 := b1.len1
  have bl2 := b1.len2
  unfold extc
  rw [e1, sbind]
  by_cases hsk : cov L g = 4 ∧ g = 3
  · obtain ⟨q1, rfl⟩ := hsk
    rw [if_pos ⟨q1, rfl⟩]
    have hs3 : s = 3 := by have : stri 3 = 3 := rfl; omega
    subst hs3
    have l4 : stri 4 = 4 := rfl
    simp only [q1] at bl1 bl2 b1 x1 x2 ⊢
    obtain ⟨v, f1, f2, f3, f4, f5, f6, f7⟩ := skew_is F m1 m2 N (by omega) (by omega) hN hF (by omega) b1.num1 b1.num2 (j + 9) (by omega)
    refine ⟨v.1, v.2, ?_, ⟨by decide, by decide, by omega, by omega, f4, f5⟩, fun a => ?_, fun a => ?_⟩
    · unfold gogeom_Bounds_extendXYZMFlatCoordsWithXYM; simp only [f1, Option.bind_eq_bind, Option.bind_some]
    · by_cases ha : a < 4
      · rw [← x1 a]
        have e := f6 a ha
        have p4 : pos 4 a = some a := by unfold pos; simp [ha]
        unfold ax crd
        rw [p4]; simp only
        rw [e, hs]
        have : ((3 : Nat) : Int).toNat = 3 := rfl
        rw [this, hNs]
        cases pos 3 a <;> rfl
      · rw [ax_big _ _ _ a (by omega), ax_big _ _ _ a (by omega), crd_big _ _ a (by omega)]; rfl
    · by_cases ha : a < 4
      · rw [← x2 a]
        have e := f7 a ha
        have p4 : pos 4 a = some a := by unfold pos; simp [ha]
        unfold ax crd
        rw [p4]; simp only
        rw [e, hs]
        have : ((3 : Nat) : Int).toNat = 3 := rfl
        rw [this, hNs]
        cases pos 3 a <;> rfl
      · rw [ax_big _ _ _ a (by omega), ax_big _ _ _ a (by omega), crd_big _ _ a (by omega)]; rfl
  · rw [if_neg hsk]
    have c6 := c6 hsk
    generalize cov L g = L' at *
    obtain ⟨v, f1, f2, f3, f4, f5, f6, f7⟩ := outer_is F m1 m2 s N (by omega) (by omega) (by omega) hN hF (by omega) b1.num1 b1.num2 (j + 9) (by omega)
    have hst : gogeom_Bounds_extendStride (j + 9) L' m1 m2 s = some (L', m1, m2) := by
      unfold gogeom_Bounds_extendStride
      rw [lstride_is _ _ c1, sbind]
      show (gogeom_Bounds_extendStride_l1s s (j + 8) (gogeom_Bounds_extendStride_l1 s (j + 8)) m1 m2 (stri L')) >>= _ = _
      unfold gogeom_Bounds_extendStride_l1s
      rw [decide_eq_false (by omega), br_false]; rfl
    refine ⟨v.1, v.2, ?_, ⟨by omega, c2, by omega, by omega, f4, f5⟩, fun a => ?_, fun a => ?_⟩
    · unfold gogeom_Bounds_extendFlatCoords; rw [hs, hst, sbind]; simp only [f1, Option.bind_eq_bind, Option.bind_some]
    · by_cases ha : a < 4
      · obtain ⟨p1, p2⟩ := c6 a ha
        rw [← x1 a]
        unfold ax crd
        rw [hs]
        have : ((s : Nat) : Int).toNat = s := by omega
        rw [this, hNs]
        cases hp : pos g a with
        | some p =>
          obtain ⟨r1, r2⟩ := p1 p hp
          rw [r1]; simp only
          rw [f6 p, if_pos (by omega)]
        | none =>
          cases hq : pos L' a with
          | none => rfl
          | some p => simp only; rw [f6 p, if_neg (by have := p2 hp p hq; omega)]; rfl
      · rw [ax_big _ _ _ a (by omega), ax_big _ _ _ a (by omega), crd_big _ _ a (by omega)]; rfl
    · by_cases ha : a < 4
      · obtain ⟨p1, p2⟩ := c6 a ha
        rw [← x2 a]
        unfold ax crd
        rw [hs]
        have : ((s : Nat) : Int).toNat = s := by omega
        rw [this, hNs]
        cases hp : pos g a with
        | some p =>
          obtain ⟨r1, r2⟩ := p1 p hp
          rw [r1]; simp only
          rw [f7 p, if_pos (by omega)]
        | none =>
          cases hq : pos L' a with
          | none => rfl
          | some p => simp only; rw [f7 p, if_neg (by have := p2 hp p hq; omega)]; rfl
      · rw [ax_big _ _ _ a (by omega), ax_big _ _ _ a (by omega), crd_big _ _ a (by omega)]; rfl

theorem ext1 (k : Nat) (L : Int) (mn mx : List Nat) (g s : Int) (F : List Nat) (z : Int) : gogeom_Bounds_Extend k L mn mx g s F z = (extc k L mn mx g F s).map fun r => (r.1, r.2.1, r.2.2, g, s, F, z) := by
  unfold gogeom_Bounds_Extend extc gogeom_Bounds_Extend_j1 gogeom_geom0_Layout gogeom_geom0_FlatCoords gogeom_geom0_Stride
  simp only [Option.bind_eq_bind, Option.bind_some]
  cases gogeom_Bounds_extendLayout k L mn mx g with
  | none => rfl
  | some r =>
    simp only [Option.bind_some]
    by_cases h4 : r.1 = 4
    · rw [decide_eq_true h4, br_true]
      by_cases h3 : g = 3
      · rw [decide_eq_true h3, br_true, if_pos ⟨h4, h3⟩]
        cases gogeom_Bounds_extendXYZMFlatCoordsWithXYM k r.1 r.2.1 r.2.2 F 0 (F.length : Int) <;> rfl
      · rw [decide_eq_false h3, br_false, if_neg (by simp [h3])]
        cases gogeom_Bounds_extendFlatCoords k r.1 r.2.1 r.2.2 F 0 (F.length : Int) s <;> rfl
    · rw [decide_eq_false h4, br_false, br_false, if_neg (by simp [h4])]
      cases gogeom_Bounds_extendFlatCoords k r.1 r.2.1 r.2.2 F 0 (F.length : Int) s <;> rfl
theorem ext2 (k : Nat) (L : Int) (mn mx : List Nat) (g s : Int) (F : List Nat) (z : Int) : gogeom_Bounds_Extend_v2 k L mn mx g s F z = (extc k L mn mx g F s).map fun r => (r.1, r.2.1, r.2.2, g, s, F, z) := by
  unfold gogeom_Bounds_Extend_v2 extc gogeom_Bounds_Extend_v2_j1 gogeom_geom0_Layout_v2 gogeom_geom0_FlatCoords_v2 gogeom_geom0_Stride_v2
  simp only [Option.bind_eq_bind, Option.bind_some]
  cases gogeom_Bounds_extendLayout k L mn mx g with
  | none => rfl
  | some r =>
    simp only [Option.bind_some]
    by_cases h4 : r.1 = 4
    · rw [decide_eq_true h4, br_true]
      by_cases h3 : g = 3
      · rw [decide_eq_true h3, br_true, if_pos ⟨h4, h3⟩]
        cases gogeom_Bounds_extendXYZMFlatCoordsWithXYM k r.1 r.2.1 r.2.2 F 0 (F.length : Int) <;> rfl
      · rw [decide_eq_false h3, br_false, if_neg (by simp [h3])]
        cases gogeom_Bounds_extendFlatCoords k r.1 r.2.1 r.2.2 F 0 (F.length : Int) s <;> rfl
    · rw [decide_eq_false h4, br_false, br_false, if_neg (by simp [h4])]
      cases gogeom_Bounds_extendFlatCoords k r.1 r.2.1 r.2.2 F 0 (F.length : Int) s <;> rfl
theorem ext3 (k : Nat) (L : Int) (mn mx : List Nat) (g s : Int) (F : List Nat) (z : Int) : gogeom_Bounds_Extend_v3 k L mn mx g s F z = (extc k L mn mx g F s).map fun r => (r.1, r.2.1, r.2.2, g, s, F, z) := by
  unfold gogeom_Bounds_Extend_v3 extc gogeom_Bounds_Extend_v3_j1 gogeom_geom0_Layout_v3 gogeom_geom0_FlatCoords_v3 gogeom_geom0_Stride_v3
  simp only [Option.bind_eq_bind, Option.bind_some]
  cases gogeom_Bounds_extendLayout k L mn mx g with
  | none => rfl
  | some r =>
    simp only [Option.bind_some]
    by_cases h4 : r.1 = 4
    · rw [decide_eq_true h4, br_true]
      by_cases h3 : g = 3
      · rw [decide_eq_true h3, br_true, if_pos ⟨h4, h3⟩]
        cases gogeom_Bounds_extendXYZMFlatCoordsWithXYM k r.1 r.2.1 r.2.2 F 0 (F.length : Int) <;> rfl
      · rw [decide_eq_false h3, br_false, if_neg (by simp [h3])]
        cases gogeom_Bounds_extendFlatCoords k r.1 r.2.1 r.2.2 F 0 (F.length : Int) s <;> rfl
    · rw [decide_eq_false h4, br_false, br_false, if_neg (by simp [h4])]
      cases gogeom_Bounds_extendFlatCoords k r.1 r.2.1 r.2.2 F 0 (F.length : Int) s <;> rfl
theorem ext4 (k : Nat) (L : Int) (mn mx : List Nat) (g s : Int) (F : List Nat) (z : Int) (e : List Int) : gogeom_Bounds_Extend_v4 k L mn mx g s F z e = (extc k L mn mx g F s).map fun r => (r.1, r.2.1, r.2.2, g, s, F, z, e) := by
  unfold gogeom_Bounds_Extend_v4 extc gogeom_Bounds_Extend_v4_j1 gogeom_geom0_Layout_v4 gogeom_geom0_FlatCoords_v4 gogeom_geom0_Stride_v4
  simp only [Option.bind_eq_bind, Option.bind_some]
  cases gogeom_Bounds_extendLayout k L mn mx g with
  | none => rfl
  | some r =>
    simp only [Option.bind_some]
    by_cases h4 : r.1 = 4
    · rw [decide_eq_true h4, br_true]
      by_cases h3 : g = 3
      · rw [decide_eq_true h3, br_true, if_pos ⟨h4, h3⟩]
        cases gogeom_Bounds_extendXYZMFlatCoordsWithXYM k r.1 r.2.1 r.2.2 F 0 (F.length : Int) <;> rfl
      · rw [decide_eq_false h3, br_false, if_neg (by simp [h3])]
        cases gogeom_Bounds_extendFlatCoords k r.1 r.2.1 r.2.2 F 0 (F.length : Int) s <;> rfl
    · rw [decide_eq_false h4, br_false, br_false, if_neg (by simp [h4])]
      cases gogeom_Bounds_extendFlatCoords k r.1 r.2.1 r.2.2 F 0 (F.length : Int) s <;> rfl
theorem ext5 (k : Nat) (L : Int) (mn mx : List Nat) (g s : Int) (F : List Nat) (z : Int) (e : List Int) : gogeom_Bounds_Extend_v5 k L mn mx g s F z e = (extc k L mn mx g F s).map fun r => (r.1, r.2.1, r.2.2, g, s, F, z, e) := by
  unfold gogeom_Bounds_Extend_v5 extc gogeom_Bounds_Extend_v5_j1 gogeom_geom0_Layout_v5 gogeom_geom0_FlatCoords_v5 gogeom_geom0_Stride_v5
  simp only [Option.bind_eq_bind, Option.bind_some]
  cases gogeom_Bounds_extendLayout k L mn mx g with
  | none => rfl
  | some r =>
    simp only [Option.bind_some]
    by_cases h4 : r.1 = 4
    · rw [decide_eq_true h4, br_true]
      by_cases h3 : g = 3
      · rw [decide_eq_true h3, br_true, if_pos ⟨h4, h3⟩]
        cases gogeom_Bounds_extendXYZMFlatCoordsWithXYM k r.1 r.2.1 r.2.2 F 0 (F.length : Int) <;> rfl
      · rw [decide_eq_false h3, br_false, if_neg (by simp [h3])]
        cases gogeom_Bounds_extendFlatCoords k r.1 r.2.1 r.2.2 F 0 (F.length : Int) s <;> rfl
    · rw [decide_eq_false h4, br_false, br_false, if_neg (by simp [h4])]
      cases gogeom_Bounds_extendFlatCoords k r.1 r.2.1 r.2.2 F 0 (F.length : Int) s <;> rfl
theorem ext6 (k : Nat) (L : Int) (mn mx : List Nat) (g s : Int) (F : List Nat) (z : Int) (e : List Int) : gogeom_Bounds_Extend_v6 k L mn mx g s F z e = (extc k L mn mx g F s).map fun r => (r.1, r.2.1, r.2.2, g, s, F, z, e) := by
  unfold gogeom_Bounds_Extend_v6 extc gogeom_Bounds_Extend_v6_j1 gogeom_geom0_Layout_v6 gogeom_geom0_FlatCoords_v6 gogeom_geom0_Stride_v6
  simp only [Option.bind_eq_bind, Option.bind_some]
  cases gogeom_Bounds_extendLayout k L mn mx g with
  | none => rfl
  | some r =>
    simp only [Option.bind_some]
    by_cases h4 : r.1 = 4
    · rw [decide_eq_true h4, br_true]
      by_cases h3 : g = 3
      · rw [decide_eq_true h3, br_true, if_pos ⟨h4, h3⟩]
        cases gogeom_Bounds_extendXYZMFlatCoordsWithXYM k r.1 r.2.1 r.2.2 F 0 (F.length : Int) <;> rfl
      · rw [decide_eq_false h3, br_false, if_neg (by simp [h3])]
        cases gogeom_Bounds_extendFlatCoords k r.1 r.2.1 r.2.2 F 0 (F.length : Int) s <;> rfl
    · rw [decide_eq_false h4, br_false, br_false, if_neg (by simp [h4])]
      cases gogeom_Bounds_extendFlatCoords k r.1 r.2.1 r.2.2 F 0 (F.length : Int) s <;> rfl
theorem ext7 (k : Nat) (L : Int) (mn mx : List Nat) (g s : Int) (F : List Nat) (z : Int) (e : List (List Int)) : gogeom_Bounds_Extend_v7 k L mn mx g s F z e = (extc k L mn mx g F s).map fun r => (r.1, r.2.1, r.2.2, g, s, F, z, e) := by
  unfold gogeom_Bounds_Extend_v7 extc gogeom_Bounds_Extend_v7_j1 gogeom_geom0_Layout_v7 gogeom_geom0_FlatCoords_v7 gogeom_geom0_Stride_v7
  simp only [Option.bind_eq_bind, Option.bind_some]
  cases gogeom_Bounds_extendLayout k L mn mx g with
  | none => rfl
  | some r =>
    simp only [Option.bind_some]
    by_cases h4 : r.1 = 4
    · rw [decide_eq_true h4, br_true]
      by_cases h3 : g = 3
      · rw [decide_eq_true h3, br_true, if_pos ⟨h4, h3⟩]
        cases gogeom_Bounds_extendXYZMFlatCoordsWithXYM k r.1 r.2.1 r.2.2 F 0 (F.length : Int) <;> rfl
      · rw [decide_eq_false h3, br_false, if_neg (by simp [h3])]
        cases gogeom_Bounds_extendFlatCoords k r.1 r.2.1 r.2.2 F 0 (F.length : Int) s <;> rfl
    · rw [decide_eq_false h4, br_false, br_false, if_neg (by simp [h4])]
      cases gogeom_Bounds_extendFlatCoords k r.1 r.2.1 r.2.2 F 0 (F.length : Int) s <;> rfl

theorem boxes_is (k : Nat) (L : Int) (mn mx : List Nat) (h1 : mn.length ≤ 2147483647) (h2 : mx.length ≤ 2147483647) : impl_box k L mn mx = some (L, mn, mx) ∧ impl_plainBox k L mn mx = some (L, mn, mx, mn, mx) := by
  have f : ∀ l : List Nat, l.length ≤ 2147483647 → impl_floats_v2 k l = some (l, l) := fun l hl => by
    unfold impl_floats_v2; rw [apd_some (by simp; omega) (by simp; omega)]; rfl
  constructor
  · unfold impl_box gogeom_DoorBounds; rw [bfloats_is k mn h1, sbind, bfloats_is k mx h2, sbind]; rfl
  · unfold impl_plainBox gogeom_DoorBoundsParts; simp only [Option.bind_eq_bind, Option.bind_some, f mn h1, f mx h2]
end Go.Proofs.Ytmagcmeknclljaa
