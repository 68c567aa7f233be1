/-
  Two geometries of good data. Ours.
-/
import Derived.Test.YtmagcmeknclljaaPushSame
namespace Go.Proofs.Ytmagcmeknclljaa
open Go.Sx
set_option linter.unusedVariables false
set_option linter.unusedSimpArgs false
set_option maxRecDepth 100000

theorem gGood2_is {x y : T27} (hx : x.Ok) (hy : y.Ok) :
    ∃ K, ∀ k, K ≤ k → ∃ b, laws_gGood k [x, y] = some b ∧ (b = true → (∃ j, spec_Good (j + 1) x.f0 x.f1 x.f2 x.f3 x.f4 x.f5 x.f6 = some true) ∧ ∃ j, spec_Good (j + 1) y.f0 y.f1 y.f2 y.f3 y.f4 y.f5 y.f6 = some true) := by
  obtain ⟨K1, h1⟩ := weight_tot hx
  obtain ⟨K2, h2⟩ := layouts_tot hx
  obtain ⟨K3, h3⟩ := good_tot hx
  obtain ⟨L1, l1⟩ := weight_tot hy
  obtain ⟨L2, l2⟩ := layouts_tot hy
  obtain ⟨L3, l3⟩ := good_tot hy
  refine ⟨K1 + K2 + K3 + L1 + L2 + L3 + 8, fun k hk => ?_⟩
  have hsm : ∃ b, laws_gSmall k [x, y] = some b := by
    unfold laws_gSmall
    obtain ⟨z, hz, _⟩ := for_tot (F := laws_gSmall_l1 [x, y]) [x, y] (by simp [maxLen]) (K1 + K2 + L1 + L2) (fun _ => True) (fun k s i hi hb hkm => by
      have hs : laws_gSmall_l1 [x, y] (k + 1) (s, (i : Int)) = laws_gSmall_l1s [x, y] k (laws_gSmall_l1 [x, y] k) s (i : Int) := rfl
      rw [hs]
      unfold laws_gSmall_l1s
      have hi2 : i < 2 := by simpa using hi
      have hw : ∃ w, spec_Weight k ([x, y][i]).f0 ([x, y][i]).f1 ([x, y][i]).f2 ([x, y][i]).f3 ([x, y][i]).f4 ([x, y][i]).f5 ([x, y][i]).f6 s = some w := by
        rcases i with _ | _ | i
        · exact h1 k (by omega) s
        · exact l1 k (by omega) s
        · omega
      have hl : ∃ l, laws_gLayouts k ([x, y][i]).f0 ([x, y][i]).f1 ([x, y][i]).f2 ([x, y][i]).f3 ([x, y][i]).f4 ([x, y][i]).f5 ([x, y][i]).f6 9 = some l := by
        rcases i with _ | _ | i
        · exact h2 k (by omega) 9
        · exact l2 k (by omega) 9
        · omega
      obtain ⟨w, hw⟩ := hw
      obtain ⟨l, hl⟩ := hl
      rw [decide_eq_true (by omega), br_true, idx_get hi, sbind, hw, sbind, hl, sbind]
      simp only [laws_gSmall_j2, iadd_one hb, br_if]
      repeat' split
      all_goals first | exact .inl ⟨_, rfl, trivial⟩ | exact .inr ⟨_, rfl⟩) (fun k s _ => by
      refine ⟨.inr (), ?_, trivial⟩
      show laws_gSmall_l1s [x, y] k (laws_gSmall_l1 [x, y] k) s (2 : Int) = _
      unfold laws_gSmall_l1s
      rw [decide_eq_false (by simp), br_false]) 2000 k (by simp; omega)
    rw [hz, sbind]
    cases z <;> exact ⟨_, rfl⟩
  obtain ⟨sm, hsm⟩ := hsm
  obtain ⟨j, rfl⟩ : ∃ j, k = j + 3 := ⟨k - 3, by omega⟩
  obtain ⟨g, hg, _⟩ := h3 (j + 2) (by omega)
  obtain ⟨g', hg', _⟩ := l3 (j + 1) (by omega)
  have hgo : laws_gGood_l1 [x, y] (j + 3) 0 = some (if g = true ∧ g' = true then .inr () else .inl ()) := by
    show laws_gGood_l1s [x, y] (j + 2) (laws_gGood_l1 [x, y] (j + 2)) 0 = _
    unfold laws_gGood_l1s
    rw [show idx [x, y] 0 = some x from rfl, decide_eq_true (by simp), br_true, sbind, hg, sbind]
    cases g
    · rfl
    · show laws_gGood_l1s [x, y] (j + 1) (laws_gGood_l1 [x, y] (j + 1)) 1 = _
      unfold laws_gGood_l1s
      rw [show idx [x, y] 1 = some y from rfl, decide_eq_true (by simp), br_true, sbind, hg', sbind]
      cases g'
      · rfl
      · show laws_gGood_l1s [x, y] j (laws_gGood_l1 [x, y] j) 2 = _
        unfold laws_gGood_l1s
        rw [decide_eq_false (by simp), br_false]; rfl
  unfold laws_gGood
  rw [hsm, sbind]
  cases sm
  · exact ⟨false, rfl, fun h => by cases h⟩
  · rw [Bool.not_true, br_false, hgo, sbind]
    cases g <;> cases g'
    · exact ⟨false, rfl, fun h => by cases h⟩
    · exact ⟨false, rfl, fun h => by cases h⟩
    · exact ⟨false, rfl, fun h => by cases h⟩
    · exact ⟨true, rfl, fun _ => ⟨⟨_, hg⟩, ⟨_, hg'⟩⟩⟩
end Go.Proofs.Ytmagcmeknclljaa
