/-
  Geometries as plain trees: the given tests on them (size, good data) always end. Ours.
-/
import Derived.Test.YtmagcmeknclljaaGreatFun
import Derived.Test.YtmagcmeknclljaaGreatSxW
namespace Go.Proofs.YtmagcmeknclljaaGreat
open Go.Sx
set_option linter.unusedVariables false
set_option linter.unusedSimpArgs false

theorem all_bound {α : Type} {P : α → Nat → Prop} : ∀ (l : List α), (∀ y ∈ l, ∃ K, ∀ k, K ≤ k → P y k) → ∃ K, ∀ k, K ≤ k → ∀ y ∈ l, P y k
  | [], _ => ⟨0, fun _ _ y hy => by cases hy⟩
  | a :: r, h => by
    obtain ⟨K1, h1⟩ := h a List.mem_cons_self
    obtain ⟨K2, h2⟩ := all_bound r fun y hy => h y (List.mem_cons_of_mem _ hy)
    refine ⟨K1 + K2, fun k hk y hy => ?_⟩
    rcases List.mem_cons.1 hy with rfl | hy
    · exact h1 k (by omega)
    · exact h2 k (by omega) y hy
theorem for_tot {σ τ α : Type} {F : Nat → σ × Int → Option τ} (xs : List α) (hlen : xs.length ≤ maxLen) (kmin : Nat) (Q : τ → Prop)
    (step : ∀ k s (i : Nat) (hi : i < xs.length), i < 9223372036854775807 → kmin ≤ k → (∃ y, F (k + 1) (s, (i : Int)) = some y ∧ Q y) ∨ ∃ s', F (k + 1) (s, (i : Int)) = F k (s', ((i + 1 : Nat) : Int)))
    (stop : ∀ k s, kmin ≤ k → ∃ y, F (k + 1) (s, (xs.length : Int)) = some y ∧ Q y) (s : σ) (k : Nat) (hk : xs.length + kmin < k) : ∃ y, F k (s, 0) = some y ∧ Q y := by
  have hm : maxLen = 9223372036854775807 := rfl
  refine loop_inv kmin (fun m p => p.2 = ((xs.length - m : Nat) : Int) ∧ m ≤ xs.length) Q ?_ xs.length (s, 0) k ⟨by simp, Nat.le_refl _⟩ hk
  intro k m p hk hI
  obtain ⟨s, i⟩ := p
  obtain ⟨hi, hml⟩ := hI
  simp only at hi
  subst hi
  by_cases e : m = 0
  · subst e
    left
    exact stop k s hk
  · rcases step k s (xs.length - m) (by omega) (by omega) hk with h | ⟨s', h⟩
    · exact .inl h
    · refine .inr ⟨m - 1, (s', ((xs.length - m + 1 : Nat) : Int)), by omega, ⟨?_, by omega⟩, h⟩
      simp only
      congr 1
      omega

def stri (a : Int) : Int := if a < 1 then 0 else if a = 1 then 2 else if a = 2 ∨ a = 3 then 3 else a
theorem stride_is (k : Nat) (a : Int) : spec_Stride k a = some (stri a) := by
  unfold spec_Stride spec_Stride_j1 stri
  by_cases h1 : a < 1
  · rw [decide_eq_true h1, if_pos h1]; rfl
  by_cases h2 : a = 1
  · subst h2; rfl
  by_cases h3 : a = 2
  · subst h3; rfl
  by_cases h4 : a = 3
  · subst h4; rfl
  rw [decide_eq_false h1, decide_eq_false h2, decide_eq_false h3, decide_eq_false h4, if_neg h1, if_neg h2, if_neg (by omega)]; rfl
theorem lstride_is (k : Nat) (a : Int) (h : 1 ≤ a) : gogeom_Layout_Stride k a = some (stri a) := by
  unfold gogeom_Layout_Stride stri
  by_cases h2 : a = 1
  · subst h2; rfl
  by_cases h3 : a = 2
  · subst h3; rfl
  by_cases h4 : a = 3
  · subst h4; rfl
  by_cases h5 : a = 4
  · subst h5; rfl
  rw [decide_eq_false (show ¬ a = 0 by omega), decide_eq_false h2, decide_eq_false h3, decide_eq_false h4, decide_eq_false h5, if_neg (by omega), if_neg h2, if_neg (by omega)]; rfl
theorem stri_pos {a : Int} (h : stri a ≠ 0) : 1 ≤ a := by
  unfold stri at h
  split at h
  · exact absurd rfl h
  · omega

/-! ### the size -/
theorem fits3_is (xs : List (List Int)) (hlen : xs.length ≤ maxLen) (k : Nat) (hk : xs.length < k) : ∃ b, laws_zzFits3 k xs = some b ∧ (b = true → ∀ x ∈ xs, x.length ≤ 2147483647) := by
  unfold laws_zzFits3
  by_cases h : 2147483647 < (xs.length : Int)
  · rw [decide_eq_true h, br_true]; exact ⟨false, rfl, fun h => by cases h⟩
  rw [decide_eq_false h, br_false]
  have := loop_inv (F := laws_zzFits3_l1 xs) 0 (fun m p => p = ((xs.length - m : Nat) : Int) ∧ m ≤ xs.length ∧ ∀ i (hi : i < xs.length), i < xs.length - m → xs[i].length ≤ 2147483647) (fun y => y = .inr () → ∀ x ∈ xs, x.length ≤ 2147483647) (by
    intro k m p _ hI
    obtain ⟨rfl, hm, hI⟩ := hI
    have hs : laws_zzFits3_l1 xs (k + 1) ((xs.length - m : Nat) : Int) = laws_zzFits3_l1s xs k (laws_zzFits3_l1 xs k) ((xs.length - m : Nat) : Int) := rfl
    rw [hs]
    unfold laws_zzFits3_l1s
    by_cases e : m = 0
    · subst e
      rw [decide_eq_false (by omega), br_false]
      refine .inl ⟨_, rfl, fun _ x hx => ?_⟩
      obtain ⟨i, hi, rfl⟩ := List.mem_iff_getElem.1 hx
      exact hI i hi (by omega)
    · have hi : xs.length - m < xs.length := by omega
      rw [decide_eq_true (by omega), br_true, idx_get hi, sbind]
      by_cases hb : 2147483647 < (xs[xs.length - m].length : Int)
      · rw [decide_eq_true hb, br_true]
        exact .inl ⟨_, rfl, fun h => by cases h⟩
      · rw [decide_eq_false hb, br_false, iadd_one (by omega)]
        refine .inr ⟨m - 1, _, by omega, ⟨?_, by omega, fun i hi' hlt => ?_⟩, rfl⟩
        · congr 1; omega
        · by_cases ee : i = xs.length - m
          · subst ee; omega
          · exact hI i hi' (by omega)) xs.length 0 k ⟨by simp, Nat.le_refl _, fun i hi h => by omega⟩ (by omega)
  obtain ⟨y, hy, hQ⟩ := this
  rw [hy, sbind]
  rcases y with u | u
  · exact ⟨false, rfl, fun h => by cases h⟩
  · exact ⟨true, rfl, fun _ => hQ rfl⟩
theorem fits2_is (k : Nat) (a0 a1 a2 : Int) (a3 : List Nat) (a4 : List Int) (a5 : List (List Int)) (a6 : List T27) (h5 : a5.length ≤ maxLen) (hk : a5.length < k) :
    ∃ b, laws_zzFits2 k a0 a1 a2 a3 a4 a5 a6 = some b ∧ (b = true → a3.length ≤ 2147483647 ∧ a4.length ≤ 2147483647 ∧ a5.length ≤ 2147483647 ∧ (∀ x ∈ a5, x.length ≤ 2147483647) ∧ a6.length ≤ 2147483647) := by
  unfold laws_zzFits2
  by_cases h3 : 2147483647 < (a3.length : Int)
  · rw [decide_eq_true h3, br_true]; exact ⟨false, rfl, fun h => by cases h⟩
  rw [decide_eq_false h3, br_false]
  by_cases h4 : 2147483647 < (a4.length : Int)
  · rw [decide_eq_true h4, br_true]; exact ⟨false, rfl, fun h => by cases h⟩
  rw [decide_eq_false h4, br_false]
  have h5' : a5.length ≤ 2147483647 ∨ laws_zzFits3 k a5 = some false := by
    by_cases h : 2147483647 < (a5.length : Int)
    · right; unfold laws_zzFits3; rw [decide_eq_true h, br_true]
    · left; omega
  obtain ⟨b, hb, hQ⟩ := fits3_is a5 h5 k hk
  rw [hb, sbind]
  cases b
  · exact ⟨false, rfl, fun h => by cases h⟩
  rw [Bool.not_true, br_false]
  by_cases h6 : 2147483647 < (a6.length : Int)
  · rw [decide_eq_true h6, br_true]; exact ⟨false, rfl, fun h => by cases h⟩
  rw [decide_eq_false h6, br_false]
  refine ⟨true, rfl, fun _ => ⟨by omega, by omega, ?_, hQ rfl, by omega⟩⟩
  rcases h5' with h | h
  · exact h
  · rw [hb] at h; cases h

/-! ### the weight, the layouts -/
theorem weight_tot {x : T27} (hx : x.Ok) : ∃ K, ∀ k, K ≤ k → ∀ a1, ∃ v, spec_Weight k x.f0 x.f1 x.f2 x.f3 x.f4 x.f5 x.f6 a1 = some v := by
  induction hx with
  | @mk x0 x1 x2 x3 x4 x5 x6 g0 g1 g2 g3 g4 g5 g6 gk ih =>
    obtain ⟨K, hK⟩ := all_bound x6 ih
    refine ⟨K + x5.length + x6.length + 3, fun k hk a1 => ?_⟩
    obtain ⟨j, rfl⟩ : ∃ j, k = j + 1 := ⟨k - 1, by omega⟩
    show ∃ v, spec_Weight_b (spec_Weight j) j x0 x1 x2 x3 x4 x5 x6 a1 = some v
    unfold spec_Weight_b
    obtain ⟨y1, h1, _⟩ := for_tot (F := spec_Weight_l1 x5) x5 g5.1 0 (fun _ => True) (fun k s i hi hb _ => by
      have hs : spec_Weight_l1 x5 (k + 1) (s, (i : Int)) = spec_Weight_l1s x5 k (spec_Weight_l1 x5 k) s (i : Int) := rfl
      rw [hs]
      unfold spec_Weight_l1s
      rw [decide_eq_true (by omega), br_true, idx_get hi, sbind, iadd_one (i := i) hb]
      exact .inr ⟨_, rfl⟩) (fun k s _ => by
      refine ⟨s, ?_, trivial⟩
      show spec_Weight_l1s x5 k (spec_Weight_l1 x5 k) s (x5.length : Int) = _
      unfold spec_Weight_l1s
      rw [decide_eq_false (by omega), br_false]) (iadd .i64 (iadd .i64 1 (x3.length : Int)) (x4.length : Int)) j (by omega)
    rw [h1, sbind]
    obtain ⟨y2, h2, _⟩ := for_tot (F := spec_Weight_l2 x6 a1 (spec_Weight j)) x6 g6 0 (fun _ => True) (fun k s i hi hb _ => by
      have hs : spec_Weight_l2 x6 a1 (spec_Weight j) (k + 1) (s, (i : Int)) = spec_Weight_l2s x6 a1 (spec_Weight j) k (spec_Weight_l2 x6 a1 (spec_Weight j) k) s (i : Int) := rfl
      rw [hs]
      unfold spec_Weight_l2s
      rw [decide_eq_true (by omega), br_true, idx_get hi, sbind]
      by_cases hc : a1 < s
      · rw [decide_eq_true hc, br_true]; exact .inl ⟨_, rfl, trivial⟩
      · obtain ⟨v, hv⟩ := hK j (by omega) x6[i] (List.getElem_mem hi) (isub .i64 a1 s)
        rw [decide_eq_false hc, br_false, hv, sbind, iadd_one (i := i) hb]
        exact .inr ⟨_, rfl⟩) (fun k s _ => by
      refine ⟨.inr s, ?_, trivial⟩
      show spec_Weight_l2s x6 a1 (spec_Weight j) k (spec_Weight_l2 x6 a1 (spec_Weight j) k) s (x6.length : Int) = _
      unfold spec_Weight_l2s
      rw [decide_eq_false (by omega), br_false]) y1 j (by omega)
    rw [h2, sbind]
    cases y2 <;> exact ⟨_, rfl⟩
theorem layouts_tot {x : T27} (hx : x.Ok) : ∃ K, ∀ k, K ≤ k → ∀ a1, ∃ v, laws_gLayouts k x.f0 x.f1 x.f2 x.f3 x.f4 x.f5 x.f6 a1 = some v := by
  induction hx with
  | @mk x0 x1 x2 x3 x4 x5 x6 g0 g1 g2 g3 g4 g5 g6 gk ih =>
    obtain ⟨K, hK⟩ := all_bound x6 ih
    refine ⟨K + x6.length + 3, fun k hk a1 => ?_⟩
    obtain ⟨j, rfl⟩ : ∃ j, k = j + 1 := ⟨k - 1, by omega⟩
    show ∃ v, laws_gLayouts_b (laws_gLayouts j) j x0 x1 x2 x3 x4 x5 x6 a1 = some v
    unfold laws_gLayouts_b
    obtain ⟨y2, h2, _⟩ := for_tot (F := fun k (p : Unit × Int) => laws_gLayouts_l1 x6 (laws_gLayouts j) a1 k p.2) x6 g6 0 (fun _ => True) (fun k s i hi hb _ => by
      have hs : laws_gLayouts_l1 x6 (laws_gLayouts j) a1 (k + 1) (i : Int) = laws_gLayouts_l1s x6 (laws_gLayouts j) a1 k (laws_gLayouts_l1 x6 (laws_gLayouts j) a1 k) (i : Int) := rfl
      simp only [hs]
      unfold laws_gLayouts_l1s
      obtain ⟨v, hv⟩ := hK j (by omega) x6[i] (List.getElem_mem hi) a1
      rw [decide_eq_true (by omega), br_true, idx_get hi, sbind, hv, sbind]
      cases v
      · exact .inl ⟨_, rfl, trivial⟩
      · rw [Bool.not_true, br_false, iadd_one (i := i) hb]
        exact .inr ⟨(), rfl⟩) (fun k s _ => by
      refine ⟨.inr (), ?_, trivial⟩
      show laws_gLayouts_l1s x6 (laws_gLayouts j) a1 k (laws_gLayouts_l1 x6 (laws_gLayouts j) a1 k) (x6.length : Int) = _
      unfold laws_gLayouts_l1s
      rw [decide_eq_false (by omega), br_false]) () j (by omega)
    simp only at h2
    rw [h2, sbind]
    cases y2
    · exact ⟨_, rfl⟩
    · simp only [br_if, laws_gLayouts_j1, laws_gLayouts_j2, laws_gLayouts_j3]
      repeat' split
      all_goals exact ⟨_, rfl⟩
theorem cover_tot (k : Nat) (a b : Int) : ∃ v, spec_Cover k a b = some v := by
  simp only [spec_Cover, spec_Cover_j1, spec_Cover_j2, spec_Cover_j3, br_if]
  repeat' split
  all_goals exact ⟨_, rfl⟩
theorem layoutOf_tot {x : T27} (hx : x.Ok) : ∃ K, ∀ k, K ≤ k → ∃ v, spec_LayoutOf k x.f0 x.f1 x.f2 x.f3 x.f4 x.f5 x.f6 = some v := by
  induction hx with
  | @mk x0 x1 x2 x3 x4 x5 x6 g0 g1 g2 g3 g4 g5 g6 gk ih =>
    obtain ⟨K, hK⟩ := all_bound x6 ih
    refine ⟨K + x6.length + 3, fun k hk => ?_⟩
    obtain ⟨j, rfl⟩ : ∃ j, k = j + 1 := ⟨k - 1, by omega⟩
    show ∃ v, spec_LayoutOf_b (spec_LayoutOf j) j x0 x1 x2 x3 x4 x5 x6 = some v
    have hl : ∃ v, spec_LayoutOf_l1 x6 (spec_LayoutOf j) j (x1, 0) = some v := by
      obtain ⟨y2, h2, _⟩ := for_tot (F := spec_LayoutOf_l1 x6 (spec_LayoutOf j)) x6 g6 0 (fun _ => True) (fun k s i hi hb _ => by
        have hs : spec_LayoutOf_l1 x6 (spec_LayoutOf j) (k + 1) (s, (i : Int)) = spec_LayoutOf_l1s x6 (spec_LayoutOf j) k (spec_LayoutOf_l1 x6 (spec_LayoutOf j) k) s (i : Int) := rfl
        rw [hs]
        unfold spec_LayoutOf_l1s
        obtain ⟨v, hv⟩ := hK j (by omega) x6[i] (List.getElem_mem hi)
        obtain ⟨c, hc⟩ := cover_tot k s v
        rw [decide_eq_true (by omega), br_true, idx_get hi, sbind, hv, sbind, hc, sbind, iadd_one (i := i) hb]
        exact .inr ⟨_, rfl⟩) (fun k s _ => by
        refine ⟨s, ?_, trivial⟩
        show spec_LayoutOf_l1s x6 (spec_LayoutOf j) k (spec_LayoutOf_l1 x6 (spec_LayoutOf j) k) s (x6.length : Int) = _
        unfold spec_LayoutOf_l1s
        rw [decide_eq_false (by omega), br_false]) x1 j (by omega)
      exact ⟨y2, h2⟩
    obtain ⟨v, hv⟩ := hl
    simp only [spec_LayoutOf_b, spec_LayoutOf_j1, hv, sbind, br_if]
    repeat' split
    all_goals exact ⟨_, rfl⟩
end Go.Proofs.YtmagcmeknclljaaGreat
