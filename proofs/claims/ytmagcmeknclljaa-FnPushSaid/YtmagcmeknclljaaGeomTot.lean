/-
  Geometries: what their data are. Ours.
-/
import Derived.Test.YtmagcmeknclljaaFun
import Derived.Test.YtmagcmeknclljaaSxP
import Derived.Test.YtmagcmeknclljaaSxQ
namespace Go.Proofs.Ytmagcmeknclljaa
open Go.Sx
set_option linter.unusedVariables false
set_option linter.unusedSimpArgs false

theorem apd_some {α : Type} {b : Nat} {xs ys : List α} (h : (xs.length + ys.length) * b ≤ 140737488355328) (h' : xs.length + ys.length ≤ 4611686018427387904) : apd b xs ys = some (xs ++ ys) := by
  unfold apd; rw [if_pos ⟨h, h'⟩]
theorem all_bound {α : Type} {P : α → Nat → Prop} : ∀ (l : List α), (∀ y ∈ l, ∃ K, ∀ k, K ≤ k → P y k) → ∃ K, ∀ k, K ≤ k → ∀ y ∈ l, P y k
  | [], _ => ⟨0, fun _ _ y hy => by cases hy⟩
  | a :: r, h => by
    obtain ⟨K1, h1⟩ := h a List.mem_cons_self
    obtain ⟨K2, h2⟩ := all_bound r fun y hy => h y (List.mem_cons_of_mem _ hy)
    refine ⟨K1 + K2, fun k hk y hy => ?_⟩
    rcases List.mem_cons.1 hy with rfl | hy
    · exact h1 k (by omega)
    · exact h2 k (by omega) y hy
theorem for_tot {σ τ α : Type} {F : Nat → σ × Int → Option τ} (xs : List α) (hlen : xs.length ≤ maxLen) (kmin : Nat) (Q : τ → Prop)
    (step : ∀ k s (i : Nat) (hi : i < xs.length), i < 9223372036854775807 → kmin ≤ k → (∃ y, F (k + 1) (s, (i : Int)) = some y ∧ Q y) ∨ ∃ s', F (k + 1) (s, (i : Int)) = F k (s', ((i + 1 : Nat) : Int)))
    (stop : ∀ k s, kmin ≤ k → ∃ y, F (k + 1) (s, (xs.length : Int)) = some y ∧ Q y) (s : σ) (k : Nat) (hk : xs.length + kmin < k) : ∃ y, F k (s, 0) = some y ∧ Q y := by
  have hm : maxLen = 9223372036854775807 := rfl
  refine loop_inv kmin (fun m p => p.2 = ((xs.length - m : Nat) : Int) ∧ m ≤ xs.length) Q ?_ xs.length (s, 0) k ⟨by simp, Nat.le_refl _⟩ hk
  intro k m p hk hI
  obtain ⟨s, i⟩ := p
  obtain ⟨hi, hml⟩ := hI
  simp only at hi
  subst hi
  by_cases e : m = 0
  · subst e
    left
    exact stop k s hk
  · rcases step k s (xs.length - m) (by omega) (by omega) hk with h | ⟨s', h⟩
    · exact .inl h
    · refine .inr ⟨m - 1, (s', ((xs.length - m + 1 : Nat) : Int)), by omega, ⟨?_, by omega⟩, h⟩
      simp only
      congr 1
      omega

def stri (a : Int) : Int := if a < 1 then 0 else if a = 1 then 2 else if a = 2 ∨ a = 3 then 3 else a
theorem stride_is (k : Nat) (a : Int) : spec_Stride k a = some (stri a) := by
  unfold spec_Stride spec_Stride_j1 stri
  by_cases h1 : a < 1
  · rw [decide_eq_true h1, if_pos h1]; rfl
  by_cases h2 : a = 1
  · subst h2; rfl
  by_cases h3 : a = 2
  · subst h3; rfl
  by_cases h4 : a = 3
  · subst h4; rfl
  rw [decide_eq_false h1, decide_eq_false h2, decide_eq_false h3, decide_eq_false h4, if_neg h1, if_neg h2, if_neg (by omega)]; rfl
theorem stri_pos {a : Int} (h : stri a ≠ 0) : 1 ≤ a := by
  unfold stri at h
  split at h
  · exact absurd rfl h
  · omega

theorem weight_tot {x : T27} (hx : x.Ok) : ∃ K, ∀ k, K ≤ k → ∀ a1, ∃ v, spec_Weight k x.f0 x.f1 x.f2 x.f3 x.f4 x.f5 x.f6 a1 = some v := by
  induction hx with
  | @mk x0 x1 x2 x3 x4 x5 x6 g0 g1 g2 g3 g4 g5 g6 gk ih =>
    obtain ⟨K, hK⟩ := all_bound x6 ih
    refine ⟨K + x5.length + x6.length + 3, fun k hk a1 => ?_⟩
    obtain ⟨j, rfl⟩ : ∃ j, k = j + 1 := ⟨k - 1, by omega⟩
    show ∃ v, spec_Weight_b (spec_Weight j) j x0 x1 x2 x3 x4 x5 x6 a1 = some v
    unfold spec_Weight_b
    obtain ⟨y1, h1, _⟩ := for_tot (F := spec_Weight_l1 x5) x5 g5.1 0 (fun _ => True) (fun k s i hi hb _ => by
      have hs : spec_Weight_l1 x5 (k + 1) (s, (i : Int)) = spec_Weight_l1s x5 k (spec_Weight_l1 x5 k) s (i : Int) := rfl
      rw [hs]
      unfold spec_Weight_l1s
      rw [decide_eq_true (by omega), br_true, idx_get hi, sbind, iadd_one (i := i) hb]
      exact .inr ⟨_, rfl⟩) (fun k s _ => by
      refine ⟨s, ?_, trivial⟩
      show spec_Weight_l1s x5 k (spec_Weight_l1 x5 k) s (x5.length : Int) = _
      unfold spec_Weight_l1s
      rw [decide_eq_false (by omega), br_false]) (iadd .i64 (iadd .i64 1 (x3.length : Int)) (x4.length : Int)) j (by omega)
    rw [h1, sbind]
    obtain ⟨y2, h2, _⟩ := for_tot (F := spec_Weight_l2 x6 a1 (spec_Weight j)) x6 g6 0 (fun _ => True) (fun k s i hi hb _ => by
      have hs : spec_Weight_l2 x6 a1 (spec_Weight j) (k + 1) (s, (i : Int)) = spec_Weight_l2s x6 a1 (spec_Weight j) k (spec_Weight_l2 x6 a1 (spec_Weight j) k) s (i : Int) := rfl
      rw [hs]
      unfold spec_Weight_l2s
      rw [decide_eq_true (by omega), br_true, idx_get hi, sbind]
      by_cases hc : a1 < s
      · rw [decide_eq_true hc, br_true]; exact .inl ⟨_, rfl, trivial⟩
      · obtain ⟨v, hv⟩ := hK j (by omega) x6[i] (List.getElem_mem hi) (isub .i64 a1 s)
        rw [decide_eq_false hc, br_false, hv, sbind, iadd_one (i := i) hb]
        exact .inr ⟨_, rfl⟩) (fun k s _ => by
      refine ⟨.inr s, ?_, trivial⟩
      show spec_Weight_l2s x6 a1 (spec_Weight j) k (spec_Weight_l2 x6 a1 (spec_Weight j) k) s (x6.length : Int) = _
      unfold spec_Weight_l2s
      rw [decide_eq_false (by omega), br_false]) y1 j (by omega)
    rw [h2, sbind]
    cases y2 <;> exact ⟨_, rfl⟩
theorem layouts_tot {x : T27} (hx : x.Ok) : ∃ K, ∀ k, K ≤ k → ∀ a1, ∃ v, laws_gLayouts k x.f0 x.f1 x.f2 x.f3 x.f4 x.f5 x.f6 a1 = some v := by
  induction hx with
  | @mk x0 x1 x2 x3 x4 x5 x6 g0 g1 g2 g3 g4 g5 g6 gk ih =>
    obtain ⟨K, hK⟩ := all_bound x6 ih
    refine ⟨K + x6.length + 3, fun k hk a1 => ?_⟩
    obtain ⟨j, rfl⟩ : ∃ j, k = j + 1 := ⟨k - 1, by omega⟩
    show ∃ v, laws_gLayouts_b (laws_gLayouts j) j x0 x1 x2 x3 x4 x5 x6 a1 = some v
    unfold laws_gLayouts_b
    obtain ⟨y2, h2, _⟩ := for_tot (F := fun k (p : Unit × Int) => laws_gLayouts_l1 x6 (laws_gLayouts j) a1 k p.2) x6 g6 0 (fun _ => True) (fun k s i hi hb _ => by
      have hs : laws_gLayouts_l1 x6 (laws_gLayouts j) a1 (k + 1) (i : Int) = laws_gLayouts_l1s x6 (laws_gLayouts j) a1 k (laws_gLayouts_l1 x6 (laws_gLayouts j) a1 k) (i : Int) := rfl
      simp only [hs]
      unfold laws_gLayouts_l1s
      obtain ⟨v, hv⟩ := hK j (by omega) x6[i] (List.getElem_mem hi) a1
      rw [decide_eq_true (by omega), br_true, idx_get hi, sbind, hv, sbind]
      cases v
      · exact .inl ⟨_, rfl, trivial⟩
      · rw [Bool.not_true, br_false, iadd_one (i := i) hb]
        exact .inr ⟨(), rfl⟩) (fun k s _ => by
      refine ⟨.inr (), ?_, trivial⟩
      show laws_gLayouts_l1s x6 (laws_gLayouts j) a1 k (laws_gLayouts_l1 x6 (laws_gLayouts j) a1 k) (x6.length : Int) = _
      unfold laws_gLayouts_l1s
      rw [decide_eq_false (by omega), br_false]) () j (by omega)
    simp only at h2
    rw [h2, sbind]
    cases y2
    · exact ⟨_, rfl⟩
    · simp only [br_if, laws_gLayouts_j1, laws_gLayouts_j2, laws_gLayouts_j3]
      repeat' split
      all_goals exact ⟨_, rfl⟩
theorem cover_tot (k : Nat) (a b : Int) : ∃ v, spec_Cover k a b = some v := by
  simp only [spec_Cover, spec_Cover_j1, spec_Cover_j2, spec_Cover_j3, br_if]
  repeat' split
  all_goals exact ⟨_, rfl⟩
theorem layoutOf_tot {x : T27} (hx : x.Ok) : ∃ K, ∀ k, K ≤ k → ∃ v, spec_LayoutOf k x.f0 x.f1 x.f2 x.f3 x.f4 x.f5 x.f6 = some v := by
  induction hx with
  | @mk x0 x1 x2 x3 x4 x5 x6 g0 g1 g2 g3 g4 g5 g6 gk ih =>
    obtain ⟨K, hK⟩ := all_bound x6 ih
    refine ⟨K + x6.length + 3, fun k hk => ?_⟩
    obtain ⟨j, rfl⟩ : ∃ j, k = j + 1 := ⟨k - 1, by omega⟩
    show ∃ v, spec_LayoutOf_b (spec_LayoutOf j) j x0 x1 x2 x3 x4 x5 x6 = some v
    have hl : ∃ v, spec_LayoutOf_l1 x6 (spec_LayoutOf j) j (x1, 0) = some v := by
      obtain ⟨y2, h2, _⟩ := for_tot (F := spec_LayoutOf_l1 x6 (spec_LayoutOf j)) x6 g6 0 (fun _ => True) (fun k s i hi hb _ => by
        have hs : spec_LayoutOf_l1 x6 (spec_LayoutOf j) (k + 1) (s, (i : Int)) = spec_LayoutOf_l1s x6 (spec_LayoutOf j) k (spec_LayoutOf_l1 x6 (spec_LayoutOf j) k) s (i : Int) := rfl
        rw [hs]
        unfold spec_LayoutOf_l1s
        obtain ⟨v, hv⟩ := hK j (by omega) x6[i] (List.getElem_mem hi)
        obtain ⟨c, hc⟩ := cover_tot k s v
        rw [decide_eq_true (by omega), br_true, idx_get hi, sbind, hv, sbind, hc, sbind, iadd_one (i := i) hb]
        exact .inr ⟨_, rfl⟩) (fun k s _ => by
        refine ⟨s, ?_, trivial⟩
        show spec_LayoutOf_l1s x6 (spec_LayoutOf j) k (spec_LayoutOf_l1 x6 (spec_LayoutOf j) k) s (x6.length : Int) = _
        unfold spec_LayoutOf_l1s
        rw [decide_eq_false (by omega), br_false]) x1 j (by omega)
      exact ⟨y2, h2⟩
    obtain ⟨v, hv⟩ := hl
    simp only [spec_LayoutOf_b, spec_LayoutOf_j1, hv, sbind, br_if]
    repeat' split
    all_goals exact ⟨_, rfl⟩
theorem goodEnds_tot (a0 : List Int) (a1 a2 : Int) (a3 : Bool) (hl : a0.length ≤ maxLen) (h2 : a2 ≠ 0) (k : Nat) (hk : a0.length < k) : ∃ v, spec_goodEnds k a0 a1 a2 a3 = some v := by
  unfold spec_goodEnds
  obtain ⟨y, hy, _⟩ := for_tot (F := spec_goodEnds_l1 a0 a3 a2) a0 hl 0 (fun _ => True) (fun k s i hi hb _ => by
    have hs : spec_goodEnds_l1 a0 a3 a2 (k + 1) (s, (i : Int)) = spec_goodEnds_l1s a0 a3 a2 k (spec_goodEnds_l1 a0 a3 a2 k) s (i : Int) := rfl
    rw [hs]
    unfold spec_goodEnds_l1s
    rw [decide_eq_true (by omega), br_true, idx_get hi, sbind]
    have key : ∀ b, (∃ y, spec_goodEnds_j4 k s (spec_goodEnds_l1 a0 a3 a2 k) a0[i] (i : Int) a3 a2 b = some y ∧ True) ∨ ∃ s', spec_goodEnds_j4 k s (spec_goodEnds_l1 a0 a3 a2 k) a0[i] (i : Int) a3 a2 b = spec_goodEnds_l1 a0 a3 a2 k (s', ((i + 1 : Nat) : Int)) := by
      intro b
      simp only [spec_goodEnds_j4, spec_goodEnds_j5, spec_goodEnds_j6, iadd_one (i := i) hb, br_if]
      repeat' split
      all_goals first | exact .inl ⟨_, rfl, trivial⟩ | exact .inr ⟨_, rfl⟩
    by_cases hc : a0[i] < s
    · rw [decide_eq_true hc, br_true]; exact key true
    · have : irem (isub .i64 a0[i] s) a2 = some ((isub .i64 a0[i] s).tmod a2) := by unfold irem; rw [if_neg h2]
      rw [decide_eq_false hc, br_false, this, sbind]
      exact key _) (fun k s _ => by
    refine ⟨.inr s, ?_, trivial⟩
    show spec_goodEnds_l1s a0 a3 a2 k (spec_goodEnds_l1 a0 a3 a2 k) s (a0.length : Int) = _
    unfold spec_goodEnds_l1s
    rw [decide_eq_false (by omega), br_false]) a1 k (by omega)
  rw [hy, sbind]
  cases y <;> exact ⟨_, rfl⟩
theorem good_j8_tot (a0 : Int) (a3 : List Nat) (a4 : List Int) (a5 : List (List Int)) (s : Int) (hs : s ≠ 0) (h4 : a4.length ≤ maxLen) (h5 : a5.length ≤ maxLen ∧ ∀ x ∈ a5, x.length ≤ maxLen) : ∃ K, ∀ k, K ≤ k → ∀ b, ∃ v, spec_Good_j8 k a4 s a0 a3 a5 b = some v := by
  obtain ⟨M, hM⟩ := all_bound (P := fun x k => ∀ a1 a3, ∃ v, spec_goodEnds k x a1 s a3 = some v) a5 (fun x hx => ⟨x.length + 1, fun k hk a1 a3 => goodEnds_tot x a1 s a3 (h5.2 x hx) hs k (by omega)⟩)
  refine ⟨M + a5.length + a4.length + 2, fun k hk b => ?_⟩
  unfold spec_Good_j8
  cases b with
  | true =>
    rw [br_true]
    obtain ⟨v, hv⟩ := goodEnds_tot a4 0 s (decide (a0 = 4)) h4 hs k (by omega)
    rw [hv, sbind]
    simp only [spec_Good_j9, br_if]
    repeat' split
    all_goals exact ⟨_, rfl⟩
  | false =>
    rw [br_false]
    by_cases h6 : a0 = 6
    · rw [decide_eq_true h6, br_true]
      have hl : ∃ y, spec_Good_l1 a5 s k (0, true, 0) = some y := by
        obtain ⟨y, hy, _⟩ := for_tot (F := fun k (p : (Int × Bool) × Int) => spec_Good_l1 a5 s k (p.1.1, p.1.2, p.2)) a5 h5.1 M (fun _ => True) (fun k p i hi hb hkm => by
          have hs : spec_Good_l1 a5 s (k + 1) (p.1, p.2, (i : Int)) = spec_Good_l1s a5 s k (spec_Good_l1 a5 s k) p.1 p.2 (i : Int) := rfl
          simp only [hs]
          unfold spec_Good_l1s
          obtain ⟨v, hv⟩ := hM k hkm a5[i] (List.getElem_mem hi) p.1 false
          rw [decide_eq_true (by omega), br_true, idx_get hi, sbind, hv, sbind]
          simp only [spec_Good_j10, iadd_one (i := i) hb, br_if]
          right
          split
          · exact ⟨(v.1, v.2), rfl⟩
          · exact ⟨(v.1, false), rfl⟩) (fun k p _ => by
          refine ⟨(p.1, p.2), ?_, trivial⟩
          show spec_Good_l1s a5 s k (spec_Good_l1 a5 s k) p.1 p.2 (a5.length : Int) = _
          unfold spec_Good_l1s
          rw [decide_eq_false (by omega), br_false]) (0, true) k (by omega)
        exact ⟨y, hy⟩
      obtain ⟨y, hy⟩ := hl
      rw [hy, sbind]
      simp only [spec_Good_j11, spec_Good_j12, br_if]
      repeat' split
      all_goals exact ⟨_, rfl⟩
    · rw [decide_eq_false h6, br_false]; exact ⟨_, rfl⟩
theorem good_tot {x : T27} (hx : x.Ok) : ∃ K, ∀ k, K ≤ k → ∃ v, spec_Good k x.f0 x.f1 x.f2 x.f3 x.f4 x.f5 x.f6 = some v ∧ (v = true → x.f0 ≠ 7 → stri x.f1 ≠ 0) := by
  induction hx with
  | @mk x0 x1 x2 x3 x4 x5 x6 g0 g1 g2 g3 g4 g5 g6 gk ih =>
    obtain ⟨K, hK⟩ := all_bound x6 ih
    obtain ⟨L, hL⟩ := all_bound x6 fun y hy => layoutOf_tot (gk y hy)
    by_cases hs : stri x1 = 0
    · refine ⟨K + L + x6.length + 3, fun k hk => ?_⟩
      obtain ⟨j, rfl⟩ : ∃ j, k = j + 1 := ⟨k - 1, by omega⟩
      show ∃ v, spec_Good_b (spec_Good j) j x0 x1 x2 x3 x4 x5 x6 = some v ∧ (v = true → x0 ≠ 7 → stri x1 ≠ 0)
      unfold spec_Good_b
      rw [stride_is, sbind]
      by_cases h7 : x0 = 7
      · rw [decide_eq_true h7, br_true]
        have hl : ∃ y, spec_Good_l2 x6 (spec_Good j) x1 j 0 = some y := by
          obtain ⟨y, hy, _⟩ := for_tot (F := fun k (p : Unit × Int) => spec_Good_l2 x6 (spec_Good j) x1 k p.2) x6 g6 L (fun _ => True) (fun k p i hi hb hkm => by
            have hs : spec_Good_l2 x6 (spec_Good j) x1 (k + 1) (i : Int) = spec_Good_l2s x6 (spec_Good j) x1 k (spec_Good_l2 x6 (spec_Good j) x1 k) (i : Int) := rfl
            simp only [hs]
            unfold spec_Good_l2s
            obtain ⟨v, hv, _⟩ := hK j (by omega) x6[i] (List.getElem_mem hi)
            obtain ⟨w, hw⟩ := hL k hkm x6[i] (List.getElem_mem hi)
            rw [decide_eq_true (by omega), br_true, idx_get hi, sbind, hv, sbind]
            simp only [spec_Good_j15, spec_Good_j16, hw, sbind, iadd_one (i := i) hb, br_if]
            repeat' split
            all_goals first | exact .inl ⟨_, rfl, trivial⟩ | exact .inr ⟨(), rfl⟩) (fun k p _ => by
            refine ⟨.inr (), ?_, trivial⟩
            show spec_Good_l2s x6 (spec_Good j) x1 k (spec_Good_l2 x6 (spec_Good j) x1 k) (x6.length : Int) = _
            unfold spec_Good_l2s
            rw [decide_eq_false (by omega), br_false]) () j (by omega)
          exact ⟨y, hy⟩
        obtain ⟨y, hy⟩ := hl
        rw [hy, sbind]
        cases y
        · exact ⟨_, rfl, fun _ h => absurd h7 h⟩
        · simp only [spec_Good_j1, br_if]
          repeat' split
          all_goals exact ⟨_, rfl, fun _ h => absurd h7 h⟩
      · rw [decide_eq_false h7, br_false, decide_eq_true hs, br_true]
        exact ⟨false, by simp only [spec_Good_j2, spec_Good_j3, spec_Good_j5, br_true], fun h => by cases h⟩
    · obtain ⟨M, hM⟩ := good_j8_tot x0 x3 x4 x5 (stri x1) hs g4.1 ⟨g5.1, fun x hx => (g5.2 x hx).1⟩
      refine ⟨K + L + M + x6.length + 3, fun k hk => ?_⟩
      obtain ⟨j, rfl⟩ : ∃ j, k = j + 1 := ⟨k - 1, by omega⟩
      show ∃ v, spec_Good_b (spec_Good j) j x0 x1 x2 x3 x4 x5 x6 = some v ∧ (v = true → x0 ≠ 7 → stri x1 ≠ 0)
      suffices h : ∃ v, spec_Good_b (spec_Good j) j x0 x1 x2 x3 x4 x5 x6 = some v by
        obtain ⟨v, hv⟩ := h
        exact ⟨v, hv, fun _ _ => hs⟩
      unfold spec_Good_b
      rw [stride_is, sbind]
      by_cases h7 : x0 = 7
      · rw [decide_eq_true h7, br_true]
        have hl : ∃ y, spec_Good_l2 x6 (spec_Good j) x1 j 0 = some y := by
          obtain ⟨y, hy, _⟩ := for_tot (F := fun k (p : Unit × Int) => spec_Good_l2 x6 (spec_Good j) x1 k p.2) x6 g6 L (fun _ => True) (fun k p i hi hb hkm => by
            have hs : spec_Good_l2 x6 (spec_Good j) x1 (k + 1) (i : Int) = spec_Good_l2s x6 (spec_Good j) x1 k (spec_Good_l2 x6 (spec_Good j) x1 k) (i : Int) := rfl
            simp only [hs]
            unfold spec_Good_l2s
            obtain ⟨v, hv, _⟩ := hK j (by omega) x6[i] (List.getElem_mem hi)
            obtain ⟨w, hw⟩ := hL k hkm x6[i] (List.getElem_mem hi)
            rw [decide_eq_true (by omega), br_true, idx_get hi, sbind, hv, sbind]
            simp only [spec_Good_j15, spec_Good_j16, hw, sbind, iadd_one (i := i) hb, br_if]
            repeat' split
            all_goals first | exact .inl ⟨_, rfl, trivial⟩ | exact .inr ⟨(), rfl⟩) (fun k p _ => by
            refine ⟨.inr (), ?_, trivial⟩
            show spec_Good_l2s x6 (spec_Good j) x1 k (spec_Good_l2 x6 (spec_Good j) x1 k) (x6.length : Int) = _
            unfold spec_Good_l2s
            rw [decide_eq_false (by omega), br_false]) () j (by omega)
          exact ⟨y, hy⟩
        obtain ⟨y, hy⟩ := hl
        rw [hy, sbind]
        cases y
        · exact ⟨_, rfl⟩
        · simp only [spec_Good_j1, br_if]
          repeat' split
          all_goals exact ⟨_, rfl⟩
      · have h8 := hM j (by omega)
        have : irem (x3.length : Int) (stri x1) = some ((x3.length : Int).tmod (stri x1)) := by unfold irem; rw [if_neg hs]
        have h7' : ∀ b, ∃ v, spec_Good_j7 j x4 x0 (stri x1) x3 x5 b = some v := by
          intro b
          unfold spec_Good_j7
          simp only [br_if]
          repeat' split
          all_goals first | exact ⟨_, rfl⟩ | exact h8 _
        have h5' : ∀ b, ∃ v, spec_Good_j5 j x0 x4 x3 (stri x1) x5 b = some v := by
          intro b
          simp only [spec_Good_j5, spec_Good_j6, br_if]
          repeat' split
          all_goals first | exact ⟨_, rfl⟩ | exact h7' _
        rw [decide_eq_false h7, br_false, decide_eq_false hs, br_false, this, sbind]
        simp only [spec_Good_j2, spec_Good_j3, spec_Good_j4, br_if]
        repeat' split
        all_goals first | exact ⟨_, rfl⟩ | exact h5' _

theorem good_form {x0 x1 x2 : Int} {x3 : List Nat} {x4 : List Int} {x5 : List (List Int)} {x6 : List T27} {j : Nat} (h : spec_Good (j + 1) x0 x1 x2 x3 x4 x5 x6 = some true) (h7 : x0 ≠ 7) :
    x6 = [] ∧ (x0 = 6 ∨ x5 = []) ∧ ((x0 = 3 ∨ x0 = 4 ∨ x0 = 5) ∨ x4 = []) := by
  have hb : spec_Good_b (spec_Good j) j x0 x1 x2 x3 x4 x5 x6 = some true := h
  unfold spec_Good_b at hb
  rw [stride_is, sbind, decide_eq_false h7, br_false] at hb
  have hj : ∃ b, spec_Good_j2 j x0 x4 x3 (stri x1) x5 x6 b = some true := by
    by_cases hs : stri x1 = 0
    · rw [decide_eq_true hs, br_true] at hb; exact ⟨_, hb⟩
    · have : irem (x3.length : Int) (stri x1) = some ((x3.length : Int).tmod (stri x1)) := by unfold irem; rw [if_neg hs]
      rw [decide_eq_false hs, br_false, this, sbind] at hb
      exact ⟨_, hb⟩
  obtain ⟨b, hj⟩ := hj
  have h5t : ∀ {x5' : List (List Int)}, spec_Good_j5 j x0 x4 x3 (stri x1) x5' true = some false := rfl
  by_cases h6 : x6 = []
  · by_cases h5 : x0 = 6 ∨ x5 = []
    · by_cases h4 : (x0 = 3 ∨ x0 = 4 ∨ x0 = 5) ∨ x4 = []
      · exact ⟨h6, h5, h4⟩
      · exfalso
        have n3 : x0 ≠ 3 := by omega
        have n4 : x0 ≠ 4 := by omega
        have n5 : x0 ≠ 5 := by omega
        have h0 : decide ((x4.length : Int) = 0) = false := decide_eq_false (fun hh => h4 (.inr (List.length_eq_zero_iff.1 (by omega))))
        have k8 : spec_Good_j8 j x4 (stri x1) x0 x3 x5 false ≠ some true := by
          unfold spec_Good_j8
          rw [br_false]
          cases decide (x0 = 6)
          · rw [br_false]; intro hh; cases hh
          · rw [br_true]
            cases spec_Good_l1 x5 (stri x1) j (0, true, 0) with
            | none => intro hh; cases hh
            | some v =>
              rw [sbind]
              simp only [spec_Good_j11, spec_Good_j12, h0, br_if, ite_self]
              intro hh; cases hh
        have k7 : ∀ b, spec_Good_j7 j x4 x0 (stri x1) x3 x5 b ≠ some true := by
          intro b
          unfold spec_Good_j7
          rw [h0, decide_eq_false n3, decide_eq_false n4, decide_eq_false n5, br_false, br_false]
          cases b
          · exact k8
          · rw [br_true]; intro hh; cases hh
        have k5 : ∀ b, spec_Good_j5 j x0 x4 x3 (stri x1) x5 b ≠ some true := by
          intro b
          cases b
          · unfold spec_Good_j5
            rw [br_false, h0, br_false]
            cases decide (x0 = 1)
            · rw [br_false]
              cases decide (x0 = 2)
              · rw [br_false]; exact k7 _
              · rw [br_true]; exact k7 _
            · rw [br_true]; intro hh; cases hh
          · intro hh; cases hh
        have k3 : ∀ b, spec_Good_j3 j x0 x4 x3 (stri x1) x5 b ≠ some true := by
          intro b
          unfold spec_Good_j3 spec_Good_j4
          cases b
          · rw [br_false]
            cases decide (0 < (x5.length : Int))
            · rw [br_false]; exact k5 _
            · rw [br_true]; exact k5 _
          · rw [br_true]; exact k5 _
        unfold spec_Good_j2 at hj
        cases b
        · rw [br_false] at hj; exact k3 _ hj
        · rw [br_true] at hj; exact k3 _ hj
    · exfalso
      have n6 : x0 ≠ 6 := by omega
      have h0 : decide (0 < (x5.length : Int)) = true := decide_eq_true (by
        have : x5.length ≠ 0 := fun hh => h5 (.inr (List.length_eq_zero_iff.1 hh))
        omega)
      have k3 : ∀ b, spec_Good_j3 j x0 x4 x3 (stri x1) x5 b = some false := by
        intro b
        unfold spec_Good_j3 spec_Good_j4
        rw [h0, decide_eq_false n6, Bool.not_false, br_true, h5t, br_same]
      unfold spec_Good_j2 at hj
      rw [k3, k3, br_same] at hj
      cases hj
  · exfalso
    have h0 : decide (0 < (x6.length : Int)) = true := decide_eq_true (by
      have : x6.length ≠ 0 := fun hh => h6 (List.length_eq_zero_iff.1 hh)
      omega)
    have k3 : spec_Good_j3 j x0 x4 x3 (stri x1) x5 true = some false := by
      unfold spec_Good_j3
      rw [br_true, h5t]
    unfold spec_Good_j2 at hj
    rw [h0, k3, br_same] at hj
    cases hj

theorem gGood_is {x0 x1 x2 : Int} {x3 : List Nat} {x4 : List Int} {x5 : List (List Int)} {x6 : List T27} (hx : (T27.mk x0 x1 x2 x3 x4 x5 x6).Ok) :
    ∃ K, ∀ k, K ≤ k → ∃ b, laws_gGood k [T27.mk x0 x1 x2 x3 x4 x5 x6] = some b ∧ (b = true → ∃ j, spec_Good (j + 1) x0 x1 x2 x3 x4 x5 x6 = some true) := by
  obtain ⟨K1, h1⟩ := weight_tot hx
  obtain ⟨K2, h2⟩ := layouts_tot hx
  obtain ⟨K3, h3⟩ := good_tot hx
  refine ⟨K1 + K2 + K3 + 5, fun k hk => ?_⟩
  have hsm : ∃ b, laws_gSmall k [T27.mk x0 x1 x2 x3 x4 x5 x6] = some b := by
    unfold laws_gSmall
    obtain ⟨y, hy, _⟩ := for_tot (F := laws_gSmall_l1 [T27.mk x0 x1 x2 x3 x4 x5 x6]) [T27.mk x0 x1 x2 x3 x4 x5 x6] (by simp [maxLen]) (K1 + K2) (fun _ => True) (fun k s i hi hb hkm => by
      have hs : laws_gSmall_l1 [T27.mk x0 x1 x2 x3 x4 x5 x6] (k + 1) (s, (i : Int)) = laws_gSmall_l1s [T27.mk x0 x1 x2 x3 x4 x5 x6] k (laws_gSmall_l1 [T27.mk x0 x1 x2 x3 x4 x5 x6] k) s (i : Int) := rfl
      obtain rfl : i = 0 := by simp at hi; exact hi
      rw [hs]
      unfold laws_gSmall_l1s
      obtain ⟨w, hw⟩ := h1 k (by omega) s
      obtain ⟨l, hl⟩ := h2 k (by omega) 9
      rw [decide_eq_true (by omega), br_true, idx_get hi, sbind]
      simp only [List.getElem_cons_zero]
      rw [hw, sbind, hl, sbind]
      simp only [laws_gSmall_j2, iadd_one (i := 0) hb, br_if]
      repeat' split
      all_goals first | exact .inl ⟨_, rfl, trivial⟩ | exact .inr ⟨_, rfl⟩) (fun k s _ => by
      refine ⟨.inr (), ?_, trivial⟩
      show laws_gSmall_l1s [T27.mk x0 x1 x2 x3 x4 x5 x6] k (laws_gSmall_l1 [T27.mk x0 x1 x2 x3 x4 x5 x6] k) s (1 : Int) = _
      unfold laws_gSmall_l1s
      rw [decide_eq_false (by simp), br_false]) 2000 k (by simp; omega)
    rw [hy, sbind]
    cases y <;> exact ⟨_, rfl⟩
  obtain ⟨sm, hsm⟩ := hsm
  obtain ⟨j, rfl⟩ : ∃ j, k = j + 2 := ⟨k - 2, by omega⟩
  obtain ⟨g, hg, hgt⟩ := h3 (j + 1) (by omega)
  have hgo : laws_gGood_l1 [T27.mk x0 x1 x2 x3 x4 x5 x6] (j + 2) 0 = some (if g = true then .inr () else .inl ()) := by
    show laws_gGood_l1s [T27.mk x0 x1 x2 x3 x4 x5 x6] (j + 1) (laws_gGood_l1 [T27.mk x0 x1 x2 x3 x4 x5 x6] (j + 1)) 0 = _
    unfold laws_gGood_l1s
    rw [show idx [T27.mk x0 x1 x2 x3 x4 x5 x6] 0 = some (T27.mk x0 x1 x2 x3 x4 x5 x6) from rfl, decide_eq_true (by simp), br_true, sbind, hg, sbind]
    cases g
    · rfl
    · show laws_gGood_l1s [T27.mk x0 x1 x2 x3 x4 x5 x6] j (laws_gGood_l1 [T27.mk x0 x1 x2 x3 x4 x5 x6] j) 1 = _
      unfold laws_gGood_l1s
      rw [decide_eq_false (by simp), br_false]; rfl
  unfold laws_gGood
  rw [hsm, sbind]
  cases sm
  · exact ⟨false, rfl, fun h => by cases h⟩
  · rw [Bool.not_true, br_false, hgo, sbind]
    cases g
    · exact ⟨false, rfl, fun h => by cases h⟩
    · exact ⟨true, rfl, fun _ => ⟨j, hg⟩⟩
end Go.Proofs.Ytmagcmeknclljaa
