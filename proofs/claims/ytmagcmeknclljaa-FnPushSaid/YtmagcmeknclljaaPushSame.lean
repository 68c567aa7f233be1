/-
  The law's checks of sizes, and that data are the same as themselves. Ours.
-/
import Derived.Test.YtmagcmeknclljaaPushCol
namespace Go.Proofs.Ytmagcmeknclljaa
open Go.Sx
set_option linter.unusedVariables false
set_option linter.unusedSimpArgs false
set_option maxRecDepth 100000

theorem fits3_is (xs : List (List Int)) (hlen : xs.length ≤ maxLen) (k : Nat) (hk : xs.length < k) : ∃ b, laws_zzFits3 k xs = some b ∧ (b = true → ∀ x ∈ xs, x.length ≤ 2147483647) := by
  unfold laws_zzFits3
  by_cases h : 2147483647 < (xs.length : Int)
  · rw [decide_eq_true h, br_true]; exact ⟨false, rfl, fun h => by cases h⟩
  rw [decide_eq_false h, br_false]
  have := loop_inv (F := laws_zzFits3_l1 xs) 0 (fun m p => p = ((xs.length - m : Nat) : Int) ∧ m ≤ xs.length ∧ ∀ i (hi : i < xs.length), i < xs.length - m → xs[i].length ≤ 2147483647) (fun y => y = .inr () → ∀ x ∈ xs, x.length ≤ 2147483647) (by
    intro k m p _ hI
    obtain ⟨rfl, hm, hI⟩ := hI
    have hs : laws_zzFits3_l1 xs (k + 1) ((xs.length - m : Nat) : Int) = laws_zzFits3_l1s xs k (laws_zzFits3_l1 xs k) ((xs.length - m : Nat) : Int) := rfl
    rw [hs]
    unfold laws_zzFits3_l1s
    by_cases e : m = 0
    · subst e
      rw [decide_eq_false (by omega), br_false]
      refine .inl ⟨_, rfl, fun _ x hx => ?_⟩
      obtain ⟨i, hi, rfl⟩ := List.mem_iff_getElem.1 hx
      exact hI i hi (by omega)
    · have hi : xs.length - m < xs.length := by omega
      rw [decide_eq_true (by omega), br_true, idx_get hi, sbind]
      by_cases hb : 2147483647 < (xs[xs.length - m].length : Int)
      · rw [decide_eq_true hb, br_true]
        exact .inl ⟨_, rfl, fun h => by cases h⟩
      · rw [decide_eq_false hb, br_false, iadd_one (by omega)]
        refine .inr ⟨m - 1, _, by omega, ⟨?_, by omega, fun i hi' hlt => ?_⟩, rfl⟩
        · congr 1; omega
        · by_cases ee : i = xs.length - m
          · subst ee; omega
          · exact hI i hi' (by omega)) xs.length 0 k ⟨by simp, Nat.le_refl _, fun i hi h => by omega⟩ (by omega)
  obtain ⟨y, hy, hQ⟩ := this
  rw [hy, sbind]
  rcases y with u | u
  · exact ⟨false, rfl, fun h => by cases h⟩
  · exact ⟨true, rfl, fun _ => hQ rfl⟩
theorem fits2_is (k : Nat) (a0 a1 a2 : Int) (a3 : List Nat) (a4 : List Int) (a5 : List (List Int)) (a6 : List T27) (h5 : a5.length ≤ maxLen) (hk : a5.length < k) :
    ∃ b, laws_zzFits2 k a0 a1 a2 a3 a4 a5 a6 = some b ∧ (b = true → a3.length ≤ 2147483647 ∧ a4.length ≤ 2147483647 ∧ a5.length ≤ 2147483647 ∧ (∀ x ∈ a5, x.length ≤ 2147483647) ∧ a6.length ≤ 2147483647) := by
  unfold laws_zzFits2
  by_cases h3 : 2147483647 < (a3.length : Int)
  · rw [decide_eq_true h3, br_true]; exact ⟨false, rfl, fun h => by cases h⟩
  rw [decide_eq_false h3, br_false]
  by_cases h4 : 2147483647 < (a4.length : Int)
  · rw [decide_eq_true h4, br_true]; exact ⟨false, rfl, fun h => by cases h⟩
  rw [decide_eq_false h4, br_false]
  have h5' : a5.length ≤ 2147483647 ∨ laws_zzFits3 k a5 = some false := by
    by_cases h : 2147483647 < (a5.length : Int)
    · right; unfold laws_zzFits3; rw [decide_eq_true h, br_true]
    · left; omega
  obtain ⟨b, hb, hQ⟩ := fits3_is a5 h5 k hk
  rw [hb, sbind]
  cases b
  · exact ⟨false, rfl, fun h => by cases h⟩
  rw [Bool.not_true, br_false]
  by_cases h6 : 2147483647 < (a6.length : Int)
  · rw [decide_eq_true h6, br_true]; exact ⟨false, rfl, fun h => by cases h⟩
  rw [decide_eq_false h6, br_false]
  refine ⟨true, rfl, fun _ => ⟨by omega, by omega, ?_, hQ rfl, by omega⟩⟩
  rcases h5' with h | h
  · exact h
  · rw [hb] at h; cases h

theorem sameIntsK {k : Nat} (xs : List Int) (h : xs.length < k) (h2 : xs.length < 9223372036854775807) : spec_sameInts k xs xs = some true := by
  have key := loop_any (F := spec_sameInts_l1 xs xs) 0 xs.length (fun _ => false) (.inl ()) (.inr ()) (fun k i _ hi => by
    simp only [spec_sameInts_l1, spec_sameInts_l1s, lt_true hi, br_true, idx_get hi, Option.bind_eq_bind, Option.bind_some, decide_true, Bool.not_true, br_false, Bool.false_eq_true, if_false]
    rw [iadd_one (by omega)]) (fun k => by simp only [spec_sameInts_l1, spec_sameInts_l1s, lt_false (Nat.lt_irrefl _), br_false]) xs.length 0 k (by omega) (by omega)
  have e : (List.range' 0 xs.length).any (fun _ => false) = false := any_false fun _ _ => rfl
  rw [e] at key
  unfold spec_sameInts
  have : (!decide ((xs.length : Int) = (xs.length : Int))) = false := by simp
  rw [this, br_false]
  rw [show (0 : Int) = ((0 : Nat) : Int) from rfl, key]
  rfl
theorem sameFloatsK {k : Nat} (xs : List Nat) (h : xs.length < k) (h2 : xs.length < 9223372036854775807) : spec_SameFloats k xs xs = some true := by
  have key := loop_any (F := spec_SameFloats_l1 xs xs) 0 xs.length (fun _ => false) (.inl ()) (.inr ()) (fun k i _ hi => by
    simp only [spec_SameFloats_l1, spec_SameFloats_l1s, lt_true hi, br_true, idx_get hi, Option.bind_eq_bind, Option.bind_some, decide_true, Bool.not_true, br_false, Bool.false_eq_true, if_false]
    rw [iadd_one (by omega)]) (fun k => by simp only [spec_SameFloats_l1, spec_SameFloats_l1s, lt_false (Nat.lt_irrefl _), br_false]) xs.length 0 k (by omega) (by omega)
  have e : (List.range' 0 xs.length).any (fun _ => false) = false := any_false fun _ _ => rfl
  rw [e] at key
  unfold spec_SameFloats
  have : (!decide ((xs.length : Int) = (xs.length : Int))) = false := by simp
  rw [this, br_false]
  rw [show (0 : Int) = ((0 : Nat) : Int) from rfl, key]
  rfl
theorem sameK {x : T27} (hx : x.OkW) : ∃ K, ∀ k, K ≤ k → spec_SameGeom k x.f0 x.f1 x.f2 x.f3 x.f4 x.f5 x.f6 x.f0 x.f1 x.f2 x.f3 x.f4 x.f5 x.f6 = some true := by
  induction hx with
  | @mk x0 x1 x2 x3 x4 x5 x6 g0 g1 g2 g3 g4 g5 g6 gk ih =>
    have hm : maxLen = 9223372036854775807 := rfl
    obtain ⟨K, hK⟩ := all_bound x6 ih
    refine ⟨K + x6.length + x5.length + 140737488355328 + 3, fun k hk => ?_⟩
    obtain ⟨j, rfl⟩ : ∃ j, k = j + 1 := ⟨k - 1, by omega⟩
    have k5 := loop_any (F := spec_SameGeom_l1 x5 x5) 140737488355328 x5.length (fun _ => false) (.inl ()) (.inr ()) (fun k i hkm hi => by
      have := (g5.2 _ (List.getElem_mem hi)).1
      simp only [spec_SameGeom_l1, spec_SameGeom_l1s, lt_true hi, br_true, idx_get hi, sameIntsK x5[i] (k := k) (by omega) (by omega), Option.bind_eq_bind, Option.bind_some, decide_true, Bool.not_true, br_false, Bool.false_eq_true, if_false]
      rw [iadd_one (by omega)]) (fun k => by simp only [spec_SameGeom_l1, spec_SameGeom_l1s, lt_false (Nat.lt_irrefl _), br_false]) x5.length 0 j (by omega) (by omega)
    have k6 := loop_any (F := spec_SameGeom_l2 x6 x6 (spec_SameGeom j)) 0 x6.length (fun _ => false) (.inl ()) (.inr ()) (fun k i _ hi => by
      have := hK j (by omega) _ (List.getElem_mem hi)
      simp only [spec_SameGeom_l2, spec_SameGeom_l2s, lt_true hi, br_true, idx_get hi, this, Option.bind_eq_bind, Option.bind_some, decide_true, Bool.not_true, br_false, Bool.false_eq_true, if_false]
      rw [iadd_one (by omega)]) (fun k => by simp only [spec_SameGeom_l2, spec_SameGeom_l2s, lt_false (Nat.lt_irrefl _), br_false]) x6.length 0 j (by omega) (by omega)
    have e : ∀ n, (List.range' 0 n).any (fun _ => false) = false := fun n => any_false fun _ _ => rfl
    rw [e] at k5 k6
    have k5' : spec_SameGeom_l1 x5 x5 j 0 = some (.inr ()) := k5
    have k6' : spec_SameGeom_l2 x6 x6 (spec_SameGeom j) j 0 = some (.inr ()) := k6
    show spec_SameGeom_b (spec_SameGeom j) j x0 x1 x2 x3 x4 x5 x6 x0 x1 x2 x3 x4 x5 x6 = some true
    simp only [spec_SameGeom_b, spec_SameGeom_j1, spec_SameGeom_j2, spec_SameGeom_j3, spec_SameGeom_j4, spec_SameGeom_j5, spec_SameGeom_j6, decide_true, Bool.not_true, br_false, sameFloatsK x3 (k := j) (by omega) (by omega), sameIntsK x4 (k := j) (by omega) (by omega), sbind, k5', k6']
end Go.Proofs.Ytmagcmeknclljaa
