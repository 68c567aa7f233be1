/-
  Boxes as the laws ask for them: as many axes as the layout says, no number NaN. Ours.
-/
import Derived.Test.YtmagcmeknclljaaFun
import Derived.Test.YtmagcmeknclljaaSxV
import Derived.Test.YtmagcmeknclljaaSxL
namespace Go.Proofs.Ytmagcmeknclljaa
open Go.Sx
set_option linter.unusedVariables false
set_option linter.unusedSimpArgs false

theorem bstride_is (k : Nat) (a : Int) : ∃ s, spec_Stride k a = some s ∧ (1 ≤ a → a ≤ 9 → gogeom_Layout_Stride k a = some s) ∧ (1 ≤ a → 0 ≤ s) ∧ (a ≤ 9 → s ≤ 9) := by
  unfold spec_Stride gogeom_Layout_Stride
  by_cases h1 : a < 1
  · exact ⟨0, by rw [decide_eq_true h1, br_true], fun h => by omega, fun h => by omega, fun _ => by omega⟩
  by_cases h2 : a = 1
  · subst h2; exact ⟨2, rfl, fun _ _ => rfl, fun _ => by omega, fun _ => by omega⟩
  by_cases h3 : a = 2
  · subst h3; exact ⟨3, rfl, fun _ _ => rfl, fun _ => by omega, fun _ => by omega⟩
  by_cases h4 : a = 3
  · subst h4; exact ⟨3, rfl, fun _ _ => rfl, fun _ => by omega, fun _ => by omega⟩
  have h0 : ¬ a = 0 := by omega
  refine ⟨a, ?_, fun _ _ => ?_, fun _ => by omega, fun h => h⟩
  · rw [decide_eq_false h1, br_false, decide_eq_false h2, br_false, decide_eq_false h3, br_false, decide_eq_false h4]; rfl
  · rw [decide_eq_false h0, br_false, decide_eq_false h2, br_false, decide_eq_false h3, br_false, decide_eq_false h4, br_false]
    by_cases h5 : a = 4
    · rw [decide_eq_true h5, h5]; rfl
    · rw [decide_eq_false h5]; rfl

/-- the numbers of one box: none of them NaN -/
def nanAt (a b : List Nat) (i : Nat) : Bool := !(feq (a.getD i 0) (a.getD i 0)) || !(feq (b.getD i 0) (b.getD i 0))
theorem bBox_l1_is (r : Int × List Nat × List Nat) (hl : r.2.2.length = r.2.1.length) (hb : r.2.1.length ≤ 9) (k : Nat) (hk : 20 < k) : ∃ y, laws_bBox_l2 r k 0 = some y ∧ (y = .inr () → ∀ i, i < r.2.1.length → nanAt r.2.1 r.2.2 i = false) := by
  have h := loop_any (F := laws_bBox_l2 r) 0 r.2.1.length (nanAt r.2.1 r.2.2) (.inl ()) (.inr ()) (fun k i _ hi => by
    have hi2 : i < r.2.2.length := by omega
    have e1 : r.2.1.getD i 0 = r.2.1[i] := by simp [List.getD, List.getElem?_eq_getElem hi]
    have e2 : r.2.2.getD i 0 = r.2.2[i] := by simp [List.getD, List.getElem?_eq_getElem hi2]
    simp only [laws_bBox_l2, laws_bBox_l2s, lt_true hi, br_true, idx_get hi, idx_get hi2, Option.bind_eq_bind, Option.bind_some, laws_gNumber, nanAt, e1, e2, iadd_one (show i < 9223372036854775807 from by omega)]
    cases feq r.2.1[i] r.2.1[i] <;> cases feq r.2.2[i] r.2.2[i] <;> simp [br, laws_bBox_j10, iadd_one (show i < 9223372036854775807 from by omega)])
    (fun k => by simp only [laws_bBox_l2, laws_bBox_l2s, lt_false (Nat.lt_irrefl _), br_false]) r.2.1.length 0 k (by omega) (by omega)
  refine ⟨_, h, fun hy i hi => ?_⟩
  cases ha : (List.range' 0 r.2.1.length).any (nanAt r.2.1 r.2.2) with
  | true => rw [ha] at hy; simp at hy
  | false => exact not_any ha hi
theorem bBox_j1_is (r : Int × List Nat × List Nat) (k : Nat) (hk : 20 < k) (rec2 : Int → Option (Unit ⊕ Unit)) (x : Int) (b : Bool) (hb : b = false → 0 ≤ r.1 ∧ r.1 ≤ 9) :
    laws_bBox_j6 k r rec2 x b = some (.inl ()) ∨ (b = false ∧ (∀ s, spec_Stride k r.1 = some s → (r.2.1.length : Int) = s) ∧ r.2.2.length = r.2.1.length ∧ (∀ i, i < r.2.1.length → nanAt r.2.1 r.2.2 i = false) ∧ laws_bBox_j6 k r rec2 x b = rec2 (iadd .i64 x 1)) := by
  cases b with
  | true => exact .inl rfl
  | false =>
    obtain ⟨h0, h9⟩ := hb rfl
    unfold laws_bBox_j6
    rw [br_false]
    obtain ⟨s, hs, _, _, hs9⟩ := bstride_is k r.1
    rw [hs]
    simp only [Option.bind_eq_bind, Option.bind_some]
    by_cases h1 : (r.2.1.length : Int) = s
    · rw [decide_eq_true h1]
      unfold laws_bBox_j7
      rw [Bool.not_true, br_false]
      by_cases h2 : (r.2.2.length : Int) = (r.2.1.length : Int)
      · rw [decide_eq_true h2]
        unfold laws_bBox_j8
        rw [Bool.not_true, br_false]
        have := hs9 h9
        obtain ⟨y, hy, hnan⟩ := bBox_l1_is r (by omega) (by omega) k hk
        rw [hy]
        cases y with
        | inl u => exact .inl rfl
        | inr u => exact .inr ⟨trivial, fun s' hs' => by cases hs'; exact h1, by omega, hnan rfl, rfl⟩
      · rw [decide_eq_false h2]; exact .inl rfl
    · rw [decide_eq_false h1]; exact .inl rfl
/-- a box as the laws ask for it -/
def GoodBox (p : Int × List Nat × List Nat) : Prop := 0 ≤ p.1 ∧ p.1 ≤ 9 ∧ (∀ k s, spec_Stride k p.1 = some s → (p.2.1.length : Int) = s) ∧ p.2.2.length = p.2.1.length ∧ ∀ i, i < p.2.1.length → nanAt p.2.1 p.2.2 i = false
theorem bBox_round (l : List (Int × List Nat × List Nat)) (k i : Nat) (hk : 20 < k) (hi : i < l.length) (hl : l.length < 1000) :
    laws_bBox_l3 l (k + 1) (i : Int) = some (.inl ()) ∨ (GoodBox l[i] ∧ laws_bBox_l3 l (k + 1) (i : Int) = laws_bBox_l3 l k ((i + 1 : Nat) : Int)) := by
  have e : laws_bBox_l3 l (k + 1) (i : Int) = br (decide (l[i].1 < 0)) (laws_bBox_j6 k l[i] (laws_bBox_l3 l k) (i : Int) true) (laws_bBox_j6 k l[i] (laws_bBox_l3 l k) (i : Int) (decide (9 < l[i].1))) := by
    simp only [laws_bBox_l3, laws_bBox_l3s, lt_true hi, idx_get hi, br_true, Option.bind_eq_bind, Option.bind_some]
  rw [e]
  generalize l[i] = p
  by_cases h0 : p.1 < 0
  · rw [decide_eq_true h0]; exact .inl rfl
  · rw [decide_eq_false h0, br_false]
    rcases bBox_j1_is p k hk (laws_bBox_l3 l k) (i : Int) (decide (9 < p.1)) (fun h => by simp at h; omega) with h | ⟨h1, h2, h3, h5, h4⟩
    · exact .inl h
    · refine .inr ⟨⟨by omega, by simp at h1; omega, fun k' s hs => ?_, h3, h5⟩, ?_⟩
      · have : spec_Stride k' p.1 = spec_Stride k p.1 := rfl
        rw [this] at hs
        exact h2 s hs
      · rw [h4, iadd_one (show i < 9223372036854775807 from by omega)]
theorem bBox_is (k : Nat) (l : List (Int × List Nat × List Nat)) (hl : l.length < 1000) (hk : l.length + 30 < k) : ∃ b, laws_bBox k l = some b ∧ (b = true → ∀ p ∈ l, GoodBox p) := by
  obtain ⟨y, hy, hQ⟩ := loop_inv (F := laws_bBox_l3 l) 21 (fun m x => ∃ i : Nat, x = (i : Int) ∧ i + m = l.length ∧ ∀ j (hj : j < l.length), j < i → GoodBox l[j]) (fun y => y = .inr () → ∀ p ∈ l, GoodBox p) (fun k m x hk => by
    rintro ⟨i, rfl, him, hg⟩
    by_cases hi : i < l.length
    · rcases bBox_round l k i (by omega) hi hl with h | ⟨h1, h2⟩
      · exact .inl ⟨_, h, by simp⟩
      · refine .inr ⟨m - 1, _, by omega, ⟨i + 1, rfl, by omega, fun j hj hji => ?_⟩, h2⟩
        by_cases e : j = i
        · subst e; exact h1
        · exact hg j hj (by omega)
    · refine .inl ⟨.inr (), by simp only [laws_bBox_l3, laws_bBox_l3s, lt_false hi, br_false], fun _ p hp => ?_⟩
      obtain ⟨j, hj, rfl⟩ := List.mem_iff_getElem.1 hp
      exact hg j hj (by omega)) l.length 0 k ⟨0, rfl, by omega, fun j _ h => by omega⟩ (by omega)
  unfold laws_bBox
  rw [hy, Option.bind_eq_bind, Option.bind_some]
  cases y with
  | inl u => exact ⟨false, rfl, by simp⟩
  | inr u => exact ⟨true, rfl, fun _ => hQ rfl⟩

theorem bfloats_is (k : Nat) (a : List Nat) (h : a.length ≤ 2147483647) : impl_floats k a = some a := by
  unfold impl_floats
  rw [apd_some (by simp; omega) (by simp; omega)]; rfl

theorem bfits1_is (k : Nat) (x : Int) (l m : List Nat) : ∃ r, laws_zzFits1 k x l m = some r ∧ (r = true → l.length ≤ 2147483647 ∧ m.length ≤ 2147483647) := by
  unfold laws_zzFits1
  by_cases h1 : 2147483647 < (l.length : Int)
  · exact ⟨false, by rw [decide_eq_true h1, br_true], by simp⟩
  · by_cases h2 : 2147483647 < (m.length : Int)
    · exact ⟨false, by rw [decide_eq_false h1, br_false, decide_eq_true h2, br_true], by simp⟩
    · exact ⟨true, by rw [decide_eq_false h1, br_false, decide_eq_false h2, br_false], fun _ => by omega⟩
end Go.Proofs.Ytmagcmeknclljaa
