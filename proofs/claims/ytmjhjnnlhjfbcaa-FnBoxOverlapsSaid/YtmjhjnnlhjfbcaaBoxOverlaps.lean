/-
  Two boxes overlap just if no axis has one ending ahead of the other: the plain statement. Ours.
-/
import Derived.Test.YtmjhjnnlhjfbcaaFun
import Derived.Test.YtmjhjnnlhjfbcaaSxV
import Derived.Test.YtmjhjnnlhjfbcaaSxL
namespace Go.Proofs.Ytmjhjnnlhjfbcaa
open Go.Sx
set_option linter.unusedVariables false
set_option linter.unusedSimpArgs false

theorem stride_is (k : Nat) (a : Int) : ∃ s, spec_Stride k a = some s ∧ (1 ≤ a → a ≤ 9 → gogeom_Layout_Stride k a = some s) ∧ (1 ≤ a → 0 ≤ s) ∧ (a ≤ 9 → s ≤ 9) := by
  unfold spec_Stride gogeom_Layout_Stride
  by_cases h1 : a < 1
  · exact ⟨0, by rw [decide_eq_true h1, br_true], fun h => by omega, fun h => by omega, fun _ => by omega⟩
  by_cases h2 : a = 1
  · subst h2; exact ⟨2, rfl, fun _ _ => rfl, fun _ => by omega, fun _ => by omega⟩
  by_cases h3 : a = 2
  · subst h3; exact ⟨3, rfl, fun _ _ => rfl, fun _ => by omega, fun _ => by omega⟩
  by_cases h4 : a = 3
  · subst h4; exact ⟨3, rfl, fun _ _ => rfl, fun _ => by omega, fun _ => by omega⟩
  have h0 : ¬ a = 0 := by omega
  refine ⟨a, ?_, fun _ _ => ?_, fun _ => by omega, fun h => h⟩
  · rw [decide_eq_false h1, br_false, decide_eq_false h2, br_false, decide_eq_false h3, br_false, decide_eq_false h4]; rfl
  · rw [decide_eq_false h0, br_false, decide_eq_false h2, br_false, decide_eq_false h3, br_false, decide_eq_false h4, br_false]
    by_cases h5 : a = 4
    · rw [decide_eq_true h5, h5]; rfl
    · rw [decide_eq_false h5]; rfl

/-- the numbers of one box: none of them NaN -/
def nanAt (a b : List Nat) (i : Nat) : Bool := !(feq (a.getD i 0) (a.getD i 0)) || !(feq (b.getD i 0) (b.getD i 0))
theorem bBox_l1_is (r : Int × List Nat × List Nat) (hl : r.2.2.length = r.2.1.length) (hb : r.2.1.length ≤ 9) (k : Nat) (hk : 20 < k) : ∃ y, laws_bBox_l1 r k 0 = some y := by
  have h := loop_any (F := laws_bBox_l1 r) 0 r.2.1.length (nanAt r.2.1 r.2.2) (.inl ()) (.inr ()) (fun k i _ hi => by
    have hi2 : i < r.2.2.length := by omega
    have e1 : r.2.1.getD i 0 = r.2.1[i] := by simp [List.getD, List.getElem?_eq_getElem hi]
    have e2 : r.2.2.getD i 0 = r.2.2[i] := by simp [List.getD, List.getElem?_eq_getElem hi2]
    simp only [laws_bBox_l1, laws_bBox_l1s, lt_true hi, br_true, idx_get hi, idx_get hi2, Option.bind_eq_bind, Option.bind_some, laws_gNumber, nanAt, e1, e2, iadd_one (show i < 9223372036854775807 from by omega)]
    cases feq r.2.1[i] r.2.1[i] <;> cases feq r.2.2[i] r.2.2[i] <;> simp [br, laws_bBox_j4, iadd_one (show i < 9223372036854775807 from by omega)])
    (fun k => by simp only [laws_bBox_l1, laws_bBox_l1s, lt_false (Nat.lt_irrefl _), br_false]) r.2.1.length 0 k (by omega) (by omega)
  exact ⟨_, h⟩
theorem bBox_j1_is (r : Int × List Nat × List Nat) (k : Nat) (hk : 20 < k) (rec2 : Int → Option (Unit ⊕ Unit)) (x : Int) (b : Bool) (hb : b = false → 0 ≤ r.1 ∧ r.1 ≤ 9) :
    laws_bBox_j1 k r rec2 x b = some (.inl ()) ∨ (b = false ∧ (∀ s, spec_Stride k r.1 = some s → (r.2.1.length : Int) = s) ∧ r.2.2.length = r.2.1.length ∧ laws_bBox_j1 k r rec2 x b = rec2 (iadd .i64 x 1)) := by
  cases b with
  | true => exact .inl rfl
  | false =>
    obtain ⟨h0, h9⟩ := hb rfl
    unfold laws_bBox_j1
    rw [br_false]
    obtain ⟨s, hs, _, _, hs9⟩ := stride_is k r.1
    rw [hs]
    simp only [Option.bind_eq_bind, Option.bind_some]
    by_cases h1 : (r.2.1.length : Int) = s
    · rw [decide_eq_true h1]
      unfold laws_bBox_j2
      rw [Bool.not_true, br_false]
      by_cases h2 : (r.2.2.length : Int) = (r.2.1.length : Int)
      · rw [decide_eq_true h2]
        unfold laws_bBox_j3
        rw [Bool.not_true, br_false]
        have := hs9 h9
        obtain ⟨y, hy⟩ := bBox_l1_is r (by omega) (by omega) k hk
        rw [hy]
        cases y with
        | inl u => exact .inl rfl
        | inr u => exact .inr ⟨trivial, fun s' hs' => by cases hs'; exact h1, by omega, rfl⟩
      · rw [decide_eq_false h2]; exact .inl rfl
    · rw [decide_eq_false h1]; exact .inl rfl
/-- a box as the laws ask for it -/
def GoodBox (p : Int × List Nat × List Nat) : Prop := 0 ≤ p.1 ∧ p.1 ≤ 9 ∧ (∀ k s, spec_Stride k p.1 = some s → (p.2.1.length : Int) = s) ∧ p.2.2.length = p.2.1.length
theorem bBox_round (l : List (Int × List Nat × List Nat)) (k i : Nat) (hk : 20 < k) (hi : i < l.length) (hl : l.length < 1000) :
    laws_bBox_l2 l (k + 1) (i : Int) = some (.inl ()) ∨ (GoodBox l[i] ∧ laws_bBox_l2 l (k + 1) (i : Int) = laws_bBox_l2 l k ((i + 1 : Nat) : Int)) := by
  have e : laws_bBox_l2 l (k + 1) (i : Int) = br (decide (l[i].1 < 0)) (laws_bBox_j1 k l[i] (laws_bBox_l2 l k) (i : Int) true) (laws_bBox_j1 k l[i] (laws_bBox_l2 l k) (i : Int) (decide (9 < l[i].1))) := by
    simp only [laws_bBox_l2, laws_bBox_l2s, lt_true hi, idx_get hi, br_true, Option.bind_eq_bind, Option.bind_some]
  rw [e]
  generalize l[i] = p
  by_cases h0 : p.1 < 0
  · rw [decide_eq_true h0]; exact .inl rfl
  · rw [decide_eq_false h0, br_false]
    rcases bBox_j1_is p k hk (laws_bBox_l2 l k) (i : Int) (decide (9 < p.1)) (fun h => by simp at h; omega) with h | ⟨h1, h2, h3, h4⟩
    · exact .inl h
    · refine .inr ⟨⟨by omega, by simp at h1; omega, fun k' s hs => ?_, h3⟩, ?_⟩
      · have : spec_Stride k' p.1 = spec_Stride k p.1 := rfl
        rw [this] at hs
        exact h2 s hs
      · rw [h4, iadd_one (show i < 9223372036854775807 from by omega)]
theorem bBox_is (k : Nat) (l : List (Int × List Nat × List Nat)) (hl : l.length < 1000) (hk : l.length + 30 < k) : ∃ b, laws_bBox k l = some b ∧ (b = true → ∀ p ∈ l, GoodBox p) := by
  obtain ⟨y, hy, hQ⟩ := loop_inv (F := laws_bBox_l2 l) 21 (fun m x => ∃ i : Nat, x = (i : Int) ∧ i + m = l.length ∧ ∀ j (hj : j < l.length), j < i → GoodBox l[j]) (fun y => y = .inr () → ∀ p ∈ l, GoodBox p) (fun k m x hk => by
    rintro ⟨i, rfl, him, hg⟩
    by_cases hi : i < l.length
    · rcases bBox_round l k i (by omega) hi hl with h | ⟨h1, h2⟩
      · exact .inl ⟨_, h, by simp⟩
      · refine .inr ⟨m - 1, _, by omega, ⟨i + 1, rfl, by omega, fun j hj hji => ?_⟩, h2⟩
        by_cases e : j = i
        · subst e; exact h1
        · exact hg j hj (by omega)
    · refine .inl ⟨.inr (), by simp only [laws_bBox_l2, laws_bBox_l2s, lt_false hi, br_false], fun _ p hp => ?_⟩
      obtain ⟨j, hj, rfl⟩ := List.mem_iff_getElem.1 hp
      exact hg j hj (by omega)) l.length 0 k ⟨0, rfl, by omega, fun j _ h => by omega⟩ (by omega)
  unfold laws_bBox
  rw [hy, Option.bind_eq_bind, Option.bind_some]
  cases y with
  | inl u => exact ⟨false, rfl, by simp⟩
  | inr u => exact ⟨true, rfl, fun _ => hQ rfl⟩

def apartAt (a b c d : List Nat) (i : Nat) : Bool := fgt (a.getD i 0) (d.getD i 0) || flt (b.getD i 0) (c.getD i 0)
/-- the package's loop and the reference's -/
theorem loops_is (n : Nat) (a b c d : List Nat) (ha : n ≤ a.length) (hb : n ≤ b.length) (hc : n ≤ c.length) (hd : n ≤ d.length) (hn : n ≤ 20) :
    ∃ y, gogeom_Bounds_Overlaps_l1 (n : Int) a d b c 100 0 = some y ∧ spec_BoxesOverlap_l1 (n : Int) b c d a 100 0 = some y := by
  have e : ∀ (l : List Nat) (i : Nat) (h : i < l.length), l.getD i 0 = l[i] := fun l i h => by simp [List.getD, List.getElem?_eq_getElem h]
  have h1 := loop_any (F := gogeom_Bounds_Overlaps_l1 (n : Int) a d b c) 0 n (apartAt a b c d) (.inl ()) (.inr ()) (fun k i _ hi => by
    have i1 : i < a.length := by omega
    have i2 : i < b.length := by omega
    have i3 : i < c.length := by omega
    have i4 : i < d.length := by omega
    simp only [gogeom_Bounds_Overlaps_l1, gogeom_Bounds_Overlaps_l1s, lt_true hi, br_true, idx_get i1, idx_get i2, idx_get i3, idx_get i4, Option.bind_eq_bind, Option.bind_some, apartAt, e _ _ i1, e _ _ i2, e _ _ i3, e _ _ i4]
    cases fgt a[i] d[i] <;> cases flt b[i] c[i] <;> simp [br, gogeom_Bounds_Overlaps_j1, iadd_one (show i < 9223372036854775807 from by omega)])
    (fun k => by simp only [gogeom_Bounds_Overlaps_l1, gogeom_Bounds_Overlaps_l1s, lt_false (Nat.lt_irrefl _), br_false]) n 0 100 (by omega) (by omega)
  have h2 := loop_any (F := spec_BoxesOverlap_l1 (n : Int) b c d a) 0 n (apartAt a b c d) (.inl ()) (.inr ()) (fun k i _ hi => by
    have i1 : i < a.length := by omega
    have i2 : i < b.length := by omega
    have i3 : i < c.length := by omega
    have i4 : i < d.length := by omega
    simp only [spec_BoxesOverlap_l1, spec_BoxesOverlap_l1s, lt_true hi, br_true, idx_get i1, idx_get i2, idx_get i3, idx_get i4, Option.bind_eq_bind, Option.bind_some, apartAt, e _ _ i1, e _ _ i2, e _ _ i3, e _ _ i4, fgt_flt a[i] d[i]]
    cases flt d[i] a[i] <;> cases flt b[i] c[i] <;> simp [br, spec_BoxesOverlap_j1, iadd_one (show i < 9223372036854775807 from by omega)])
    (fun k => by simp only [spec_BoxesOverlap_l1, spec_BoxesOverlap_l1s, lt_false (Nat.lt_irrefl _), br_false]) n 0 100 (by omega) (by omega)
  exact ⟨_, h1, h2⟩

theorem floats_is (k : Nat) (a : List Nat) (h : a.length ≤ 2147483647) : impl_floats k a = some a := by
  unfold impl_floats
  rw [apd_some (by simp; omega) (by simp; omega)]; rfl

theorem pure_FnBoxOverlaps (a : Int) (b c : Int × List Nat × List Nat) : laws_FnBoxOverlaps 100 a b.1 b.2.1 b.2.2 c.1 c.2.1 c.2.2 = some true := by
  have fits : ∀ (k : Nat) (x : Int) (l m : List Nat), ∃ r, laws_zzFits1 k x l m = some r ∧ (r = true → l.length ≤ 2147483647 ∧ m.length ≤ 2147483647) := by
    intro k x l m
    unfold laws_zzFits1
    by_cases h1 : 2147483647 < (l.length : Int)
    · exact ⟨false, by rw [decide_eq_true h1, br_true], by simp⟩
    · by_cases h2 : 2147483647 < (m.length : Int)
      · exact ⟨false, by rw [decide_eq_false h1, br_false, decide_eq_true h2, br_true], by simp⟩
      · exact ⟨true, by rw [decide_eq_false h1, br_false, decide_eq_false h2, br_false], fun _ => by omega⟩
  have done : laws_FnBoxOverlaps_j1 100 b.1 b.2.1 b.2.2 c.1 c.2.1 c.2.2 a true = some true := rfl
  have key : (b.2.1.length ≤ 2147483647 ∧ b.2.2.length ≤ 2147483647) → (c.2.1.length ≤ 2147483647 ∧ c.2.2.length ≤ 2147483647) → laws_FnBoxOverlaps_j1 100 b.1 b.2.1 b.2.2 c.1 c.2.1 c.2.2 a false = some true := by
    intro f1 f2
    unfold laws_FnBoxOverlaps_j1
    rw [br_false]
    obtain ⟨r, hr, hr'⟩ := bBox_is 100 [(b.1, b.2.1, b.2.2), (c.1, c.2.1, c.2.2)] (by simp) (by simp)
    rw [hr, Option.bind_eq_bind, Option.bind_some]
    cases r with
    | false => rfl
    | true =>
      obtain ⟨b0, b9, bs, bl⟩ := hr' rfl (b.1, b.2.1, b.2.2) (by simp)
      obtain ⟨c0, c9, cs, cl⟩ := hr' rfl (c.1, c.2.1, c.2.2) (by simp)
      simp only at b0 b9 bs bl c0 c9 cs cl
      rw [Bool.not_true, br_false]
      by_cases ha : a < 1
      · rw [decide_eq_true ha]; rfl
      rw [decide_eq_false ha]
      unfold laws_FnBoxOverlaps_j2
      rw [br_false]
      obtain ⟨s, hs, hs1, hs2, hs3⟩ := stride_is 100 a
      rw [hs, Option.bind_eq_bind, Option.bind_some]
      by_cases hm : imin (b.2.1.length : Int) (c.2.1.length : Int) < s
      · rw [decide_eq_true hm]; rfl
      rw [decide_eq_false hm]
      unfold laws_FnBoxOverlaps_j3
      rw [br_false]
      obtain ⟨sb, hsb, _, _, hsb9⟩ := stride_is 100 b.1
      obtain ⟨sc, hsc, _, _, hsc9⟩ := stride_is 100 c.1
      have lb := bs 100 sb hsb
      have lc := cs 100 sc hsc
      have := hsb9 b9; have := hsc9 c9
      have hmin : s ≤ (b.2.1.length : Int) ∧ s ≤ (c.2.1.length : Int) := by
        unfold imin at hm
        split at hm <;> omega
      have hs0 := hs2 (by omega)
      have ha9 : a ≤ 9 := by
        refine Int.not_lt.1 fun h => ?_
        have : spec_Stride 100 a = some a := by
          unfold spec_Stride
          rw [decide_eq_false (by omega), br_false, decide_eq_false (by omega), br_false, decide_eq_false (by omega), br_false, decide_eq_false (by omega)]; rfl
        rw [hs] at this
        have := Option.some.inj this
        omega
      obtain ⟨n, hn⟩ : ∃ n : Nat, s = (n : Int) := ⟨s.toNat, by omega⟩
      subst hn
      obtain ⟨y, y1, y2⟩ := loops_is n b.2.1 b.2.2 c.2.1 c.2.2 (by omega) (by omega) (by omega) (by omega) (by omega)
      simp only [impl_BoxOverlaps, impl_box, floats_is 100 _ f1.1, floats_is 100 _ f1.2, floats_is 100 _ f2.1, floats_is 100 _ f2.2, gogeom_DoorBounds, gogeom_Bounds_Overlaps, hs1 (by omega) ha9, y1, spec_BoxesOverlap, hs, y2, Option.bind_eq_bind, Option.bind_some]
      cases y <;> simp [br, laws_FnBoxOverlaps_j4]
  obtain ⟨r, hr, hr'⟩ := fits 100 b.1 b.2.1 b.2.2
  unfold laws_FnBoxOverlaps
  rw [hr, Option.bind_eq_bind, Option.bind_some]
  cases r with
  | false => exact done
  | true =>
    rw [Bool.not_true, br_false]
    obtain ⟨q, hq, hq'⟩ := fits 100 c.1 c.2.1 c.2.2
    rw [hq, Option.bind_some]
    cases q with
    | false => exact done
    | true => exact key (hr' rfl) (hq' rfl)
theorem fact_FnBoxOverlaps {p q r : Prop} (a b0 : Int) (b1 b2 : List Nat) (c0 : Int) (c1 c2 : List Nat) (g0 : p) (g1 : q) (g2 : r) : laws_FnBoxOverlaps 100 a b0 b1 b2 c0 c1 c2 = some true := pure_FnBoxOverlaps a (b0, b1, b2) (c0, c1, c2)
end Go.Proofs.Ytmjhjnnlhjfbcaa
