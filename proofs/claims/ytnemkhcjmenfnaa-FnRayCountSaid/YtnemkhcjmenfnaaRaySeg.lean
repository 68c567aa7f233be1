/-
  One segment and a level ray: what the counter tells. Ours.
-/
import Derived.Test.YtnemkhcjmenfnaaDetSign
namespace Go.Proofs.Ytnemkhcjmenfnaa
open Go.Sx
open Ieee (signed)
set_option linter.unusedVariables false
set_option linter.unusedSimpArgs false
set_option maxRecDepth 100000

/-! #### whole numbers -/
def det (px py ax ay bx by_ : Int) : Int := (ax - px) * (by_ - py) - (ay - py) * (bx - px)
def Btw (a b x : Int) : Prop := (a ≤ x ∧ x ≤ b) ∨ (b ≤ x ∧ x ≤ a)
instance (a b x : Int) : Decidable (Btw a b x) := by unfold Btw; infer_instance
def OnS (px py ax ay bx by_ : Int) : Prop := det px py ax ay bx by_ = 0 ∧ Btw ax bx px ∧ Btw ay by_ py
instance (px py ax ay bx by_ : Int) : Decidable (OnS px py ax ay bx by_) := by unfold OnS; infer_instance
def tog (px py ax ay bx by_ : Int) : Bool := (decide (py < ay) != decide (py < by_)) && (decide (0 < det px py ax ay bx by_) == decide (py < by_))

theorem det_left1 {px py ax ay bx by_ : Int} (h1 : ax < px) (h2 : bx < px) (h3 : ay ≤ py) (h4 : py < by_) : det px py ax ay bx by_ < 0 := by
  unfold det
  have k1 := Int.mul_pos (show 0 < px - ax by omega) (show 0 < by_ - py by omega)
  have k2 := Int.mul_nonneg (show 0 ≤ py - ay by omega) (show 0 ≤ px - bx by omega)
  have e1 : (px - ax) * (by_ - py) = -((ax - px) * (by_ - py)) := by grind
  have e2 : (py - ay) * (px - bx) = (ay - py) * (bx - px) := by grind
  omega
theorem det_left2 {px py ax ay bx by_ : Int} (h1 : ax < px) (h2 : bx < px) (h3 : py < ay) (h4 : by_ ≤ py) : 0 < det px py ax ay bx by_ := by
  unfold det
  have k1 := Int.mul_nonneg (show 0 ≤ px - ax by omega) (show 0 ≤ py - by_ by omega)
  have k2 := Int.mul_pos (show 0 < ay - py by omega) (show 0 < px - bx by omega)
  have e1 : (px - ax) * (py - by_) = (ax - px) * (by_ - py) := by grind
  have e2 : (ay - py) * (px - bx) = -((ay - py) * (bx - px)) := by grind
  omega
theorem left_is {px py ax ay bx by_ : Int} (h1 : ax < px) (h2 : bx < px) : ¬ OnS px py ax ay bx by_ ∧ tog px py ax ay bx by_ = false := by
  refine ⟨fun h => by rcases h.2.1 with h3 | h3 <;> omega, ?_⟩
  unfold tog
  by_cases h3 : py < ay <;> by_cases h4 : py < by_
  · simp [h3, h4]
  · have := det_left2 h1 h2 h3 (show by_ ≤ py by omega)
    simp [h3, h4, this]
  · have := det_left1 h1 h2 (show ay ≤ py by omega) h4
    simp [h3, h4]; omega
  · simp [h3, h4]
theorem end_is {px py ax ay bx by_ : Int} (h1 : px = bx) (h2 : py = by_) : OnS px py ax ay bx by_ := by
  subst h1; subst h2
  refine ⟨by unfold det; simp, ?_, ?_⟩
  · unfold Btw; omega
  · unfold Btw; omega
theorem level_is {px py ax ay bx by_ : Int} (h1 : ay = py) (h2 : by_ = py) : (OnS px py ax ay bx by_ ↔ Btw ax bx px) ∧ tog px py ax ay bx by_ = false := by
  refine ⟨⟨fun h => h.2.1, fun h => ⟨by unfold det; rw [h1, h2]; simp, h, by unfold Btw; omega⟩⟩, by simp [tog, h1, h2]⟩
theorem strad_is {px py ax ay bx by_ : Int} (h : (py < ay ∧ by_ ≤ py) ∨ (py < by_ ∧ ay ≤ py)) : (OnS px py ax ay bx by_ ↔ det px py ax ay bx by_ = 0) ∧ (det px py ax ay bx by_ ≠ 0 → (tog px py ax ay bx by_ = true ↔ 0 < (if by_ - py < ay - py then -det px py ax ay bx by_ else det px py ax ay bx by_))) := by
  refine ⟨⟨fun h => h.1, fun hd => ⟨hd, ?_, by unfold Btw; rcases h with ⟨h3, h4⟩ | ⟨h3, h4⟩ <;> omega⟩⟩, fun hd => ?_⟩
  · -- on the line, so between
    unfold Btw
    by_cases c1 : ax ≤ px ∧ px ≤ bx
    · exact .inl c1
    by_cases c2 : bx ≤ px ∧ px ≤ ax
    · exact .inr c2
    exfalso
    have hc : (ax < px ∧ bx < px) ∨ (px < ax ∧ px < bx) := by omega
    rcases hc with ⟨g1, g2⟩ | ⟨g1, g2⟩
    · rcases h with ⟨h3, h4⟩ | ⟨h3, h4⟩
      · have := det_left2 g1 g2 h3 h4; omega
      · have := det_left1 g1 g2 h4 h3; omega
    · -- on the right: the same, turned about
      have e : det px py ax ay bx by_ = -det (-px) py (-ax) ay (-bx) by_ := by unfold det; grind
      rcases h with ⟨h3, h4⟩ | ⟨h3, h4⟩
      · have := det_left2 (px := -px) (py := py) (ax := -ax) (ay := ay) (bx := -bx) (by_ := by_) (by omega) (by omega) h3 h4; omega
      · have := det_left1 (px := -px) (py := py) (ax := -ax) (ay := ay) (bx := -bx) (by_ := by_) (by omega) (by omega) h4 h3; omega
  · unfold tog
    rcases h with ⟨h3, h4⟩ | ⟨h3, h4⟩
    · have h5 : ¬ py < by_ := by omega
      have h6 : by_ - py < ay - py := by omega
      rw [if_pos h6]
      simp [h3, h5]; omega
    · have h5 : ¬ py < ay := by omega
      have h6 : ¬ (by_ - py < ay - py) := by omega
      rw [if_neg h6]
      simp [h3, h5]
theorem else_is {px py ax ay bx by_ : Int} (h : ¬ ((py < ay ∧ by_ ≤ py) ∨ (py < by_ ∧ ay ≤ py))) (h2 : ¬ (ay = py ∧ by_ = py)) (h0 : ¬ (px = bx ∧ py = by_)) : (OnS px py ax ay bx by_ → ay = py ∧ ax = px) ∧ tog px py ax ay bx by_ = false := by
  refine ⟨fun hs => ?_, ?_⟩
  · obtain ⟨hd, hx, hy⟩ := hs
    have hor : ay = py ∨ by_ = py := by unfold Btw at hy; omega
    unfold det at hd
    rcases hor with ha | hb
    · have hb : by_ ≠ py := fun h3 => h2 ⟨ha, h3⟩
      refine ⟨ha, ?_⟩
      rw [ha, Int.sub_self, Int.zero_mul, Int.sub_zero] at hd
      rcases Int.mul_eq_zero.1 hd with h3 | h3
      · omega
      · omega
    · exfalso
      have ha : ay ≠ py := fun h3 => h2 ⟨h3, hb⟩
      rw [hb, Int.sub_self, Int.mul_zero, Int.zero_sub] at hd
      have hd' : (ay - py) * (bx - px) = 0 := by omega
      rcases Int.mul_eq_zero.1 hd' with h3 | h3
      · omega
      · exact h0 ⟨by omega, hb.symm⟩
  · unfold tog
    by_cases h3 : py < ay <;> by_cases h4 : py < by_
    · simp [h3, h4]
    · exact absurd (.inl ⟨h3, by omega⟩) h
    · exact absurd (.inr ⟨h4, by omega⟩) h
    · simp [h3, h4]

/-! #### the program -/
theorem i0 (a b : Nat) : idx [a, b] 0 = some a := rfl
theorem i1 (a b : Nat) : idx [a, b] 1 = some b := rfl
theorem c_is (k p0 p1 a0 a1 b0 b1 : Nat) : raycrossing_rayCrossingCounter_countSegment k [p0, p1] 0 false [a0, a1] [b0, b1] = raycrossing_rayCrossingCounter_countSegment_j1 k [p0, p1] 0 false [b0, b1] [a0, a1] (flt a0 p0 && flt b0 p0) := by
  unfold raycrossing_rayCrossingCounter_countSegment
  rw [i0, sbind, i0, sbind, i0, sbind, sbind]
  cases flt a0 p0 <;> rfl
theorem c1_is (k p0 p1 a0 a1 b0 b1 : Nat) : raycrossing_rayCrossingCounter_countSegment_j1 k [p0, p1] 0 false [b0, b1] [a0, a1] false = raycrossing_rayCrossingCounter_countSegment_j2 k [p0, p1] 0 [a0, a1] [b0, b1] false (feq p0 b0 && feq p1 b1) := by
  unfold raycrossing_rayCrossingCounter_countSegment_j1
  rw [br_false, i0, sbind, i0, sbind, i1, sbind, i1, sbind]
  cases feq p0 b0 <;> rfl
theorem c2_is (k p0 p1 a0 a1 b0 b1 : Nat) : raycrossing_rayCrossingCounter_countSegment_j2 k [p0, p1] 0 [a0, a1] [b0, b1] false false = raycrossing_rayCrossingCounter_countSegment_j3 k [a0, a1] [b0, b1] [p0, p1] 0 false (feq a1 p1 && feq b1 p1) := by
  unfold raycrossing_rayCrossingCounter_countSegment_j2
  rw [br_false, i1, sbind, i1, sbind, i1, sbind, sbind]
  cases feq a1 p1 <;> rfl
theorem c4_is (k p0 p1 u v : Nat) : raycrossing_rayCrossingCounter_countSegment_j4 k [p0, p1] 0 false u v = some ([p0, p1], 0, fge p0 u && fle p0 v) := by
  unfold raycrossing_rayCrossingCounter_countSegment_j4
  rw [i0, sbind, sbind]
  unfold raycrossing_rayCrossingCounter_countSegment_j5 raycrossing_rayCrossingCounter_countSegment_j6
  cases fge p0 u <;> cases fle p0 v <;> rfl
theorem c3t_is (k p0 p1 a0 a1 b0 b1 : Nat) : raycrossing_rayCrossingCounter_countSegment_j3 k [a0, a1] [b0, b1] [p0, p1] 0 false true = some ([p0, p1], 0, if fgt a0 b0 then fge p0 b0 && fle p0 a0 else fge p0 a0 && fle p0 b0) := by
  unfold raycrossing_rayCrossingCounter_countSegment_j3
  rw [br_true, i0, sbind, i0, sbind, sbind, sbind, c4_is, c4_is]
  cases fgt a0 b0 <;> rfl
theorem c3f_is (k p0 p1 a0 a1 b0 b1 : Nat) : raycrossing_rayCrossingCounter_countSegment_j3 k [a0, a1] [b0, b1] [p0, p1] 0 false false = raycrossing_rayCrossingCounter_countSegment_j9 k [a0, a1] [p0, p1] [b0, b1] 0 false ((fgt a1 p1 && fle b1 p1) || (fgt b1 p1 && fle a1 p1)) := by
  unfold raycrossing_rayCrossingCounter_countSegment_j3
  rw [br_false, i1, sbind, i1, sbind, i1, sbind, sbind]
  unfold raycrossing_rayCrossingCounter_countSegment_j7
  rw [i1, sbind, i1, sbind, i1, sbind, sbind]
  unfold raycrossing_rayCrossingCounter_countSegment_j8
  cases fgt a1 p1 <;> cases fle b1 p1 <;> cases fgt b1 p1 <;> rfl

theorem isub_sg' (n : Int) : isub .i64 0 (sg n) = sg (-n) := by
  rw [sg_opp]
  have : sg n = 0 ∨ sg n = 1 ∨ sg n = -1 := by
    unfold sg; split
    · exact .inr (.inr rfl)
    · split
      · exact .inl rfl
      · exact .inr (.inl rfl)
  rcases this with h | h | h <;> rw [h] <;> decide
theorem seg_is {k p0 p1 a0 a1 b0 b1 : Nat} {px py ax ay bx by_ : Int} (hk : 67108864 < k) (d1 : D p0 px 1074) (d2 : D p1 py 1074) (d3 : D a0 ax 1074) (d4 : D a1 ay 1074) (d5 : D b0 bx 1074) (d6 : D b1 by_ 1074)
    (m1 : px.natAbs ≤ 16777216) (m2 : py.natAbs ≤ 16777216) (m3 : ax.natAbs ≤ 16777216) (m4 : ay.natAbs ≤ 16777216) (m5 : bx.natAbs ≤ 16777216) (m6 : by_.natAbs ≤ 16777216) :
    ∃ n on, impl_RayCount k p0 p1 a0 a1 b0 b1 = some (n, on) ∧ (n = 0 ∨ n = 1) ∧ (on = true → OnS px py ax ay bx by_) ∧ (OnS px py ax ay bx by_ → on = false → ay = py ∧ ax = px) ∧ (px = bx → py = by_ → on = true) ∧
      (¬ OnS px py ax ay bx by_ → (n = 1 ↔ tog px py ax ay bx by_ = true)) := by
  have hi : ∀ n on, raycrossing_rayCrossingCounter_countSegment k [p0, p1] 0 false [a0, a1] [b0, b1] = some ([p0, p1], n, on) → impl_RayCount k p0 p1 a0 a1 b0 b1 = some (n, on) := by
    intro n on h
    unfold impl_RayCount impl_coord raycrossing_DoorCount
    rw [sbind, sbind, sbind, h, sbind]; rfl
  rw [c_is, D_lt d3 d1, D_lt d5 d1] at hi
  by_cases l : ax < px ∧ bx < px
  · have e : (decide (ax < px) && decide (bx < px)) = true := by simpa using l
    rw [e] at hi
    obtain ⟨h1, h2⟩ := left_is (py := py) (ay := ay) (by_ := by_) l.1 l.2
    exact ⟨0, false, hi 0 false rfl, .inl rfl, (fun h => by cases h), fun h => absurd h h1, (fun h => by omega), fun _ => by rw [h2]; simp⟩
  have e : (decide (ax < px) && decide (bx < px)) = false := by
    cases h : (decide (ax < px) && decide (bx < px)) with
    | false => rfl
    | true => exact absurd (by simpa using h) l
  rw [e, c1_is, D_eq d1 d5, D_eq d2 d6] at hi
  by_cases pb : px = bx ∧ py = by_
  · have e : (decide (px = bx) && decide (py = by_)) = true := by simpa using pb
    rw [e] at hi
    have h1 := end_is (ax := ax) (ay := ay) pb.1 pb.2
    exact ⟨0, true, hi 0 true rfl, .inl rfl, fun _ => h1, (fun _ h => by cases h), fun _ _ => rfl, fun h => absurd h1 h⟩
  have npb : ∀ b : Bool, px = bx → py = by_ → b = true := fun b h h' => absurd ⟨h, h'⟩ pb
  have e : (decide (px = bx) && decide (py = by_)) = false := by
    cases h : (decide (px = bx) && decide (py = by_)) with
    | false => rfl
    | true => exact absurd (by simpa using h) pb
  rw [e, c2_is, D_eq d4 d2, D_eq d6 d2] at hi
  by_cases lv : ay = py ∧ by_ = py
  · have e : (decide (ay = py) && decide (by_ = py)) = true := by simpa using lv
    rw [e, c3t_is, D_gt d3 d5, D_ge d1 d5, D_le d1 d3, D_ge d1 d3, D_le d1 d5] at hi
    obtain ⟨h1, h2⟩ := level_is (px := px) (ax := ax) (bx := bx) lv.1 lv.2
    have hb : (if decide (bx < ax) = true then decide (bx ≤ px) && decide (px ≤ ax) else decide (ax ≤ px) && decide (px ≤ bx)) = decide (Btw ax bx px) := by
      unfold Btw
      by_cases h : bx < ax
      · rw [if_pos (decide_eq_true h)]
        rw [← Bool.decide_and]
        apply decide_eq_decide.2; omega
      · rw [if_neg (by simpa using h)]
        rw [← Bool.decide_and]
        apply decide_eq_decide.2; omega
    rw [hb] at hi
    refine ⟨0, _, hi 0 _ rfl, .inl rfl, fun h => h1.2 (by simpa using h), fun h h' => ?_, npb _, fun _ => by rw [h2]; simp⟩
    exact absurd (h1.1 h) (by simpa using h')
  have e : (decide (ay = py) && decide (by_ = py)) = false := by
    cases h : (decide (ay = py) && decide (by_ = py)) with
    | false => rfl
    | true => exact absurd (by simpa using h) lv
  rw [e, c3f_is, D_gt d4 d2, D_le d6 d2, D_gt d6 d2, D_le d4 d2] at hi
  by_cases st : (py < ay ∧ by_ ≤ py) ∨ (py < by_ ∧ ay ≤ py)
  · have e : (decide (py < ay) && decide (by_ ≤ py) || decide (py < by_) && decide (ay ≤ py)) = true := by simpa using st
    rw [e] at hi
    obtain ⟨u1, f1, v1⟩ := D_sub d3 d1 rfl (by omega) (by omega)
    obtain ⟨u2, f2, v2⟩ := D_sub d4 d2 rfl (by omega) (by omega)
    obtain ⟨u3, f3, v3⟩ := D_sub d5 d1 rfl (by omega) (by omega)
    obtain ⟨u4, f4, v4⟩ := D_sub d6 d2 rfl (by omega) (by omega)
    have w1 : u1 < 2 ^ 64 := by rw [fsub_g f1]; exact gsub_lt _ _
    have w2 : u2 < 2 ^ 64 := by rw [fsub_g f2]; exact gsub_lt _ _
    have w3 : u3 < 2 ^ 64 := by rw [fsub_g f3]; exact gsub_lt _ _
    have w4 : u4 < 2 ^ 64 := by rw [fsub_g f4]; exact gsub_lt _ _
    have hdet := det_is (k := k) v1 v2 v3 v4 w1 w2 w3 w4 (by omega) (by omega) (by omega) (by omega) hk
    obtain ⟨s1, s2⟩ := strad_is (ax := ax) (bx := bx) (px := px) st
    have hdd : (ax - px) * (by_ - py) - (ay - py) * (bx - px) = det px py ax ay bx by_ := rfl
    rw [hdd] at hdet
    have e9 : raycrossing_rayCrossingCounter_countSegment_j9 k [a0, a1] [p0, p1] [b0, b1] 0 false true = br (decide (sg (det px py ax ay bx by_) = 0)) (some ([p0, p1], 0, true))
        (br (flt u4 u2) (raycrossing_rayCrossingCounter_countSegment_j10 k [p0, p1] 0 false (isub .i64 0 (sg (det px py ax ay bx by_)))) (raycrossing_rayCrossingCounter_countSegment_j10 k [p0, p1] 0 false (sg (det px py ax ay bx by_)))) := by
      unfold raycrossing_rayCrossingCounter_countSegment_j9
      rw [br_true, i0, sbind, i0, sbind, f1, sbind, i1, sbind, i1, sbind, f2, sbind, i0, sbind, sbind, f3, sbind, i1, sbind, sbind, f4, sbind, hdet, sbind]
    have sgz : (sg (det px py ax ay bx by_) = 0) ↔ det px py ax ay bx by_ = 0 := by
      unfold sg
      split
      · omega
      · split <;> omega
    rw [e9, D_lt v4 v2] at hi
    by_cases hd : det px py ax ay bx by_ = 0
    · rw [decide_eq_true (sgz.2 hd), br_true] at hi
      exact ⟨0, true, hi 0 true rfl, .inl rfl, fun _ => s1.2 hd, (fun _ h => by cases h), npb _, fun h => absurd (s1.2 hd) h⟩
    · rw [decide_eq_false (fun h => hd (sgz.1 h)), br_false] at hi
      have hno : ¬ OnS px py ax ay bx by_ := fun h => hd (s1.1 h)
      have hj : br (decide (by_ - py < ay - py)) (raycrossing_rayCrossingCounter_countSegment_j10 k [p0, p1] 0 false (isub .i64 0 (sg (det px py ax ay bx by_)))) (raycrossing_rayCrossingCounter_countSegment_j10 k [p0, p1] 0 false (sg (det px py ax ay bx by_)))
          = some ([p0, p1], if 0 < (if by_ - py < ay - py then -det px py ax ay bx by_ else det px py ax ay bx by_) then 1 else 0, false) := by
        have hs : isub .i64 0 (sg (det px py ax ay bx by_)) = sg (-det px py ax ay bx by_) := isub_sg' _
        have h10 : ∀ n : Int, raycrossing_rayCrossingCounter_countSegment_j10 k [p0, p1] 0 false (sg n) = some ([p0, p1], if 0 < n then 1 else 0, false) := by
          intro n
          unfold raycrossing_rayCrossingCounter_countSegment_j10
          by_cases hn : 0 < n
          · rw [sg_pos hn, if_pos hn]; rfl
          · rw [if_neg hn]
            have : ¬ (0 < sg n) := by
              unfold sg
              split
              · omega
              · split <;> omega
            rw [decide_eq_false this, br_false]
        rw [hs, h10, h10]
        by_cases hc : by_ - py < ay - py
        · rw [decide_eq_true hc, br_true, if_pos hc]
        · rw [decide_eq_false hc, br_false, if_neg hc]
      have s2' := s2 hd
      obtain ⟨W, hW⟩ : ∃ W, (if by_ - py < ay - py then -det px py ax ay bx by_ else det px py ax ay bx by_) = W := ⟨_, rfl⟩
      rw [hW] at hj s2'
      refine ⟨_, false, hi _ _ hj, ?_, (fun h => by cases h), fun h => absurd h hno, npb _, fun _ => ?_⟩
      · by_cases hc : 0 < W
        · rw [if_pos hc]; exact .inr rfl
        · rw [if_neg hc]; exact .inl rfl
      · rw [s2']
        by_cases hc : 0 < W
        · rw [if_pos hc]; exact ⟨fun _ => hc, fun _ => rfl⟩
        · rw [if_neg hc]; exact ⟨(fun h => by cases h), fun h => absurd h hc⟩
  · have e : (decide (py < ay) && decide (by_ ≤ py) || decide (py < by_) && decide (ay ≤ py)) = false := by
      cases h : (decide (py < ay) && decide (by_ ≤ py) || decide (py < by_) && decide (ay ≤ py)) with
      | false => rfl
      | true => exact absurd (by simpa using h) st
    rw [e] at hi
    obtain ⟨h1, h2⟩ := else_is (ax := ax) (bx := bx) (px := px) st lv pb
    exact ⟨0, false, hi 0 false rfl, .inl rfl, (fun h => by cases h), fun h _ => h1 h, npb _, fun _ => by rw [h2]; simp⟩
end Go.Proofs.Ytnemkhcjmenfnaa
