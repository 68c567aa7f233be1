/-
  The walk through a vantage-point tree of a list, and the tree that is made of the list. Ours.
-/
import Derived.Test.YtpakkblinocenaaFun
import Derived.Test.YtpakkblinocenaaWalkT
import Derived.Test.YtpakkblinocenaaSxY
namespace Go.Proofs.Ytpakkblinocenaa
open Go.Sx
set_option linter.unusedVariables false
set_option linter.unusedSimpArgs false
set_option maxRecDepth 100000

abbrev VN := (List Nat) × Nat × Int × Int
def sdV (t : List VN) (i : Int) : Option (Int × Int) := (idx t i).map fun x => (x.2.2.1, x.2.2.2)
def cV (t : List VN) (i : Nat) : Int := (t.getD i ([], 0, -1, -1)).2.2.1
def fV (t : List VN) (i : Nat) : Int := (t.getD i ([], 0, -1, -1)).2.2.2
def pV (t : List VN) (i : Nat) : List Nat := (t.getD i ([], 0, -1, -1)).1
theorem getD_at {t : List VN} {i : Nat} (h : i < t.length) : t.getD i ([], 0, -1, -1) = t[i] := by simp [List.getD, List.getElem?_eq_getElem h]
theorem sdV_is (t : List VN) (i : Nat) (h : i < t.length) : sdV t i = some (cV t i, fV t i) := by
  simp only [sdV, idx_get h, cV, fV, getD_at h, Option.map_some]

theorem walk2_is (t : List VN) (n : Int) : ∀ (k : Nat) (i ab d : Int) (ok : Bool) (seen : List Bool) (ord dep : List Int),
    spec_Walk_1_v2 k i ab d ok n seen t ord dep = (wk n (sdV t) k i ab d ok seen ord dep).map fun r => (r.1, n, r.2.1, t, r.2.2.1, r.2.2.2) := by
  intro k
  induction k with
  | zero => intro i ab d ok seen ord dep; rfl
  | succ k ih =>
    intro i ab d ok seen ord dep
    show spec_Walk_1_v2_b (spec_Walk_1_v2 k) k i ab d ok n seen t ord dep = _
    unfold spec_Walk_1_v2_b wk
    by_cases c1 : i = -1
    · rw [if_pos (.inl c1), decide_eq_true c1, br_true]; rfl
    · rw [decide_eq_false c1, br_false]
      unfold spec_Walk_1_v2_j1
      cases ok with
      | false => rw [if_pos (.inr rfl)]; rfl
      | true =>
        rw [if_neg (by simp [c1]), Bool.not_true, br_false]
        by_cases c2 : i ≤ ab
        · rw [if_pos (.inl c2), decide_eq_true c2, br_true]; rfl
        · rw [decide_eq_false c2, br_false]
          unfold spec_Walk_1_v2_j2
          by_cases c3 : n ≤ i
          · rw [if_pos (.inr c3), decide_eq_true c3, br_true]; rfl
          · rw [if_neg (by simp [c2, c3]), decide_eq_false c3, br_false]
            cases hb : idx seen i with
            | none => rfl
            | some b =>
              simp only [Option.bind_eq_bind, Option.bind_some]
              unfold spec_Walk_1_v2_j3
              cases b with
              | true => rfl
              | false =>
                simp only [br_false, hb, Option.bind_eq_bind, Option.bind_some, Bool.false_eq_true, if_false]
                unfold spec_VWalk_1
                cases hs : idx t i with
                | none =>
                  have e1 : sdV t i = none := by simp [sdV, hs]
                  rw [e1]; rfl
                | some s =>
                  have e1 : sdV t i = some (s.2.2.1, s.2.2.2) := by simp [sdV, hs]
                  simp only [Option.bind_eq_bind, Option.bind_some, e1]
                  rw [ih]
                  cases h1 : wk n (sdV t) k s.2.2.1 i (iadd .i64 d 1) true (seen.set i.toNat true) ord dep with
                  | none => rfl
                  | some r =>
                    simp only [Option.map_some, Option.bind_some]
                    cases h2 : apd 8 r.2.2.1 [i] with
                    | none => rfl
                    | some o =>
                      simp only [Option.bind_some]
                      cases h3 : apd 8 r.2.2.2 [d] with
                      | none => rfl
                      | some e =>
                        simp only [Option.bind_some]
                        rw [ih]
                        cases h4 : wk n (sdV t) k s.2.2.2 i (iadd .i64 d 1) r.1 r.2.1 o e <;> rfl
theorem walk1_is (t : List VN) (n : Int) : ∀ (k : Nat) (i ab d : Int) (ok : Bool) (seen : List Bool),
    spec_Walk_1 k i ab d ok n seen t = spec_Walk_1_v2 k i ab d ok n seen t [] [] := by
  intro k
  induction k with
  | zero => intro i ab d ok seen; rfl
  | succ k ih =>
    intro i ab d ok seen
    have e : spec_Walk_1 k = fun i ab d ok n' seen t' => spec_Walk_1 k i ab d ok n' seen t' := rfl
    show spec_Walk_1_b (spec_Walk_1 k) k i ab d ok n seen t = spec_Walk_1_v2_b (spec_Walk_1_v2 k) k i ab d ok n seen t [] []
    have h3 : ∀ x, spec_Walk_1_j3 k n seen t i (spec_Walk_1 k) d ok x = spec_Walk_1_v2_j3 k n seen t [] [] i (spec_Walk_1_v2 k) d ok x := by
      intro x
      unfold spec_Walk_1_j3 spec_Walk_1_v2_j3
      cases x with
      | true => rfl
      | false =>
        rw [br_false, br_false]
        cases hb : idx seen i with
        | none => rfl
        | some b =>
          simp only [Option.bind_eq_bind, Option.bind_some]
          cases hs : spec_VWalk_1 k i t with
          | none => rfl
          | some s =>
            simp only [Option.bind_some]
            obtain ⟨t', c, f⟩ := s
            have ht : t' = t := by
              unfold spec_VWalk_1 at hs
              cases h : idx t i with
              | none => rw [h] at hs; cases hs
              | some u => rw [h] at hs; cases hs; rfl
            subst ht
            rw [ih]
    unfold spec_Walk_1_b spec_Walk_1_v2_b spec_Walk_1_j1 spec_Walk_1_v2_j1 spec_Walk_1_j2 spec_Walk_1_v2_j2
    simp only [h3]

/-- the walk from a node on, of itself -/
def wkV (t : List VN) (k : Nat) (i : Int) : Option (Bool × List Bool × List Int × List Int) := wk t.length (sdV t) k i (-1) 0 true (List.replicate t.length false) [] []
theorem vwalk_is (k : Nat) (t : List VN) (i : Int) (hl : t.length < 1000000) : spec_VWalk k t i = (wkV t k i).map fun r => (r.2.2.1, r.2.2.2, r.1) := by
  have hm : mk 1 false (t.length : Int) (t.length : Int) = some (List.replicate t.length false) := by rw [mk_some (by omega) (by omega) (by omega) (by omega)]; simp
  unfold spec_VWalk spec_Walk wkV
  simp only [hm, Option.bind_eq_bind, Option.bind_some, walk1_is, walk2_is]
  cases wk (↑t.length) (sdV t) k i (-1) 0 true (List.replicate t.length false) [] [] <;> rfl
theorem wkV_some (t : List VN) (k : Nat) (i : Int) (hl : t.length < 1000000) (hk : t.length + 1 < k) : ∃ r, wkV t k i = some r ∧ r.2.2.1.length = r.2.2.2.length ∧ r.2.2.1.length ≤ t.length ∧
    (r.1 = true → ∃ l, Tr (cV t) (fV t) t.length i 0 l ∧ r.2.2.1 = l.map (fun p => (p.1 : Int)) ∧ r.2.2.2 = l.map (·.2)) := by
  obtain ⟨r, h1, h2, h3, h4, h5⟩ := wk_is t.length (cV t) (fV t) (sdV t) (sdV_is t) hl k i (-1) 0 true (List.replicate t.length false) [] [] (by omega) (by omega) (by simp) rfl (by simp) (by omega)
  refine ⟨r, h1, h3, ?_, fun h => ?_⟩
  · have := List.count_le_length (a := true) (l := r.2.1); omega
  · obtain ⟨_, _, l, t1, t2, t3⟩ := h5 h
    exact ⟨l, t1, by simpa using t2, by simpa using t3⟩

/-! #### the tree of nodes -/
def inord : G139 → Int → List (List Nat × Int)
  | .c0, _ => []
  | .c1 (.c0 p) _ a b, d => inord a (iadd .i64 d 1) ++ (p, d) :: inord b (iadd .i64 d 1)
def ht : G139 → Nat
  | .c0 => 0
  | .c1 _ _ a b => max (ht a) (ht b) + 1
theorem ht_le : ∀ (T : G139) (d : Int), ht T ≤ (inord T d).length
  | .c0, _ => Nat.zero_le _
  | .c1 (.c0 p) _ a b, d => by
    have h1 := ht_le a (iadd .i64 d 1)
    have h2 := ht_le b (iadd .i64 d 1)
    simp only [ht, inord, List.length_append, List.length_cons]
    omega
theorem vnode_is (t : List VN) : ∀ (k : Nat) {i d : Int} {l : List (Nat × Int)}, Tr (cV t) (fV t) t.length i d l → (∀ p ∈ l, (pV t p.1).length ≤ 1000) → (t.length : Int) - i < k → 0 < k →
    ∃ T, impl_vnode k t i = some T ∧ inord T d = l.map (fun p => (pV t p.1, p.2)) := by
  intro k
  induction k with
  | zero => intro i d l h hf hk h0; omega
  | succ k ih =>
    intro i d l h hf hk _
    show ∃ T, impl_vnode_b (impl_vnode k) k t i = some T ∧ _
    cases h with
    | nil => exact ⟨.c0, rfl, rfl⟩
    | @node j _ l1 l2 hj h1 h2 g1 g2 =>
      unfold impl_vnode_b
      rw [decide_eq_false (by omega), br_false, decide_eq_false (by omega)]
      unfold impl_vnode_j1
      have ef : impl_floats k t[j].1 = some t[j].1 := by
        have := hf (j, d) (by simp)
        simp only [pV, getD_at hj] at this
        unfold impl_floats
        rw [apd_some (by simp; omega) (by simp; omega)]; rfl
      simp only [br_false, idx_get hj, Option.bind_eq_bind, Option.bind_some, ef]
      have ec : t[j].2.2.1 = cV t j := by rw [cV, getD_at hj]
      have ed : t[j].2.2.2 = fV t j := by rw [fV, getD_at hj]
      have ep : t[j].1 = pV t j := by rw [pV, getD_at hj]
      have part : ∀ {c : Int} {l : List (Nat × Int)}, (c = -1 ∨ (j : Int) < c) → Tr (cV t) (fV t) t.length c (iadd .i64 d 1) l → (∀ p ∈ l, (pV t p.1).length ≤ 1000) →
          ∃ T, (decide ((j : Int) < c) = true → impl_vnode k t c = some T) ∧ (decide ((j : Int) < c) = false → T = .c0) ∧ inord T (iadd .i64 d 1) = l.map (fun p => (pV t p.1, p.2)) := by
        intro c l hc ht hfl
        by_cases hlt : (j : Int) < c
        · obtain ⟨T, e1, e2⟩ := ih ht hfl (by omega) (by omega)
          exact ⟨T, fun _ => e1, fun h => absurd hlt (by simpa using h), e2⟩
        · have : c = -1 := by omega
          subst this
          rcases ht.root with ⟨_, e⟩ | ⟨q, e, _⟩
          · subst e; exact ⟨.c0, fun h => absurd (of_decide_eq_true h) hlt, fun _ => rfl, rfl⟩
          · omega
      obtain ⟨T1, a1, a2, a3⟩ := part g1 h1 fun p hp => hf p (List.mem_append_left _ hp)
      obtain ⟨T2, b1, b2, b3⟩ := part g2 h2 fun p hp => hf p (List.mem_append_right _ (List.mem_cons_of_mem _ hp))
      refine ⟨.c1 (.c0 t[j].1) t[j].2.1 T1 T2, ?_, ?_⟩
      · rw [ec]
        cases hc : decide ((j : Int) < cV t j) with
        | true =>
          rw [br_true, a1 hc]
          simp only [Option.bind_some]
          unfold impl_vnode_j2 impl_vnode_j3
          rw [ed]
          cases hd : decide ((j : Int) < fV t j) with
          | true => rw [br_true, b1 hd]; rfl
          | false => rw [br_false, b2 hd]
        | false =>
          rw [br_false, a2 hc]
          unfold impl_vnode_j2 impl_vnode_j3
          rw [ed]
          cases hd : decide ((j : Int) < fV t j) with
          | true => rw [br_true, b1 hd]; rfl
          | false => rw [br_false, b2 hd]
      · simp only [inord, a3, b3, ep, List.map_append, List.map_cons]
end Go.Proofs.Ytpakkblinocenaa
