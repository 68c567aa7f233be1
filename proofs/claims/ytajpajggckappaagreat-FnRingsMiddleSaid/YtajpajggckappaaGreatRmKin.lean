/-
  The law's rings: whole places, at most a hundred in each. Ours.
-/
import Derived.Test.YtajpajggckappaaGreatRmProg
import Derived.Test.YtajpajggckappaaGreatExact6
namespace Go.Proofs.YtajpajggckappaaGreat
open Go.Sx
open Ieee (signed)
set_option linter.unusedVariables false
set_option linter.unusedSimpArgs false
set_option maxRecDepth 100000

abbrev Six := Bool × (List Int) × Int × Bool × (List Int) × Int
def six0 : Six := (false, [], 0, false, [], 0)
def Pt (t : Six) (p : Pz) : Prop := Dr (-1074) 971 2 t.1 t.2.1 t.2.2.1 (p.1 * 2 ^ 1074) ∧ Dr (-1074) 971 2 t.2.2.2.1 t.2.2.2.2.1 t.2.2.2.2.2 (p.2 * 2 ^ 1074) ∧ Bd p
theorem getD_lt {cs : List Nat} (hc : ∀ x ∈ cs, x < 18446744073709551616) (i : Nat) : cs.getD i 0 < 2 ^ 64 := by
  by_cases h : i < cs.length
  · rw [← getD_of h]; exact hc _ (List.getElem_mem h)
  · simp [List.getD, List.getElem?_eq_none (Nat.le_of_not_lt h)]
theorem pl_loop {cs : List Nat} {st N : Nat} (hc : ∀ x ∈ cs, x < 18446744073709551616) (hl : cs.length = N * st) (hN : N ≤ 100) (h2 : 2 ≤ st) (h8 : st ≤ 8) (P : Nat → Pz) (hg : ∀ i, i < N → Gd cs st i (P i)) : ∀ (n k j : Nat) (acc : List Six), N - j = n → n + 10 < k → j ≤ N → acc.length = j →
    (∀ i, i < j → Pt (acc.getD i six0) (P i)) →
    ∃ pts, spec_Places_l1 (st : Int) cs k (acc, ((j * st : Nat) : Int)) = some pts ∧ pts.length = N ∧ ∀ i, i < N → Pt (pts.getD i six0) (P i)
  | n, 0, j, _, _, h, _, _, _ => absurd h (by omega)
  | n, k + 1, j, acc, hn, hk, hj, ha, hp => by
    have hNs : N * st ≤ 100 * 8 := Nat.mul_le_mul hN h8
    simp only [spec_Places_l1, spec_Places_l1s]
    rw [decide_eq_true (show (1 : Int) < (st : Int) by omega), br_true]
    unfold spec_Places_j2
    by_cases hlt : j < N
    · obtain ⟨b1, b2, b3⟩ := at_lt hlt h2
      have a1 : iadd .i64 ((j * st : Nat) : Int) 1 = ((j * st + 1 : Nat) : Int) := iadd_one (by omega)
      have a2 : iadd .i64 ((j * st : Nat) : Int) (st : Int) = (((j + 1) * st : Nat) : Int) := by rw [iadd_i64 (by omega) (by omega)]; omega
      obtain ⟨g1, g2, g3⟩ := hg j hlt
      obtain ⟨s1, l1, e1, q1, w1⟩ := dyadicOf_is (k := k) (getD_lt hc _) g1 (by omega)
      obtain ⟨s2, l2, e2, q2, w2⟩ := dyadicOf_is (k := k) (getD_lt hc _) g2 (by omega)
      rw [a2, decide_eq_true (show (((j + 1) * st : Nat) : Int) ≤ (cs.length : Int) by omega), br_true, idx_getd (by omega), sbind, a1, idx_getd (by omega), sbind]
      unfold spec_PointOf
      simp only [q1, q2, sbind]
      rw [show apd 80 acc [(s1, l1, e1, s2, l2, e2)] = some (acc ++ [(s1, l1, e1, s2, l2, e2)]) from by unfold apd; rw [if_pos (by constructor <;> (simp; omega))], sbind]
      refine pl_loop hc hl hN h2 h8 P hg (n - 1) k (j + 1) _ (by omega) (by omega) (by omega) (by simp [ha]) ?_
      intro i hi
      rcases Nat.lt_or_ge i j with h | h
      · have := hp i h
        rw [show (acc ++ [(s1, l1, e1, s2, l2, e2)]).getD i six0 = acc.getD i six0 from by simp [List.getD, List.getElem?_append_left (show i < acc.length by omega)]]
        exact this
      · have : i = j := by omega
        subst this
        rw [show (acc ++ [(s1, l1, e1, s2, l2, e2)]).getD i six0 = (s1, l1, e1, s2, l2, e2) from by simp [List.getD, ← ha]]
        exact ⟨w1, w2, g3⟩
    · have hjN : j = N := by omega
      subst hjN
      have a2 : iadd .i64 ((j * st : Nat) : Int) (st : Int) = ((j * st + st : Nat) : Int) := by rw [iadd_i64 (by omega) (by omega)]; omega
      rw [a2, decide_eq_false (show ¬ ((j * st + st : Nat) : Int) ≤ (cs.length : Int) by omega), br_false]
      exact ⟨acc, rfl, ha, hp⟩
theorem lines_is {cs : List Nat} {st N : Nat} (hc : ∀ x ∈ cs, x < 18446744073709551616) (hl : cs.length = N * st) (hN : N ≤ 100) (h2 : 2 ≤ st) (h8 : st ≤ 8) (P : Nat → Pz) (hg : ∀ i, i < N → Gd cs st i (P i)) {k : Nat} (hk : 200 < k) :
    ∃ pts, spec_Lines k cs [(cs.length : Int)] (st : Int) = some [pts] ∧ pts.length = N ∧ ∀ i, i < N → Pt (pts.getD i six0) (P i) := by
  obtain ⟨k, rfl⟩ : ∃ j, k = j + 2 := ⟨k - 2, by omega⟩
  obtain ⟨pts, p1, p2, p3⟩ := pl_loop hc hl hN h2 h8 P hg N (k + 1) 0 [] (by omega) (by omega) (by omega) rfl (fun i h => by omega)
  rw [Nat.zero_mul] at p1
  have p1' : spec_Places_l1 (st : Int) cs (k + 1) ([], 0) = some pts := p1
  refine ⟨pts, ?_, p2, p3⟩
  have hcut : cut cs 0 (cs.length : Int) = some cs := by rw [cut_some (by omega) (by omega) (by omega), Int.toNat_natCast]; simp
  unfold spec_Lines
  simp only [spec_Lines_l1, spec_Lines_l1s, spec_Lines_j3, spec_Lines_j4, spec_Places, List.length_cons, List.length_nil, show idx [(cs.length : Int)] 0 = some (cs.length : Int) from rfl, Option.bind_eq_bind, Option.bind_some,
    show decide ((0 : Int) < ((0 + 1 : Nat) : Int)) = true from rfl, br_true, show decide ((0 : Int) ≤ (cs.length : Int)) = true from by simp, show decide ((cs.length : Int) ≤ (cs.length : Int)) = true from by simp, hcut, p1',
    apd_some (b := 24) (xs := ([] : List (List Six))) (ys := [pts]) (by simp) (by simp), List.nil_append, show iadd .i64 0 1 = 1 from rfl, show decide ((1 : Int) < ((0 + 1 : Nat) : Int)) = false from rfl, br_false]

theorem good_j5_tot (k : Nat) (a4 : List Int) (r15 : Int) (a3 : List Nat) (a5 : List (List Int)) (b : Bool) : ∃ v, spec_Good_j5 k 8 a4 a3 r15 a5 b = some v := by
  cases b <;> exact ⟨_, rfl⟩
theorem good8_tot {k : Nat} {lay srid : Int} {fl : List Nat} {en : List Int} {enn : List (List Int)} {kids : List T38} {st : Nat} (hs : stri lay = (st : Int)) (h2 : 2 ≤ st) :
    ∃ b, spec_Good (k + 1) 8 lay srid fl en enn kids = some b := by
  have hr : irem (fl.length : Int) (st : Int) = some ((fl.length % st : Nat) : Int) := by
    unfold irem; rw [if_neg (by omega), Int.tmod_eq_emod_of_nonneg (by omega)]; rfl
  simp only [spec_Good, spec_Good_b, stride_is, hs, Option.bind_eq_bind, Option.bind_some, show decide ((8 : Int) = 7) = false from rfl, br_false, decide_eq_false (show ¬ (st : Int) = 0 by omega), hr]
  unfold spec_Good_j2
  have h3 : ∀ b, ∃ v, spec_Good_j3 k 8 en fl (st : Int) enn b = some v := by
    intro b
    unfold spec_Good_j3 spec_Good_j4
    cases b with
    | true => rw [br_true]; exact good_j5_tot _ _ _ _ _ _
    | false =>
      rw [br_false]
      cases decide (0 < (enn.length : Int)) with
      | true => rw [br_true]; exact good_j5_tot _ _ _ _ _ _
      | false => rw [br_false]; exact good_j5_tot _ _ _ _ _ _
  cases !decide (((fl.length % st : Nat) : Int) = 0) with
  | true => rw [br_true]; exact h3 _
  | false => rw [br_false]; exact h3 _

def Dt (lay : Int) (st : Nat) (g : T38) (l : List Six) (T : Nat) (P : Nat → Pz) : Prop :=
  g.f0 = 8 ∧ g.f1 = lay ∧ g.f3.length = T * st ∧ 1 ≤ T ∧ T ≤ 100 ∧ (∀ j, j < T → Gd g.f3 st j (P j)) ∧ l.length = T ∧ ∀ j, j < T → Pt (l.getD j six0) (P j)

theorem flatTo_long {k : Nat} {lay : Int} {fl : List Nat} {st : Nat} (h1 : 1 ≤ lay) (h8 : lay ≤ 8) (hs : stri lay = (st : Int)) (h2 : 2 ≤ st) (hs8 : st ≤ 8) (hl : 2147483647 < fl.length) : laws_flatTo k lay fl 4634204016564240384 100 = some ([], false) := by
  have hr : irem (fl.length : Int) (st : Int) = some ((fl.length % st : Nat) : Int) := by
    unfold irem; rw [if_neg (by omega), Int.tmod_eq_emod_of_nonneg (by omega)]; rfl
  have hm : imul .i64 (st : Int) 100 = ((st * 100 : Nat) : Int) := by
    unfold imul; rw [wrap_i64 (by omega) (by omega)]; omega
  unfold laws_flatTo laws_flatTo_j1 laws_flatTo_j2
  rw [decide_eq_false (show ¬ lay < 1 by omega), br_false, decide_eq_false (show ¬ 8 < lay by omega), br_false, stride_is, sbind, hs, hr, sbind, hm, decide_eq_true (show ((st * 100 : Nat) : Int) < (fl.length : Int) by omega)]
  cases !decide (((fl.length % st : Nat) : Int) = 0) <;> rfl
theorem D_64 : D 4634204016564240384 ((64 : Nat) : Int) 1074 := D_two 6 (by decide)
theorem one_ring {k : Nat} {lay : Int} {st : Nat} (h1 : 1 ≤ lay) (h8 : lay ≤ 8) (hs : stri lay = (st : Int)) (h2 : 2 ≤ st) (hs8 : st ≤ 8) {fl : List Nat} (hw : ∀ x ∈ fl, x < 18446744073709551616) (hpos : 0 < fl.length) (hk : 1000 < k) :
    ∃ l b, laws_flatTo k lay fl 4634204016564240384 100 = some (l, b) ∧ (b = true → ∃ (T : Nat) (P : Nat → Pz), fl.length = T * st ∧ 1 ≤ T ∧ T ≤ 100 ∧ ∀ j, j < T → Gd fl st j (P j)) := by
  rcases Nat.lt_or_ge 2147483647 fl.length with hbig | hsm
  · exact ⟨_, _, flatTo_long h1 h8 hs h2 hs8 hbig, fun h => by cases h⟩
  · obtain ⟨l, b, q1, q2, q3, q4⟩ := flatTo_is 4634204016564240384 64 100 D_64 (by decide) (by decide) k lay fl hsm hw hk
    refine ⟨l, b, q1, fun hb => ?_⟩
    obtain ⟨s, T, r1, r2, r3, r4, r5, r6, r7, r8⟩ := q4 hb
    have hss : s = st := by omega
    subst hss
    have hT : 1 ≤ T := by
      rcases Nat.eq_zero_or_pos T with h | h
      · subst h; rw [Nat.zero_mul] at r5; omega
      · exact h
    have hg : ∀ j, ∃ p : Pz, j < T → Gd fl s j p := fun j => by
      by_cases hj : j < T
      · have hlen : j < (pl fl s 0 T).length := by rw [pl_length]; exact hj
        obtain ⟨m, n, d1, d2, d3, d4⟩ := r8 _ (by rw [r7]; exact List.getElem_mem hlen)
        rw [pl_get, Nat.zero_add] at d1 d3
        exact ⟨(m, n), fun _ => ⟨d1, d3, d2, d4⟩⟩
      · exact ⟨(0, 0), fun h => absurd h hj⟩
    obtain ⟨P, hP⟩ := Classical.axiomOfChoice hg
    exact ⟨T, P, r5, hT, r6, hP⟩
end Go.Proofs.YtajpajggckappaaGreat
