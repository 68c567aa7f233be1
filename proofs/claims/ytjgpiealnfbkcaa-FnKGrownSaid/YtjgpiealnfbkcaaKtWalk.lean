/-
  The walk through a k-d tree of a list: its order, its depths, its points. Plain; ours.
-/
import Derived.Test.YtjgpiealnfbkcaaKtBase
import Derived.Test.YtjgpiealnfbkcaaWalkT
namespace Go.Proofs.Ytjgpiealnfbkcaa
open Go.Sx
set_option linter.unusedVariables false
set_option linter.unusedSimpArgs false
set_option maxRecDepth 100000

abbrev KN := (List Nat) × Int × Int × Int × (List Nat) × (List Nat)
def sdK (t : List KN) (i : Int) : Option (Int × Int) := (idx t i).map fun x => (x.2.2.1, x.2.2.2.1)

theorem walk2_is (t : List KN) (n : Int) : ∀ (k : Nat) (i ab d : Int) (ok : Bool) (seen : List Bool) (ord dep : List Int),
    spec_Walk_1_v2 k i ab d ok n seen t ord dep = (wk n (sdK t) k i ab d ok seen ord dep).map fun r => (r.1, n, r.2.1, t, r.2.2.1, r.2.2.2) := by
  intro k
  induction k with
  | zero => intro i ab d ok seen ord dep; rfl
  | succ k ih =>
    intro i ab d ok seen ord dep
    show spec_Walk_1_v2_b (spec_Walk_1_v2 k) k i ab d ok n seen t ord dep = _
    unfold spec_Walk_1_v2_b wk
    by_cases c1 : i = -1
    · rw [if_pos (.inl c1), decide_eq_true c1, br_true]; rfl
    · rw [decide_eq_false c1, br_false]
      unfold spec_Walk_1_v2_j1
      cases ok with
      | false => rw [if_pos (.inr rfl)]; rfl
      | true =>
        rw [if_neg (by simp [c1]), Bool.not_true, br_false]
        by_cases c2 : i ≤ ab
        · rw [if_pos (.inl c2), decide_eq_true c2, br_true]; rfl
        · rw [decide_eq_false c2, br_false]
          unfold spec_Walk_1_v2_j2
          by_cases c3 : n ≤ i
          · rw [if_pos (.inr c3), decide_eq_true c3, br_true]; rfl
          · rw [if_neg (by simp [c2, c3]), decide_eq_false c3, br_false]
            cases hb : idx seen i with
            | none => rfl
            | some b =>
              simp only [Option.bind_eq_bind, Option.bind_some]
              unfold spec_Walk_1_v2_j3
              cases b with
              | true => rfl
              | false =>
                simp only [br_false, hb, Option.bind_eq_bind, Option.bind_some, Bool.false_eq_true, if_false]
                unfold spec_KWalk_1
                cases hs : idx t i with
                | none =>
                  have e1 : sdK t i = none := by simp [sdK, hs]
                  rw [e1]; rfl
                | some s =>
                  have e1 : sdK t i = some (s.2.2.1, s.2.2.2.1) := by simp [sdK, hs]
                  simp only [Option.bind_eq_bind, Option.bind_some, e1]
                  rw [ih]
                  cases h1 : wk n (sdK t) k s.2.2.1 i (iadd .i64 d 1) true (seen.set i.toNat true) ord dep with
                  | none => rfl
                  | some r =>
                    simp only [Option.map_some, Option.bind_some]
                    cases h2 : apd 8 r.2.2.1 [i] with
                    | none => rfl
                    | some o =>
                      simp only [Option.bind_some]
                      cases h3 : apd 8 r.2.2.2 [d] with
                      | none => rfl
                      | some e =>
                        simp only [Option.bind_some]
                        rw [ih]
                        cases h4 : wk n (sdK t) k s.2.2.2.1 i (iadd .i64 d 1) r.1 r.2.1 o e <;> rfl
theorem walk1_is (t : List KN) (n : Int) : ∀ (k : Nat) (i ab d : Int) (ok : Bool) (seen : List Bool),
    spec_Walk_1 k i ab d ok n seen t = spec_Walk_1_v2 k i ab d ok n seen t [] [] := by
  intro k
  induction k with
  | zero => intro i ab d ok seen; rfl
  | succ k ih =>
    intro i ab d ok seen
    have e : spec_Walk_1 k = fun i ab d ok n' seen t' => spec_Walk_1 k i ab d ok n' seen t' := rfl
    show spec_Walk_1_b (spec_Walk_1 k) k i ab d ok n seen t = spec_Walk_1_v2_b (spec_Walk_1_v2 k) k i ab d ok n seen t [] []
    have h3 : ∀ x, spec_Walk_1_j3 k n seen t i (spec_Walk_1 k) d ok x = spec_Walk_1_v2_j3 k n seen t [] [] i (spec_Walk_1_v2 k) d ok x := by
      intro x
      unfold spec_Walk_1_j3 spec_Walk_1_v2_j3
      cases x with
      | true => rfl
      | false =>
        rw [br_false, br_false]
        cases hb : idx seen i with
        | none => rfl
        | some b =>
          simp only [Option.bind_eq_bind, Option.bind_some]
          cases hs : spec_KWalk_1 k i t with
          | none => rfl
          | some s =>
            simp only [Option.bind_some]
            obtain ⟨t', c, f⟩ := s
            have ht : t' = t := by
              unfold spec_KWalk_1 at hs
              cases h : idx t i with
              | none => rw [h] at hs; cases hs
              | some u => rw [h] at hs; cases hs; rfl
            subst ht
            rw [ih]
    unfold spec_Walk_1_b spec_Walk_1_v2_b spec_Walk_1_j1 spec_Walk_1_v2_j1 spec_Walk_1_j2 spec_Walk_1_v2_j2
    simp only [h3]


/-! #### the list of a tree -/
def sz : G66 → Nat
  | .c0 => 0
  | .c1 _ _ a b _ => sz a + sz b + 1
def rt : G66 → Nat → Int
  | .c0, _ => -1
  | .c1 _ _ _ _ _, n => (n : Int)
def blo : G118 → List Nat
  | .c0 => []
  | .c1 (.c0 u) _ => u
def bhi : G118 → List Nat
  | .c0 => []
  | .c1 _ (.c0 v) => v
def pre : G66 → Nat → List KN
  | .c0, _ => []
  | .c1 (.c0 p) pl a b e, n => (p, pl, rt a (n + 1), rt b (n + 1 + sz a), blo e, bhi e) :: (pre a (n + 1) ++ pre b (n + 1 + sz a))
theorem pre_len : ∀ (T : G66) (n : Nat), (pre T n).length = sz T
  | .c0, _ => rfl
  | .c1 (.c0 p) pl a b e, n => by simp only [pre, sz, List.length_cons, List.length_append, pre_len a, pre_len b]
theorem pts_len : ∀ (T : G66), (pts T).length = sz T
  | .c0 => rfl
  | .c1 (.c0 p) pl a b e => by simp only [pts, sz, List.length_cons, List.length_append, pts_len a, pts_len b]; omega
theorem kg_pts {m : Nat} : ∀ (T : G66) (q : Nat), Kg m T q → ∀ x ∈ pts T, Pg m x
  | .c0, _, _ => fun x hx => by cases hx
  | .c1 (.c0 p) pl a b e, q, h => fun x hx => by
    obtain ⟨_, _, h3, _, _, h6, h7, _⟩ := h
    rw [pts] at hx
    rcases List.mem_append.1 hx with hx | hx
    · exact kg_pts a _ h6 x hx
    · rcases List.mem_cons.1 hx with rfl | hx
      · exact h3
      · exact kg_pts b _ h7 x hx

/-- the nodes of a tree lie in a list from a place on -/
def Nd (t : List KN) : G66 → Nat → Prop
  | .c0, _ => True
  | .c1 (.c0 p) pl a b e, n => idx t (n : Int) = some (p, pl, rt a (n + 1), rt b (n + 1 + sz a), blo e, bhi e) ∧ Nd t a (n + 1) ∧ Nd t b (n + 1 + sz a)
theorem nd_of {t : List KN} : ∀ (T : G66) (n : Nat), (∀ i, i < sz T → t[n + i]? = (pre T n)[i]?) → Nd t T n
  | .c0, _, _ => trivial
  | .c1 (.c0 p) pl a b e, n, h => by
    simp only [sz] at h
    refine ⟨?_, nd_of a _ fun i hi => ?_, nd_of b _ fun i hi => ?_⟩
    · have := h 0 (by omega)
      unfold idx
      rw [if_pos (by omega), Int.toNat_natCast]
      simpa [pre] using this
    · have := h (1 + i) (by omega)
      rw [show n + 1 + i = n + (1 + i) by omega, this, pre, show 1 + i = i + 1 by omega, List.getElem?_cons_succ, List.getElem?_append_left (by rw [pre_len]; exact hi)]
    · have := h (1 + (sz a + i)) (by omega)
      rw [show n + 1 + sz a + i = n + (1 + (sz a + i)) by omega, this, pre, show 1 + (sz a + i) = (sz a + i) + 1 by omega, List.getElem?_cons_succ, List.getElem?_append_right (by rw [pre_len]; omega), pre_len]
      congr 1; omega
theorem nd_pre (T : G66) : Nd (pre T 0) T 0 := nd_of T 0 fun i _ => by rw [Nat.zero_add]

/-- the order, with depths -/
def iin : G66 → Nat → Nat → List (Nat × Nat)
  | .c0, _, _ => []
  | .c1 _ _ a b _, n, d => iin a (n + 1) (d + 1) ++ (n, d) :: iin b (n + 1 + sz a) (d + 1)
theorem iin_len : ∀ (T : G66) (n d : Nat), (iin T n d).length = sz T
  | .c0, _, _ => rfl
  | .c1 _ _ a b _, n, d => by simp only [iin, sz, List.length_cons, List.length_append, iin_len a, iin_len b]; omega
theorem iin_lt : ∀ (T : G66) (n d : Nat), ∀ q ∈ iin T n d, n ≤ q.1 ∧ q.1 < n + sz T ∧ q.2 < d + sz T
  | .c0, _, _ => fun q hq => by cases hq
  | .c1 _ _ a b _, n, d => fun q hq => by
    simp only [iin, sz] at hq ⊢
    rcases List.mem_append.1 hq with hq | hq
    · have := iin_lt a _ _ q hq; omega
    · rcases List.mem_cons.1 hq with rfl | hq
      · simp only []; omega
      · have := iin_lt b _ _ q hq; omega

theorem getq_set {seen : List Bool} {n j : Nat} (h : n ≠ j) : (seen.set n true)[j]? = seen[j]? := by
  rw [List.getElem?_set]; simp [h]
theorem wk_tree (t : List KN) (N : Nat) : ∀ (T : G66) (n k : Nat) (ab : Int) (d : Nat) (seen : List Bool) (ord dep : List Int), Nd t T n → n + sz T ≤ N → seen.length = N → (∀ j, n ≤ j → j < n + sz T → seen[j]? = some false) →
    ab < (n : Int) → ord.length + sz T < 1000000 → dep.length + sz T < 1000000 → d + sz T < 1000000 → sz T < k →
    ∃ seen', wk N (sdK t) k (rt T n) ab (d : Int) true seen ord dep = some (true, seen', ord ++ (iin T n d).map (fun q => (q.1 : Int)), dep ++ (iin T n d).map (fun q => (q.2 : Int))) ∧ seen'.length = N ∧ ∀ j, j < n ∨ n + sz T ≤ j → seen'[j]? = seen[j]?
  | .c0, n, k, ab, d, seen, ord, dep, h1, h2, h3, h4, h5, h6, h7, h8, h9 => by
    obtain ⟨k, rfl⟩ : ∃ j, k = j + 1 := ⟨k - 1, by omega⟩
    exact ⟨seen, by simp [wk, rt, iin], h3, fun _ _ => rfl⟩
  | .c1 (.c0 p) pl a b e, n, k, ab, d, seen, ord, dep, h1, h2, h3, h4, h5, h6, h7, h8, h9 => by
    simp only [sz] at h2 h4 h6 h7 h8 h9
    obtain ⟨k, rfl⟩ : ∃ j, k = j + 1 := ⟨k - 1, by omega⟩
    obtain ⟨g1, g2, g3⟩ := h1
    have hs : idx seen (n : Int) = some false := by
      unfold idx; rw [if_pos (by omega), Int.toNat_natCast]; exact h4 n (Nat.le_refl _) (by omega)
    have hd : sdK t (n : Int) = some (rt a (n + 1), rt b (n + 1 + sz a)) := by simp only [sdK, g1, Option.map_some]
    obtain ⟨s1, r1, l1, o1⟩ := wk_tree t N a (n + 1) k n (d + 1) (seen.set n true) ord dep g2 (by omega) (by simpa using h3) (fun j q1 q2 => by rw [getq_set (by omega)]; exact h4 j (by omega) (by omega)) (by omega) (by omega) (by omega) (by omega) (by omega)
    have il := iin_len a (n + 1) (d + 1)
    obtain ⟨s2, r2, l2, o2⟩ := wk_tree t N b (n + 1 + sz a) k n (d + 1) s1 (ord ++ (iin a (n + 1) (d + 1)).map (fun q => (q.1 : Int)) ++ [(n : Int)]) (dep ++ (iin a (n + 1) (d + 1)).map (fun q => (q.2 : Int)) ++ [(d : Int)]) g3 (by omega) l1
      (fun j q1 q2 => by rw [o1 j (.inr (by omega)), getq_set (by omega)]; exact h4 j (by omega) (by omega)) (by omega) (by simp; omega) (by simp; omega) (by omega) (by omega)
    have a1 : apd 8 (ord ++ (iin a (n + 1) (d + 1)).map (fun q => (q.1 : Int))) [(n : Int)] = some (ord ++ (iin a (n + 1) (d + 1)).map (fun q => (q.1 : Int)) ++ [(n : Int)]) := apd_some (by simp; omega) (by simp; omega)
    have a2 : apd 8 (dep ++ (iin a (n + 1) (d + 1)).map (fun q => (q.2 : Int))) [(d : Int)] = some (dep ++ (iin a (n + 1) (d + 1)).map (fun q => (q.2 : Int)) ++ [(d : Int)]) := apd_some (by simp; omega) (by simp; omega)
    refine ⟨s2, ?_, l2, fun j hj => ?_⟩
    · have c1 : ¬ ((n : Int) = -1 ∨ true = false) := by simp
      have c2 : ¬ ((n : Int) ≤ ab ∨ (N : Int) ≤ (n : Int)) := by omega
      show wk N (sdK t) (k + 1) (n : Int) ab (d : Int) true seen ord dep = _
      simp only [wk, if_neg c1, if_neg c2, hs, Option.bind_eq_bind, Option.bind_some, Bool.false_eq_true, if_false, hd, Int.toNat_natCast, iadd_one (show d < 9223372036854775807 by omega), r1, a1, a2, r2]
      simp [iin]
    · simp only [sz] at hj
      rw [o2 j (by omega), o1 j (by omega), getq_set (by omega)]

theorem kwalk_is {t : List KN} {T : G66} {n k : Nat} (h : Nd t T n) (hn : n + sz T ≤ t.length) (hl : t.length < 100000) (hk : sz T < k) :
    spec_KWalk k t (rt T n) = some ((iin T n 0).map (fun q => (q.1 : Int)), (iin T n 0).map (fun q => (q.2 : Int)), true) := by
  have hm : mk 1 false (t.length : Int) (t.length : Int) = some (List.replicate t.length false) := by rw [mk_some (by omega) (by omega) (by omega) (by omega)]; simp
  obtain ⟨s, h1, h2, _⟩ := wk_tree t t.length T n k (-1) 0 (List.replicate t.length false) [] [] h hn (by simp) (fun j _ hj => by rw [List.getElem?_replicate]; simp; omega) (by omega) (by simp; omega) (by simp; omega) (by omega) hk
  have h1' : wk (t.length : Int) (sdK t) k (rt T n) (-1) 0 true (List.replicate t.length false) [] [] = _ := h1
  unfold spec_KWalk spec_Walk
  simp only [hm, Option.bind_eq_bind, Option.bind_some, walk1_is, walk2_is, h1', Option.map_some, List.nil_append]

/-- the points of the nodes in order -/
theorem iin_pts {t : List KN} : ∀ (T : G66) (n d : Nat), Nd t T n → (iin T n d).map (fun q => idx t (q.1 : Int) |>.map (·.1)) = (pts T).map some
  | .c0, _, _, _ => rfl
  | .c1 (.c0 p) pl a b e, n, d, ⟨g1, g2, g3⟩ => by
    simp only [iin, pts, List.map_append, List.map_cons, iin_pts a _ _ g2, iin_pts b _ _ g3, g1, Option.map_some]
theorem at_order {t : List KN} {T : G66} {n d i : Nat} (h : Nd t T n) (hi : i < sz T) : ∃ x, idx t (((iin T n d)[i]'(by rw [iin_len]; exact hi)).1 : Int) = some x ∧ x.1 = (pts T)[i]'(by rw [pts_len]; exact hi) := by
  have e := congrArg (fun l => l[i]?) (iin_pts T n d h)
  simp only [List.getElem?_map, List.getElem?_eq_getElem (show i < (iin T n d).length by rw [iin_len]; exact hi), List.getElem?_eq_getElem (show i < (pts T).length by rw [pts_len]; exact hi), Option.map_some, Option.some.injEq] at e
  cases hx : idx t (((iin T n d)[i]'(by rw [iin_len]; exact hi)).1 : Int) with
  | none => rw [hx] at e; cases e
  | some x => rw [hx] at e; exact ⟨x, rfl, by simpa using e⟩
theorem kpoints_is {t : List KN} {T : G66} {n k : Nat} (h : Nd t T n) (hn : n + sz T ≤ t.length) (hl : t.length < 100000) (hk : sz T < k) : spec_KPoints k t (rt T n) = some (pts T) := by
  unfold spec_KPoints
  rw [kwalk_is h hn hl hk, sbind]
  generalize hro : ((iin T n 0).map (fun q => (q.1 : Int)), (iin T n 0).map (fun q => (q.2 : Int)), true) = ro
  have ho : ro.1.length = sz T := by rw [← hro]; simp [iin_len]
  obtain ⟨y, e1, e2⟩ := loop_inv (F := spec_KPoints_l1 ro t) 0 (fun r v => ∃ i : Nat, v = ((pts T).take i, ((i : Nat) : Int)) ∧ i + r = sz T) (fun y => y = pts T) (fun k r v _ hI => by
    obtain ⟨i, rfl, h2⟩ := hI
    by_cases hi : i < sz T
    · have hi' : i < ro.1.length := by omega
      obtain ⟨x, x1, x2⟩ := at_order (d := 0) h hi
      have er : ro.1[i] = (((iin T n 0)[i]'(by rw [iin_len]; exact hi)).1 : Int) := by
        simp only [← hro]; simp
      have hp : i < (pts T).length := by rw [pts_len]; exact hi
      have ha : apd 24 ((pts T).take i) [x.1] = some ((pts T).take (i + 1)) := by
        rw [apd_some (by simp; omega) (by simp; omega), x2, List.take_succ_eq_append_getElem hp]
      refine .inr ⟨r - 1, ((pts T).take (i + 1), ((i + 1 : Nat) : Int)), by omega, ⟨i + 1, rfl, by omega⟩, ?_⟩
      simp only [spec_KPoints_l1, spec_KPoints_l1s, lt_true hi', br_true, idx_get hi', er, x1, Option.bind_eq_bind, Option.bind_some, ha, iadd_one (show i < 9223372036854775807 by omega)]
    · have : i = sz T := by omega
      subst this
      exact .inl ⟨pts T, by simp only [spec_KPoints_l1, spec_KPoints_l1s, lt_false (show ¬ sz T < ro.1.length by omega), br_false]; rw [← pts_len, List.take_length], rfl⟩) (sz T) ([], 0) k ⟨0, rfl, by omega⟩ (by omega)
  rw [e1, e2, sbind]

/-- what each node is -/
theorem node_at {t : List KN} {m : Nat} : ∀ (T : G66) (n d : Nat), Nd t T n → Kg m T (d % m) → ∀ q ∈ iin T n d, ∃ p a b e, idx t (q.1 : Int) = some (p, ((q.2 % m : Nat) : Int), rt a (q.1 + 1), rt b (q.1 + 1 + sz a), blo e, bhi e) ∧ Nd t a (q.1 + 1) ∧ Nd t b (q.1 + 1 + sz a) ∧ q.1 + 1 + sz a + sz b ≤ n + sz T ∧
      q.2 % m < m ∧ Pg m p ∧ (∀ x ∈ pts a, Pg m x ∧ ky (q.2 % m) x ≤ ky (q.2 % m) p) ∧ (∀ x ∈ pts b, Pg m x ∧ ky (q.2 % m) p < ky (q.2 % m) x)
  | .c0, _, _, _, _ => fun q hq => by cases hq
  | .c1 (.c0 p) pl a b e, n, d, ⟨g1, g2, g3⟩, ⟨k1, k2, k3, k4, k5, k6, k7, k8⟩ => fun q hq => by
    have em : (d % m + 1) % m = (d + 1) % m := by rw [Nat.mod_add_mod]
    rw [em] at k6 k7
    simp only [iin] at hq
    simp only [sz]
    rcases List.mem_append.1 hq with hq | hq
    · obtain ⟨p', a', b', e', w1, w2, w3, w4, w5⟩ := node_at a _ _ g2 k6 q hq
      exact ⟨p', a', b', e', w1, w2, w3, by omega, w5⟩
    · rcases List.mem_cons.1 hq with rfl | hq
      · exact ⟨p, a, b, e, by rw [g1, k1], g2, g3, by simp only []; omega, k2, k3, fun x hx => ⟨kg_pts a _ k6 x hx, k4 x hx⟩, fun x hx => ⟨kg_pts b _ k7 x hx, k5 x hx⟩⟩
      · obtain ⟨p', a', b', e', w1, w2, w3, w4, w5⟩ := node_at b _ _ g3 k7 q hq
        exact ⟨p', a', b', e', w1, w2, w3, by omega, w5⟩
end Go.Proofs.Ytjgpiealnfbkcaa
