/-
  Whether nodes are a vantage-point tree is told, whatever the nodes are. Ours.
-/
import Derived.Test.YtpakkblinocenaaWalkV
import Derived.Test.YtpakkblinocenaaDyadicAny
import Derived.Test.YtpakkblinocenaaGridRows
namespace Go.Proofs.Ytpakkblinocenaa
open Go.Sx
set_option linter.unusedVariables false
set_option linter.unusedSimpArgs false
set_option maxRecDepth 100000

theorem square_is (k : Nat) (a b : List Nat) (h : a.length ≤ b.length) (hl : a.length < 1000000) (hk : a.length < k) : ∃ x, spec_SquareN k a b = some x ∧ x < 2 ^ 64 := by
  have := loop_inv (F := spec_SquareN_l1 a b) 0 (fun m v => ∃ i : Nat, v.2 = (i : Int) ∧ i + m = a.length ∧ v.1 < 2 ^ 64) (fun y => y < 2 ^ 64) (fun k m v _ hI => by
    obtain ⟨i, h1, h2, h3⟩ := hI
    obtain ⟨x, j⟩ := v
    simp only at h1 h3; subst h1
    by_cases hi : i < a.length
    · have hb : i < b.length := by omega
      refine .inr ⟨m - 1, (gadd x (gmul (gsub a[i] b[i]) (gsub a[i] b[i])), ((i + 1 : Nat) : Int)), by omega, ⟨i + 1, rfl, by omega, gadd_lt _ _⟩, ?_⟩
      simp only [spec_SquareN_l1, spec_SquareN_l1s, lt_true hi, br_true, idx_get hi, idx_get hb, Option.bind_eq_bind, Option.bind_some, iadd_one (show i < 9223372036854775807 by omega)]
    · exact .inl ⟨x, by simp only [spec_SquareN_l1, spec_SquareN_l1s, lt_false hi, br_false], h3⟩) a.length (0, 0) k ⟨0, rfl, by omega, by show 0 < _; decide⟩ (by omega)
  obtain ⟨y, h1, h2⟩ := this
  exact ⟨y, by unfold spec_SquareN; rw [h1]; rfl, h2⟩

/-- the points from a node on -/
theorem vpoints_is (k : Nat) (t : List VN) (i : Int) (hl : t.length < 1000000) (hk : t.length + 1 < k) : ∃ r, wkV t k i = some r ∧ spec_VPoints k t i = some (r.2.2.1.map fun x => pV t x.toNat) := by
  obtain ⟨r, h1, h2, h3, h4⟩ := wkV_some t k i hl hk
  have hlt := wk_lt _ _ _ _ _ _ _ _ _ _ _ h1 (by omega)
  refine ⟨r, h1, ?_⟩
  unfold spec_VPoints
  rw [vwalk_is k t i hl, h1]
  simp only [Option.map_some, Option.bind_eq_bind, Option.bind_some]
  obtain ⟨y, e1, e2⟩ := loop_inv (F := spec_VPoints_l1 (r.2.2.1, r.2.2.2, r.1) t) 0 (fun m v => ∃ i : Nat, v.2 = (i : Int) ∧ i + m = r.2.2.1.length ∧ v.1 = (r.2.2.1.take i).map fun x => pV t x.toNat) (fun y => y = r.2.2.1.map fun x => pV t x.toNat) (fun k m v _ hI => by
    obtain ⟨i, h1, h2, h3'⟩ := hI
    obtain ⟨x, j⟩ := v
    simp only at h1 h3'; subst h1
    by_cases hi : i < r.2.2.1.length
    · have hx := hlt _ (List.getElem_mem hi)
      obtain ⟨q, hq, hx⟩ : ∃ q : Nat, (q : Int) < t.length ∧ r.2.2.1[i] = (q : Int) := by
        rcases hx with h | h
        · cases h
        · exact h
      refine .inr ⟨m - 1, (x ++ [pV t q], ((i + 1 : Nat) : Int)), by omega, ⟨i + 1, rfl, by omega, ?_⟩, ?_⟩
      · rw [List.take_succ_eq_append_getElem hi, List.map_append, h3', hx]; simp
      · have hxl : x.length = i := by rw [h3', List.length_map, List.length_take]; omega
        have hap : apd 24 x [t[q].1] = some (x ++ [pV t q]) := by
          rw [apd_some (by simp; omega) (by simp; omega), pV, getD_at (by omega)]
        simp only [spec_VPoints_l1, spec_VPoints_l1s, lt_true hi, br_true, idx_get hi, hx, idx_get (show q < t.length by omega), Option.bind_eq_bind, Option.bind_some, hap, iadd_one (show i < 9223372036854775807 by omega)]
    · have : i = r.2.2.1.length := by omega
      subst this
      exact .inl ⟨x, by simp only [spec_VPoints_l1, spec_VPoints_l1s, lt_false hi, br_false], by rw [h3', List.take_length]⟩) r.2.2.1.length ([], 0) k ⟨0, rfl, by omega, by simp⟩ (by omega)
  rw [e1, e2]; rfl
/-- those of a part of a tree -/
theorem vpoints_in (k : Nat) (t : List VN) {i d : Int} {l : List (Nat × Int)} (ht : Tr (cV t) (fV t) t.length i d l) (hl : t.length < 1000000) (hk : t.length + 1 < k) {c : Int} (hc : c = -1 ∨ ∃ q ∈ l, c = (q.1 : Int)) :
    ∃ P, spec_VPoints k t c = some P ∧ P.length ≤ t.length ∧ ∀ p ∈ P, ∃ q ∈ l, p = pV t q.1 := by
  obtain ⟨r, h1, h2⟩ := vpoints_is k t c hl hk
  refine ⟨_, h2, ?_, fun p hp => ?_⟩
  · obtain ⟨r', h1', _, h3, _⟩ := wkV_some t k c hl hk
    rw [h1] at h1'; cases h1'
    simpa using h3
  · obtain ⟨x, hx, rfl⟩ := List.mem_map.1 hp
    have hcl := ht.closed
    have := wk_in t.length (cV t) (fV t) (sdV t) (fun j => ∃ q ∈ l, q.1 = j) (fun j ⟨q, hq, e⟩ => sdV_is t j (by rw [← e]; exact (hcl q hq).1)) (fun j ⟨q, hq, e⟩ => by
      subst e
      refine ⟨?_, ?_⟩
      · rcases (hcl q hq).2.1 with h | ⟨u, hu, h⟩
        · exact .inl h
        · exact .inr ⟨u.1, ⟨u, hu, rfl⟩, h⟩
      · rcases (hcl q hq).2.2 with h | ⟨u, hu, h⟩
        · exact .inl h
        · exact .inr ⟨u.1, ⟨u, hu, rfl⟩, h⟩) _ _ _ _ _ _ _ _ _ h1 (by
      rcases hc with h | ⟨q, hq, h⟩
      · exact .inl h
      · exact .inr ⟨q.1, ⟨q, hq, rfl⟩, h⟩) x hx
    rcases this with h | ⟨q, ⟨u, hu, e⟩, h⟩
    · cases h
    · exact ⟨u, hu, by rw [h, Int.toNat_natCast, e]⟩

theorem far4 (k : Nat) (P : List (List Nat)) (n : VN) (s : Bool) (l : List Int) (e N : Int) (hd : Dr (-2148) 1942 4 s l e N) (hP : ∀ p ∈ P, p.length ≤ n.1.length ∧ p.length ≤ 1000) (hl : P.length < 1000000) (hk : P.length + 2000 < k) :
    (∃ y, spec_IsV_l4 P n (s, l, e) k 0 = some y) ∧ ∃ y, spec_IsV_l5 P n (s, l, e) k 0 = some y := by
  constructor
  · obtain ⟨y, h, _⟩ := loop_inv (F := spec_IsV_l4 P n (s, l, e)) 1500 (fun m v => ∃ i : Nat, v = (i : Int) ∧ i + m = P.length) (fun _ => True) (fun k m v hk hI => by
      obtain ⟨i, h1, h2⟩ := hI
      subst h1
      by_cases hi : i < P.length
      · have hp := hP _ (List.getElem_mem hi)
        obtain ⟨x, q1, q2⟩ := square_is k P[i] n.1 hp.1 (by omega) (by omega)
        obtain ⟨s', l', e', M, q3, q4, _⟩ := dyadic_any k x q2 (by omega)
        obtain ⟨c, q5⟩ := dcmp_any (k := k) q4 hd (by omega)
        by_cases hc : 0 < c
        · exact .inl ⟨.inl (), by simp only [spec_IsV_l4, spec_IsV_l4s, lt_true hi, br_true, idx_get hi, Option.bind_eq_bind, Option.bind_some, q1, q3, q5, decide_eq_true hc], trivial⟩
        · exact .inr ⟨m - 1, ((i + 1 : Nat) : Int), by omega, ⟨i + 1, rfl, by omega⟩, by simp only [spec_IsV_l4, spec_IsV_l4s, lt_true hi, br_true, br_false, idx_get hi, Option.bind_eq_bind, Option.bind_some, q1, q3, q5, decide_eq_false hc, iadd_one (show i < 9223372036854775807 by omega)]⟩
      · exact .inl ⟨.inr (), by simp only [spec_IsV_l4, spec_IsV_l4s, lt_false hi, br_false], trivial⟩) P.length 0 k ⟨0, rfl, by omega⟩ (by omega)
    exact ⟨y, h⟩
  · obtain ⟨y, h, _⟩ := loop_inv (F := spec_IsV_l5 P n (s, l, e)) 1500 (fun m v => ∃ i : Nat, v = (i : Int) ∧ i + m = P.length) (fun _ => True) (fun k m v hk hI => by
      obtain ⟨i, h1, h2⟩ := hI
      subst h1
      by_cases hi : i < P.length
      · have hp := hP _ (List.getElem_mem hi)
        obtain ⟨x, q1, q2⟩ := square_is k P[i] n.1 hp.1 (by omega) (by omega)
        obtain ⟨s', l', e', M, q3, q4, _⟩ := dyadic_any k x q2 (by omega)
        obtain ⟨c, q5⟩ := dcmp_any (k := k) q4 hd (by omega)
        by_cases hc : c < 0
        · exact .inl ⟨.inl (), by simp only [spec_IsV_l5, spec_IsV_l5s, lt_true hi, br_true, idx_get hi, Option.bind_eq_bind, Option.bind_some, q1, q3, q5, decide_eq_true hc], trivial⟩
        · exact .inr ⟨m - 1, ((i + 1 : Nat) : Int), by omega, ⟨i + 1, rfl, by omega⟩, by simp only [spec_IsV_l5, spec_IsV_l5s, lt_true hi, br_true, br_false, idx_get hi, Option.bind_eq_bind, Option.bind_some, q1, q3, q5, decide_eq_false hc, iadd_one (show i < 9223372036854775807 by omega)]⟩
      · exact .inl ⟨.inr (), by simp only [spec_IsV_l5, spec_IsV_l5s, lt_false hi, br_false], trivial⟩) P.length 0 k ⟨0, rfl, by omega⟩ (by omega)
    exact ⟨y, h⟩

theorem isv_is (k : Nat) (t : List VN) (i : Int) (dims : Nat) (hd : dims ≤ 1000) (hl : t.length ≤ 1000) (hr : ∀ x ∈ t, x.2.1 < 2 ^ 64) (hk : 10000 < k) :
    ∃ b, spec_IsV k t i dims = some b ∧ (b = true → ∃ l, Tr (cV t) (fV t) t.length i 0 l ∧ ∀ p ∈ l, (pV t p.1).length = dims) := by
  unfold spec_IsV
  obtain ⟨r, h1, h2, h3, h4⟩ := wkV_some t k i (by omega) (by omega)
  rw [vwalk_is k t i (by omega), h1]
  simp only [Option.map_some, Option.bind_eq_bind, Option.bind_some]
  cases hok : r.1 with
  | false => exact ⟨false, rfl, fun h => by cases h⟩
  | true =>
    obtain ⟨l, t1, t2, t3⟩ := h4 hok
    have hcl := t1.closed
    have hll : l.length ≤ t.length := by rw [t2] at h3; simpa using h3
    rw [Bool.not_true, br_false, t2, t3]
    generalize hro : ((l.map fun p : Nat × Int => (p.1 : Int)), l.map (·.2), true) = ro
    have hro1 : ro.1 = l.map fun p : Nat × Int => (p.1 : Int) := by rw [← hro]
    have at_ : ∀ m (hm : m < l.length), idx ro.1 (m : Int) = some ((l[m].1 : Nat) : Int) ∧ ∃ hq : l[m].1 < t.length, idx t ((l[m].1 : Nat) : Int) = some t[l[m].1] ∧ t[l[m].1].1 = pV t l[m].1 := by
      intro m hm
      have hq := (hcl _ (List.getElem_mem hm)).1
      refine ⟨?_, hq, idx_get hq, by rw [pV, getD_at hq]⟩
      rw [hro1, idx_get (by simpa using hm)]; simp
    have hlen : ro.1.length = l.length := by rw [hro1]; simp
    -- the first loop
    have L1 : ∃ y, spec_IsV_l1 ro t dims k 0 = some y ∧ (y = .inr () → ∀ m (hm : m < l.length), (pV t l[m].1).length = dims) := by
      obtain ⟨y, e1, e2⟩ := loop_inv (F := spec_IsV_l1 ro t dims) 10 (fun m v => ∃ i : Nat, v = (i : Int) ∧ i + m = l.length ∧ ∀ j (hj : j < l.length), j < i → (pV t l[j].1).length = dims) (fun y => y = .inr () → ∀ m (hm : m < l.length), (pV t l[m].1).length = dims) (fun k m v hk hI => by
        obtain ⟨i, h1, h2, h3⟩ := hI
        subst h1
        by_cases hi : i < l.length
        · obtain ⟨a1, hq, a2, a3⟩ := at_ i hi
          have hi' : i < ro.1.length := by omega
          have hrad : t[l[i].1].2.1 < 2 ^ 64 := hr _ (List.getElem_mem hq)
          by_cases hd : (t[l[i].1].1.length : Int) = dims
          · have hnext : ∀ j (hj : j < l.length), j < i + 1 → (pV t l[j].1).length = dims := by
              intro j hj hj2
              by_cases hji : j = i
              · subst hji; rw [← a3]; omega
              · exact h3 j hj (by omega)
            have fin : ∃ b, spec_Finite k t[l[i].1].2.1 = some b := ⟨_, rfl⟩
            obtain ⟨fb, fb1⟩ := fin
            cases fb with
            | false => exact .inl ⟨.inl (), by simp only [spec_IsV_l1, spec_IsV_l1s, lt_true hi', br_true, br_false, a1, a2, Option.bind_eq_bind, Option.bind_some, decide_eq_true hd, Bool.not_true, fb1, Bool.not_false, spec_IsV_j3, spec_IsV_j4], fun h => by cases h⟩
            | true =>
              cases hz : flt t[l[i].1].2.1 0 with
              | true => exact .inl ⟨.inl (), by simp only [spec_IsV_l1, spec_IsV_l1s, lt_true hi', br_true, br_false, a1, a2, Option.bind_eq_bind, Option.bind_some, decide_eq_true hd, Bool.not_true, fb1, spec_IsV_j3, hz, spec_IsV_j4], fun h => by cases h⟩
              | false => exact .inr ⟨m - 1, ((i + 1 : Nat) : Int), by omega, ⟨i + 1, rfl, by omega, hnext⟩, by simp only [spec_IsV_l1, spec_IsV_l1s, lt_true hi', br_true, br_false, a1, a2, Option.bind_eq_bind, Option.bind_some, decide_eq_true hd, Bool.not_true, fb1, spec_IsV_j3, hz, spec_IsV_j4, iadd_one (show i < 9223372036854775807 by omega)]⟩
          · exact .inl ⟨.inl (), by simp only [spec_IsV_l1, spec_IsV_l1s, lt_true hi', br_true, a1, a2, Option.bind_eq_bind, Option.bind_some, decide_eq_false hd, Bool.not_false, spec_IsV_j3, spec_IsV_j4], fun h => by cases h⟩
        · exact .inl ⟨.inr (), by simp only [spec_IsV_l1, spec_IsV_l1s, lt_false (show ¬ i < ro.1.length by omega), br_false], fun _ m hm => h3 m hm (by omega)⟩) l.length 0 k ⟨0, rfl, by omega, fun j hj h => absurd h (by omega)⟩ (by omega)
      exact ⟨y, e1, e2⟩
    obtain ⟨y, e1, e2⟩ := L1
    rw [e1]
    simp only [Option.bind_some]
    cases y with
    | inl u => exact ⟨false, rfl, fun h => by cases h⟩
    | inr u =>
      have hdim := e2 rfl
      have hdim' : ∀ p ∈ l, (pV t p.1).length = dims := fun p hp => by
        obtain ⟨m, hm, rfl⟩ := List.mem_iff_getElem.1 hp
        exact hdim m hm
      have L6 : ∃ y, spec_IsV_l6 ro t k 0 = some y := by
        obtain ⟨y, e1, _⟩ := loop_inv (F := spec_IsV_l6 ro t) 5000 (fun m v => ∃ i : Nat, v = (i : Int) ∧ i + m = l.length) (fun _ => True) (fun k m v hk hI => by
          obtain ⟨i, h1, h2⟩ := hI
          subst h1
          by_cases hi : i < l.length
          · obtain ⟨a1, hq, a2, a3⟩ := at_ i hi
            have hi' : i < ro.1.length := by omega
            have hrad : t[l[i].1].2.1 < 2 ^ 64 := hr _ (List.getElem_mem hq)
            obtain ⟨s, ll, e, M, d1, d2, _⟩ := dyadic_any k _ hrad (by omega)
            obtain ⟨s2, l2, e2', d3, d4⟩ := dmul_is (k := k) d2 d2 (by omega) (by omega) (by omega) (by omega) (by omega) (by omega) (by omega)
            have hc := hcl _ (List.getElem_mem hi)
            have ec : t[l[i].1].2.2.1 = cV t l[i].1 := by rw [cV, getD_at hq]
            have ef : t[l[i].1].2.2.2 = fV t l[i].1 := by rw [fV, getD_at hq]
            obtain ⟨P1, p1, p1l, p1'⟩ := vpoints_in k t t1 (by omega) (by omega) hc.2.1
            obtain ⟨P2, p2, p2l, p2'⟩ := vpoints_in k t t1 (by omega) (by omega) hc.2.2
            have hn1 : t[l[i].1].1.length = dims := by rw [a3]; exact hdim i hi
            have f1 := (far4 k P1 t[l[i].1] s2 l2 e2' _ d4 (fun p hp => by
              obtain ⟨q, hq, rfl⟩ := p1' p hp
              have := hdim' q hq; omega) (by omega) (by omega)).1
            have f2 := (far4 k P2 t[l[i].1] s2 l2 e2' _ d4 (fun p hp => by
              obtain ⟨q, hq, rfl⟩ := p2' p hp
              have := hdim' q hq; omega) (by omega) (by omega)).2
            obtain ⟨y4, f1⟩ := f1
            obtain ⟨y5, f2⟩ := f2
            have head : spec_IsV_l6 ro t (k + 1) (i : Int) = (match y4 with
                | (.inl _) => (some (.inl ()))
                | (.inr _) => (match y5 with
                  | (.inl _) => (some (.inl ()))
                  | (.inr _) => spec_IsV_l6 ro t k (iadd .i64 (i : Int) 1))) := by
              simp only [spec_IsV_l6, spec_IsV_l6s, lt_true hi', br_true, a1, a2, Option.bind_eq_bind, Option.bind_some, d1, d3, ec, ef, p1, p2, f1, f2]
              cases y4 <;> cases y5 <;> rfl
            cases y4 with
            | inl u => exact .inl ⟨_, head, trivial⟩
            | inr u =>
              cases y5 with
              | inl u => exact .inl ⟨_, head, trivial⟩
              | inr u => exact .inr ⟨m - 1, ((i + 1 : Nat) : Int), by omega, ⟨i + 1, rfl, by omega⟩, by rw [head]; simp only [iadd_one (show i < 9223372036854775807 by omega)]⟩
          · exact .inl ⟨.inr (), by simp only [spec_IsV_l6, spec_IsV_l6s, lt_false (show ¬ i < ro.1.length by omega), br_false], trivial⟩) l.length 0 k ⟨0, rfl, by omega⟩ (by omega)
        exact ⟨y, e1⟩
      obtain ⟨y6, e6⟩ := L6
      simp only [e6, Option.bind_some]
      cases y6 with
      | inl u => exact ⟨false, rfl, fun h => by cases h⟩
      | inr u => exact ⟨true, rfl, fun _ => ⟨l, t1, hdim'⟩⟩
end Go.Proofs.Ytpakkblinocenaa
