/-
  A vantage-point tree is gone through in order, with depths: the plain statement. Ours.
-/
import Derived.Test.YtpakkblinocenaaIsV
import Derived.Test.YtpakkblinocenaaSxL
namespace Go.Proofs.Ytpakkblinocenaa
open Go.Sx
set_option linter.unusedVariables false
set_option linter.unusedSimpArgs false
set_option maxRecDepth 100000

theorem fits_is (k : Nat) (t : List VN) (hl : t.length ≤ maxLen) (hk : t.length < k) : ∃ b, laws_zzFits10 k t = some b := by
  unfold laws_zzFits10
  cases hb : decide ((2147483647 : Int) < (t.length : Int)) with
  | true => exact ⟨false, rfl⟩
  | false =>
    have hm : t.length ≤ 2147483647 := by have := of_decide_eq_false hb; omega
    rw [br_false]
    obtain ⟨y, h, _⟩ := loop_inv (F := laws_zzFits10_l1 t) 0 (fun m v => ∃ i : Nat, v = (i : Int) ∧ i + m = t.length) (fun _ => True) (fun k m v hk hI => by
      obtain ⟨i, h1, h2⟩ := hI
      subst h1
      by_cases hi : i < t.length
      · cases hd : decide ((2147483647 : Int) < (t[i].1.length : Int)) with
        | true => exact .inl ⟨.inl (), by simp only [laws_zzFits10_l1, laws_zzFits10_l1s, lt_true hi, br_true, br_false, idx_get hi, Option.bind_eq_bind, Option.bind_some, laws_zzFits11, hd, Bool.not_false], trivial⟩
        | false => exact .inr ⟨m - 1, ((i + 1 : Nat) : Int), by omega, ⟨i + 1, rfl, by omega⟩, by simp only [laws_zzFits10_l1, laws_zzFits10_l1s, lt_true hi, br_true, br_false, idx_get hi, Option.bind_eq_bind, Option.bind_some, laws_zzFits11, hd, Bool.not_true, iadd_one (show i < 9223372036854775807 by omega)]⟩
      · exact .inl ⟨.inr (), by simp only [laws_zzFits10_l1, laws_zzFits10_l1s, lt_false hi, br_false], trivial⟩) t.length 0 k ⟨0, rfl, by omega⟩ (by omega)
    rw [h]
    cases y with
    | inl u => exact ⟨false, rfl⟩
    | inr u => exact ⟨true, rfl⟩

theorem wide_rows (k : Nat) (rows : List (List Nat)) (q : List Nat) (hl : rows.length < 1000000) (hk : rows.length + 100 < k) : ∃ b, laws_wide k rows q = some b ∧ (b = true → q.length ≤ 6 ∧ ∀ r ∈ rows, r.length = q.length ∧ ∀ m, m < r.length → offGrid 4652218415073722368 (r.getD m 0) = false) := by
  unfold laws_wide
  by_cases h0 : (0 : Int) < (rows.length : Int)
  · rw [decide_eq_true h0, br_true]
    unfold laws_wide_j1
    by_cases h00 : (rows.length : Int) ≤ 100
    · rw [decide_eq_true h00, br_true]
      unfold laws_wide_j2
      by_cases h1 : (0 : Int) < (q.length : Int)
      · rw [decide_eq_true h1, br_true]
        unfold laws_wide_j3
        by_cases h2 : (q.length : Int) ≤ 6
        · rw [decide_eq_true h2, br_true]
          obtain ⟨b, hb, hb'⟩ := grid_rows k rows q.length (by omega) 4652218415073722368 hl (by omega)
          rw [hb, sbind]
          unfold laws_wide_j4 laws_wide_j5
          cases b with
          | false => exact ⟨false, rfl, fun h => by cases h⟩
          | true =>
            rw [br_true]
            obtain ⟨c, hc, hc'⟩ := grid_rows k [q] q.length (by omega) 4652218415073722368 (by simp) (by simp; omega)
            rw [hc, sbind]
            exact ⟨c, rfl, fun h => ⟨by omega, fun r hr => hb' rfl r hr⟩⟩
        · rw [decide_eq_false h2]; exact ⟨false, rfl, fun h => by cases h⟩
      · rw [decide_eq_false h1]; exact ⟨false, rfl, fun h => by cases h⟩
    · rw [decide_eq_false h00]; exact ⟨false, rfl, fun h => by cases h⟩
  · rw [decide_eq_false h0]; exact ⟨false, rfl, fun h => by cases h⟩

theorem vp_is (k : Nat) (t : List VN) (i : Int) (q : List Nat) (hq : q.length ≤ 6) (hr : ∀ x ∈ t, x.2.1 < 2 ^ 64) (hk : 10000 < k) :
    ∃ b, laws_vp k t i q = some b ∧ (b = true → t.length ≤ 100 ∧ ∃ l, Tr (cV t) (fV t) t.length i 0 l ∧ ∀ p ∈ l, (pV t p.1).length ≤ 6 ∧ ∀ m, m < (pV t p.1).length → offGrid 4652218415073722368 ((pV t p.1).getD m 0) = false) := by
  unfold laws_vp laws_vp_j1 laws_vp_j2
  have stop : ∃ b, laws_vp_j3 k t i q true = some b ∧ (b = true → t.length ≤ 100 ∧ ∃ l, Tr (cV t) (fV t) t.length i 0 l ∧ ∀ p ∈ l, (pV t p.1).length ≤ 6 ∧ ∀ m, m < (pV t p.1).length → offGrid 4652218415073722368 ((pV t p.1).getD m 0) = false) := ⟨false, rfl, fun h => by cases h⟩
  by_cases h1 : (t.length : Int) < 1
  · rw [decide_eq_true h1, br_true, br_true, br_true]; exact stop
  · rw [decide_eq_false h1, br_false]
    by_cases h2 : (100 : Int) < (t.length : Int)
    · rw [decide_eq_true h2, br_true, br_true]; exact stop
    · rw [decide_eq_false h2, br_false]
      by_cases h3 : (q.length : Int) < 1
      · rw [decide_eq_true h3, br_true]; exact stop
      · rw [decide_eq_false h3, br_false]
        rw [decide_eq_false (by omega)]
        unfold laws_vp_j3
        rw [br_false]
        obtain ⟨b, hb, hb'⟩ := isv_is k t i q.length (by omega) (by omega) hr hk
        rw [hb, sbind]
        unfold laws_vp_j4 laws_vp_j5
        cases b with
        | false => exact ⟨false, rfl, fun h => by cases h⟩
        | true =>
          rw [Bool.not_true, br_false]
          obtain ⟨l, t1, t2⟩ := hb' rfl
          obtain ⟨r, w1, w2⟩ := vpoints_is k t i (by omega) (by omega)
          rw [w2, sbind]
          obtain ⟨r', w1', w3, w4, w5⟩ := wkV_some t k i (by omega) (by omega)
          rw [w1] at w1'; cases w1'
          by_cases hn : (((r.2.2.1.map fun x => pV t x.toNat).length : Nat) : Int) = (t.length : Int)
          · rw [decide_eq_true hn, br_true]
            obtain ⟨c, hc, hc'⟩ := wide_rows k (r.2.2.1.map fun x => pV t x.toNat) q (by simp; omega) (by simp; omega)
            rw [hc, sbind]
            refine ⟨c, rfl, fun h => ⟨by omega, l, t1, fun p hp => ⟨by have := t2 p hp; omega, ?_⟩⟩⟩
            -- each node of the tree is among the points
            obtain ⟨g1, g2⟩ := hc' h
            have hok : r.1 = true := by
              obtain ⟨b2, q1, q2⟩ := isv_is k t i q.length (by omega) (by omega) hr hk
              cases hr1 : r.1 with
              | true => rfl
              | false =>
                exfalso
                have hb2 := hb
                unfold spec_IsV at hb2
                rw [vwalk_is k t i (by omega), w1] at hb2
                simp only [Option.map_some, Option.bind_eq_bind, Option.bind_some, hr1, Bool.not_false, br_true] at hb2
                cases hb2
            obtain ⟨l', u1, u2, u3⟩ := w5 hok
            have same : ∀ {i d : Int} {l l' : List (Nat × Int)}, Tr (cV t) (fV t) t.length i d l → Tr (cV t) (fV t) t.length i d l' → l = l' := by
              intro i d l l' h
              induction h generalizing l' with
              | nil d =>
                intro h'
                rcases h'.root with ⟨_, e⟩ | ⟨j, e, _⟩
                · exact e.symm
                · omega
              | @node j d l1 l2 hj h1 h2 g1 g2 ih1 ih2 =>
                intro h'
                generalize hjj : ((j : Nat) : Int) = jj at h'
                cases h' with
                | nil => omega
                | @node j' _ m1 m2 hj' k1 k2 f1 f2 =>
                  have : j = j' := by omega
                  subst this
                  rw [ih1 k1, ih2 k2]
            have hll := same t1 u1
            subst hll
            refine (g2 (pV t p.1) (List.mem_map.2 ⟨(p.1 : Int), ?_, by simp⟩)).2
            rw [u2]
            exact List.mem_map.2 ⟨p, hp, rfl⟩
          · rw [decide_eq_false hn]; exact ⟨false, rfl, fun h => by cases h⟩

/-! #### the visit -/
theorem visit_is (k : Nat) (p : List Nat) (d : Int) (pts : List (List Nat)) (dep : List Int) (hp : p.length ≤ 1000) (h1 : pts.length < 1000000) (h2 : dep.length < 1000000) :
    impl_VDo_2_v2 k (.c0 p) d pts dep = some (pts ++ [p], dep ++ [d], false) := by
  have a1 : apd 8 [] p = some p := by rw [apd_some (by simp; omega) (by simp; omega)]; rfl
  have a2 : apd 24 pts [p] = some (pts ++ [p]) := apd_some (by simp; omega) (by simp; omega)
  have a3 : apd 8 dep [d] = some (dep ++ [d]) := apd_some (by simp; omega) (by simp; omega)
  unfold impl_VDo_2_v2 impl_floats
  simp only [Option.bind_eq_bind, Option.bind_some, a1, a2, a3]
theorem do2_is : ∀ (T : G139) (d : Int) (k : Nat) (pts : List (List Nat)) (dep : List Int), T ≠ .c0 → ht T < k → pts.length = dep.length → pts.length + (inord T d).length < 1000000 → (∀ p ∈ inord T d, p.1.length ≤ 1000) →
    vptree_Node_do_v2 k T pts dep d = some (pts ++ (inord T d).map (·.1), dep ++ (inord T d).map (·.2), false) := by
  intro T
  induction T with
  | c0 => intro d k pts dep h; exact absurd rfl h
  | c1 x r a b iha ihb =>
    obtain ⟨p⟩ := x
    intro d k pts dep _ hk hpd hl hp
    obtain ⟨k, rfl⟩ : ∃ j, k = j + 1 := ⟨k - 1, by omega⟩
    show vptree_Node_do_v2_b (vptree_Node_do_v2 k) k (.c1 (.c0 p) r a b) pts dep d = _
    simp only [ht] at hk
    simp only [inord, List.length_append, List.length_cons] at hl
    simp only [inord, List.mem_append, List.mem_cons] at hp
    have hj1 : ∀ (pts : List (List Nat)) (dep : List Int), pts.length = dep.length → pts.length + 1 + (inord b (iadd .i64 d 1)).length < 1000000 →
        vptree_Node_do_v2_j1 k d (vptree_Node_do_v2 k) (.c0 p) r a b pts dep = some (pts ++ [p] ++ (inord b (iadd .i64 d 1)).map (·.1), dep ++ [d] ++ (inord b (iadd .i64 d 1)).map (·.2), false) := by
      intro pts dep h1 h2
      unfold vptree_Node_do_v2_j1
      rw [visit_is k p d pts dep (hp (p, d) (.inr (.inl rfl))) (by omega) (by omega), sbind]
      simp only [br_false]
      cases b with
      | c0 => simp [vptree_Node_do_v2_j2, inord]
      | c1 x2 r2 a2 b2 =>
        have := ihb (iadd .i64 d 1) k (pts ++ [p]) (dep ++ [d]) (by simp) (by omega) (by simp [h1]) (by simp; omega) (fun q hq => hp q (.inr (.inr hq)))
        simp only [this, Option.bind_eq_bind, Option.bind_some, vptree_Node_do_v2_j2]
    unfold vptree_Node_do_v2_b
    cases a with
    | c0 =>
      simp only [hj1 pts dep hpd (by omega), inord, List.nil_append, List.map_cons]
      simp
    | c1 x1 r1 a1 b1 =>
      have := iha (iadd .i64 d 1) k pts dep (by simp) (by omega) hpd (by omega) (fun q hq => hp q (.inl hq))
      simp only [this, Option.bind_eq_bind, Option.bind_some, br_false]
      rw [hj1 _ _ (by simp [hpd]) (by simp only [List.length_append, List.length_map]; omega)]
      simp [inord]
theorem do1_is : ∀ (T : G139) (d : Int) (k : Nat), T ≠ .c0 → ht T < k → (inord T d).length < 1000000 → (∀ p ∈ inord T d, p.1.length ≤ 1000) →
    vptree_Node_do k T d = some ((inord T d).map (·.1), (inord T d).map (·.2), false) := by
  intro T
  induction T with
  | c0 => intro d k h; exact absurd rfl h
  | c1 x r a b iha ihb =>
    obtain ⟨p⟩ := x
    intro d k _ hk hl hp
    obtain ⟨k, rfl⟩ : ∃ j, k = j + 1 := ⟨k - 1, by omega⟩
    show vptree_Node_do_b (vptree_Node_do k) k (.c1 (.c0 p) r a b) d = _
    simp only [ht] at hk
    simp only [inord, List.length_append, List.length_cons] at hl
    simp only [inord, List.mem_append, List.mem_cons] at hp
    have hj2 : ∀ (pts : List (List Nat)) (dep : List Int), pts.length = dep.length → pts.length + 1 + (inord b (iadd .i64 d 1)).length < 1000000 →
        vptree_Node_do_j2 k d (.c0 p) r a b pts dep = some (pts ++ [p] ++ (inord b (iadd .i64 d 1)).map (·.1), dep ++ [d] ++ (inord b (iadd .i64 d 1)).map (·.2), false) := by
      intro pts dep h1 h2
      unfold vptree_Node_do_j2
      rw [visit_is k p d pts dep (hp (p, d) (.inr (.inl rfl))) (by omega) (by omega), sbind]
      simp only [br_false]
      cases b with
      | c0 => simp [vptree_Node_do_j1, inord]
      | c1 x2 r2 a2 b2 =>
        have := do2_is (.c1 x2 r2 a2 b2) (iadd .i64 d 1) k (pts ++ [p]) (dep ++ [d]) (by simp) (by omega) (by simp [h1]) (by simp; omega) (fun q hq => hp q (.inr (.inr hq)))
        simp only [this, Option.bind_eq_bind, Option.bind_some, vptree_Node_do_j1]
    unfold vptree_Node_do_b
    cases a with
    | c0 =>
      simp only [hj2 [] [] rfl (by simp; omega), inord, List.nil_append, List.map_cons]
      simp
    | c1 x1 r1 a1 b1 =>
      have := iha (iadd .i64 d 1) k (by simp) (by omega) (by omega) (fun q hq => hp q (.inl hq))
      simp only [this, Option.bind_eq_bind, Option.bind_some, br_false]
      rw [hj2 _ _ (by simp) (by simp only [List.length_map]; omega)]
      simp [inord]

theorem vdo_is (k : Nat) (t : List VN) (i : Int) (l : List (Nat × Int)) (hl : t.length ≤ 1000) (h : Tr (cV t) (fV t) t.length i 0 l) (hll : l.length ≤ 1000) (hp : ∀ p ∈ l, (pV t p.1).length ≤ 6) (hk : 10000 < k) :
    impl_VDo k t i = some (l.map fun p => pV t p.1, l.map (·.2), true) := by
  have hi : -1 ≤ i := by
    rcases h.root with ⟨e, _⟩ | ⟨j, e, _⟩ <;> omega
  obtain ⟨T, h1, h2⟩ := vnode_is t k h (fun p hp' => by have := hp p hp'; omega) (by omega) (by omega)
  unfold impl_VDo impl_vtree
  rw [h1]
  simp only [Option.bind_eq_bind, Option.bind_some]
  unfold vptree_Tree_Do
  have hlen : (inord T 0).length = l.length := by rw [h2]; simp
  have e1 : (inord T 0).map (·.1) = l.map fun p => pV t p.1 := by rw [h2]; simp [Function.comp_def]
  have e2 : (inord T 0).map (·.2) = l.map (·.2) := by rw [h2]; simp [Function.comp_def]
  cases T with
  | c0 =>
    simp only [Option.bind_some]
    rw [← e1, ← e2]; rfl
  | c1 x r a b =>
    have hth := ht_le (.c1 x r a b) 0
    have := do1_is (.c1 x r a b) 0 k (by simp) (by omega) (by omega) (fun p hp' => by
      rw [h2] at hp'
      obtain ⟨q, hq, rfl⟩ := List.mem_map.1 hp'
      have := hp q hq; simp only; omega)
    simp only [this, Option.bind_eq_bind, Option.bind_some, e1, e2]

theorem same_point (k : Nat) (p : List Nat) (hl : p.length ≤ 1000) (hp : ∀ m, m < p.length → offGrid 4652218415073722368 (p.getD m 0) = false) (hk : 2000 < k) : spec_SamePoint k p p = some true := by
  unfold spec_SamePoint
  rw [decide_eq_true rfl, Bool.not_true, br_false]
  obtain ⟨y, h, h'⟩ := loop_inv (F := spec_SamePoint_l1 p p) 0 (fun m v => ∃ i : Nat, v = (i : Int) ∧ i + m = p.length) (fun y => y = .inr ()) (fun k m v hk hI => by
    obtain ⟨i, h1, h2⟩ := hI
    subst h1
    by_cases hi : i < p.length
    · have hx := hp i hi
      have e : p.getD i 0 = p[i] := by simp [List.getD, List.getElem?_eq_getElem hi]
      rw [e] at hx
      have hne : fne p[i] p[i] = false := by
        unfold offGrid at hx
        simp only [Bool.not_eq_false', Bool.and_eq_true, Bool.not_eq_true'] at hx
        have hn := (num_of_fle hx.1.2).1
        have ho : FloatKind.f64.format.order p[i] p[i] = some .eq := by
          have hsw := order_swap p[i] p[i]
          have hnn : FloatKind.f64.format.order p[i] p[i] ≠ none := by
            intro e0
            rw [order_none] at e0
            rcases e0 with e0 | e0 <;> rw [hn] at e0 <;> cases e0
          cases ho : FloatKind.f64.format.order p[i] p[i] with
          | none => exact absurd ho hnn
          | some o =>
            rw [ho] at hsw
            cases o with
            | eq => rfl
            | lt => cases hsw
            | gt => cases hsw
        unfold fne; rw [ho]; rfl
      exact .inr ⟨m - 1, ((i + 1 : Nat) : Int), by omega, ⟨i + 1, rfl, by omega⟩, by simp only [spec_SamePoint_l1, spec_SamePoint_l1s, lt_true hi, br_true, br_false, idx_get hi, Option.bind_eq_bind, Option.bind_some, hne, iadd_one (show i < 9223372036854775807 by omega)]⟩
    · exact .inl ⟨.inr (), by simp only [spec_SamePoint_l1, spec_SamePoint_l1s, lt_false hi, br_false], rfl⟩) p.length 0 k ⟨0, rfl, by omega⟩ (by omega)
  rw [h, h']; rfl

theorem fact_FnVDo (a0 : List VN) (a1 a2 : Int) {P : VN → Prop} {p q : Prop} (g0 : a0.length ≤ maxLen ∧ ∀ x ∈ a0, (x.1.length ≤ maxLen ∧ ∀ y ∈ x.1, y < 18446744073709551616) ∧ x.2.1 < 18446744073709551616 ∧ P x) (g1 : p) (g2 : q) : ∃ k, laws_FnVDo k a0 a1 a2 = some true := by
  refine ⟨a0.length + 20000, ?_⟩
  generalize hk : a0.length + 20000 = k
  have hr : ∀ x ∈ a0, x.2.1 < 2 ^ 64 := fun x hx => by
    have := (g0.2 x hx).2.1
    have e : (2 : Nat) ^ 64 = 18446744073709551616 := by decide
    omega
  unfold laws_FnVDo
  obtain ⟨b, hb⟩ := fits_is k a0 g0.1 (by omega)
  rw [hb, sbind]
  cases b with
  | false => rfl
  | true =>
    rw [Bool.not_true, br_false]
    have skip : laws_FnVDo_j1 k a0 a1 a2 true = some true := rfl
    by_cases h1 : a2 < 1
    · rw [decide_eq_true h1, br_true]; exact skip
    · rw [decide_eq_false h1, br_false]
      by_cases h2 : 6 < a2
      · rw [decide_eq_true h2]; exact skip
      · rw [decide_eq_false h2]
        unfold laws_FnVDo_j1
        rw [br_false, mk_some (by omega) (by omega) (by omega) (by omega), sbind]
        obtain ⟨b, v1, v2⟩ := vp_is k a0 a1 (List.replicate a2.toNat 0) (by simp; omega) hr (by omega)
        rw [v1, sbind]
        unfold laws_FnVDo_j2
        cases b with
        | false => rfl
        | true =>
          rw [Bool.not_true, br_false]
          obtain ⟨hlen, l, t1, t2⟩ := v2 rfl
          obtain ⟨r, w1, w2, w3, w4⟩ := wkV_some a0 k a1 (by omega) (by omega)
          rw [vwalk_is k a0 a1 (by omega), w1]
          have hok : r.1 = true := by
            cases hr1 : r.1 with
            | true => rfl
            | false =>
              exfalso
              -- a walk that is not well is no tree
              have hb2 := v1
              unfold laws_vp laws_vp_j1 laws_vp_j2 laws_vp_j3 at hb2
              obtain ⟨b3, i1, i2⟩ := isv_is k a0 a1 (List.replicate a2.toNat 0).length (by simp; omega) (by omega) hr (by omega)
              have hb3 : b3 = false := by
                unfold spec_IsV at i1
                rw [vwalk_is k a0 a1 (by omega), w1] at i1
                simp only [Option.map_some, Option.bind_eq_bind, Option.bind_some, hr1, Bool.not_false, br_true] at i1
                cases i1; rfl
              subst hb3
              have j4 : ∀ x, laws_vp_j4 k a0 a1 (List.replicate a2.toNat 0) true = some x → x = false := fun x h => by cases h; rfl
              by_cases c1 : (a0.length : Int) < 1
              · rw [decide_eq_true c1, br_true, br_true, br_true, br_true] at hb2; cases j4 _ hb2
              · rw [decide_eq_false c1, br_false, decide_eq_false (by omega), br_false] at hb2
                by_cases c2 : ((List.replicate a2.toNat 0).length : Int) < 1
                · rw [decide_eq_true c2, br_true, br_true] at hb2; cases j4 _ hb2
                · rw [decide_eq_false c2, br_false, decide_eq_false (by simp; omega), br_false, i1, sbind, Bool.not_false] at hb2; cases j4 _ hb2
          obtain ⟨l', u1, u2, u3⟩ := w4 hok
          have hll : l'.length ≤ a0.length := by rw [u2] at w3; simpa using w3
          have hmem : ∀ p ∈ l', (pV a0 p.1).length ≤ 6 ∧ ∀ m, m < (pV a0 p.1).length → offGrid 4652218415073722368 ((pV a0 p.1).getD m 0) = false := by
            have same : ∀ {i d : Int} {l l' : List (Nat × Int)}, Tr (cV a0) (fV a0) a0.length i d l → Tr (cV a0) (fV a0) a0.length i d l' → l = l' := by
              intro i d l l' h
              induction h generalizing l' with
              | nil d =>
                intro h'
                rcases h'.root with ⟨_, e⟩ | ⟨j, e, _⟩
                · exact e.symm
                · omega
              | @node j d l1 l2 hj h1 h2 g1 g2 ih1 ih2 =>
                intro h'
                generalize hjj : ((j : Nat) : Int) = jj at h'
                cases h' with
                | nil => omega
                | @node j' _ m1 m2 hj' k1 k2 f1 f2 =>
                  have : j = j' := by omega
                  subst this
                  rw [ih1 k1, ih2 k2]
            rw [← same t1 u1]; exact t2
          have hcl := u1.closed
          rw [vdo_is k a0 a1 l' (by omega) u1 (by omega) (fun p hp => (hmem p hp).1) (by omega)]
          simp only [Option.map_some, Option.bind_eq_bind, Option.bind_some, Bool.not_true, br_false, u2, u3]
          unfold laws_FnVDo_j3
          simp only [List.length_map, decide_true, Bool.not_true, br_false]
          unfold laws_FnVDo_j4
          rw [br_false]
          generalize hX : ((l'.map fun p : Nat × Int => (p.1 : Int)), l'.map (·.2), r.1) = X
          generalize hY : ((l'.map fun p : Nat × Int => pV a0 p.1), l'.map (·.2), true) = Y
          have hX1 : X.1 = l'.map fun p : Nat × Int => (p.1 : Int) := by rw [← hX]
          have hX2 : X.2.1 = l'.map (·.2) := by rw [← hX]
          have hY1 : Y.1 = l'.map fun p : Nat × Int => pV a0 p.1 := by rw [← hY]
          have hY2 : Y.2.1 = l'.map (·.2) := by rw [← hY]
          obtain ⟨y, e1, e2⟩ := loop_inv (F := laws_FnVDo_l1 X Y a0) 3000 (fun m v => ∃ i : Nat, v = (i : Int) ∧ i + m = l'.length) (fun y => y = .inr ()) (fun k m v hk hI => by
            obtain ⟨i, h1, h2⟩ := hI
            subst h1
            by_cases hi : i < l'.length
            · have hxi : i < X.1.length := by rw [hX1]; simpa using hi
              have x1 : idx X.1 (i : Int) = some ((l'[i].1 : Nat) : Int) := by rw [hX1, idx_get (by simpa using hi)]; simp
              have x2 : idx X.2.1 (i : Int) = some l'[i].2 := by rw [hX2, idx_get (by simpa using hi)]; simp
              have y1 : idx Y.1 (i : Int) = some (pV a0 l'[i].1) := by rw [hY1, idx_get (by simpa using hi)]; simp
              have y2 : idx Y.2.1 (i : Int) = some l'[i].2 := by rw [hY2, idx_get (by simpa using hi)]; simp
              have hq := (hcl _ (List.getElem_mem hi)).1
              have z1 : idx a0 ((l'[i].1 : Nat) : Int) = some a0[l'[i].1] := idx_get hq
              have z2 : a0[l'[i].1].1 = pV a0 l'[i].1 := by rw [pV, getD_at hq]
              have sp := same_point k (pV a0 l'[i].1) (by have := (hmem _ (List.getElem_mem hi)).1; omega) (hmem _ (List.getElem_mem hi)).2 (by omega)
              exact .inr ⟨m - 1, ((i + 1 : Nat) : Int), by omega, ⟨i + 1, rfl, by omega⟩, by simp only [laws_FnVDo_l1, laws_FnVDo_l1s, lt_true hxi, br_true, br_false, x1, x2, y1, y2, Option.bind_eq_bind, Option.bind_some, decide_true, Bool.not_true, z1, z2, sp, laws_FnVDo_j6, iadd_one (show i < 9223372036854775807 by omega)]⟩
            · exact .inl ⟨.inr (), by simp only [laws_FnVDo_l1, laws_FnVDo_l1s, lt_false (show ¬ i < X.1.length by rw [hX1]; simpa using hi), br_false], rfl⟩) l'.length 0 k ⟨0, rfl, by omega⟩ (by omega)
          rw [e1, e2]; rfl
end Go.Proofs.Ytpakkblinocenaa
