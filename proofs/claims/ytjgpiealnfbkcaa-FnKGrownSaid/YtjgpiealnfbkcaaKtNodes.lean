/-
  The list of the nodes of a k-d tree; that it is one. Plain; ours.
-/
import Derived.Test.YtjgpiealnfbkcaaKtWalk
namespace Go.Proofs.Ytjgpiealnfbkcaa
open Go.Sx
set_option linter.unusedVariables false
set_option linter.unusedSimpArgs false
set_option maxRecDepth 100000

theorem floats_is (k : Nat) {p : List Nat} (h : p.length ≤ 1000) : impl_floats k p = some p := by
  unfold impl_floats; rw [apd_row h]; rfl
theorem tail_is (k : Nat) (u : List KN) (p : List Nat) (pl : Int) (rec1 : G66 → List KN → Option (List KN × Int)) (a b : G66) (x : G118) (lo hi : List Nat) (hu : u.length < 1000000)
    (ha : ∀ w : List KN, w.length = u.length + 1 → rec1 a w = some (w ++ pre a w.length, rt a w.length)) (hb : ∀ w : List KN, w.length = u.length + 1 + sz a → rec1 b w = some (w ++ pre b w.length, rt b w.length)) :
    impl_knodes_v2_j1 k u p pl rec1 a b x lo hi = some (u ++ (p, pl, rt a (u.length + 1), rt b (u.length + 1 + sz a), lo, hi) :: (pre a (u.length + 1) ++ pre b (u.length + 1 + sz a)), ((u.length : Nat) : Int)) := by
  unfold impl_knodes_v2_j1
  rw [apd_some (by simp; omega) (by simp; omega), sbind, ha _ (by simp), sbind]
  simp only []
  rw [hb _ (by simp [pre_len]; omega)]
  rw [sbind]
  have e1 : (u ++ [(p, pl, 0, 0, lo, hi)]).length = u.length + 1 := by simp
  have e2 : ((u ++ [(p, pl, 0, 0, lo, hi)]) ++ pre a (u.length + 1)).length = u.length + 1 + sz a := by simp [pre_len]; omega
  simp only [e1, e2]
  have at0 : ∀ (y : KN) (l : List KN), idx (u ++ y :: l) ((u.length : Nat) : Int) = some y := fun y l => by
    rw [idx_get (by simp)]; simp
  have st0 : ∀ (y z : KN) (l : List KN), (u ++ y :: l).set ((u.length : Nat) : Int).toNat z = u ++ z :: l := fun y z l => by
    rw [Int.toNat_natCast, List.set_append_right _ _ (Nat.le_refl _)]; simp
  have e3 : u ++ [(p, pl, 0, 0, lo, hi)] ++ pre a (u.length + 1) ++ pre b (u.length + 1 + sz a) = u ++ (p, pl, 0, 0, lo, hi) :: (pre a (u.length + 1) ++ pre b (u.length + 1 + sz a)) := by simp
  rw [e3, at0, sbind, st0, at0, sbind, st0]
theorem knodes2_is (m : Nat) (hm : m ≤ 1000) : ∀ (k : Nat) (T : G66) (q : Nat) (u : List KN), Kg m T q → u.length + sz T < 1000000 → sz T < k → impl_knodes_v2 k T u = some (u ++ pre T u.length, rt T u.length) := by
  intro k
  induction k with
  | zero => intro T q u h1 h2 h3; omega
  | succ k ih =>
    intro T q u h1 h2 h3
    show impl_knodes_v2_b (impl_knodes_v2 k) k T u = _
    cases T with
    | c0 => simp [impl_knodes_v2_b, pre, rt]
    | c1 x pl a b e =>
      obtain ⟨p⟩ := x
      obtain ⟨k1, k2, k3, k4, k5, k6, k7, k8⟩ := h1
      simp only [sz] at h2 h3
      have tl : ∀ (x : G118) (lo hi : List Nat), impl_knodes_v2_j1 k u p pl (impl_knodes_v2 k) a b x lo hi = _ := fun x lo hi => tail_is k u p pl (impl_knodes_v2 k) a b x lo hi (by omega) (fun w hw => ih a _ w k6 (by omega) (by omega)) (fun w hw => ih b _ w k7 (by omega) (by omega))
      unfold impl_knodes_v2_b
      simp only []
      rw [floats_is k (by rw [k3.1]; exact hm), sbind]
      cases e with
      | c0 => simp only []; rw [tl]; rfl
      | c1 y z =>
        obtain ⟨y⟩ := y; obtain ⟨z⟩ := z
        simp only []
        rw [floats_is k (by rw [k8.1]; exact hm), sbind, floats_is k (by rw [k8.2]; exact hm), sbind, tl]; rfl
theorem knodes_is (m : Nat) (hm : m ≤ 1000) (k : Nat) (T : G66) (q : Nat) (h : Kg m T q) (hs : sz T < 1000000) (hk : sz T < k + 1) : impl_knodes k T = some (pre T 0, rt T 0) := by
  have e : impl_knodes k T = impl_knodes_v2 (k + 1) T [] := by
    show _ = impl_knodes_v2_b (impl_knodes_v2 k) k T []
    cases T with
    | c0 => rfl
    | c1 x pl a b e =>
      obtain ⟨p⟩ := x
      cases e with
      | c0 => rfl
      | c1 y z => obtain ⟨y⟩ := y; obtain ⟨z⟩ := z; rfl
  rw [e, knodes2_is m hm (k + 1) T q [] h (by simpa using hs) hk]; rfl

/-! #### that they are a k-d tree -/
theorem isk_is (k : Nat) {t : List KN} {T : G66} {m : Nat} (hn : Nd t T 0) (hg : Kg m T 0) (hl : t.length < 1000) (ht : sz T ≤ t.length) (hk : 5000 < k) (hm : 0 < m) :
    spec_IsK k t (rt T 0) (m : Int) = some true := by
  unfold spec_IsK
  rw [kwalk_is hn (by omega) (by omega) (by omega), sbind]
  have hna := node_at (m := m) T 0 0 hn (by rw [Nat.zero_mod]; exact hg)
  have hlt := iin_lt T 0 0
  generalize hro : ((iin T 0 0).map (fun q => (q.1 : Int)), (iin T 0 0).map (fun q => (q.2 : Int)), true) = ro
  have ho : ro.1.length = sz T := by rw [← hro]; simp [iin_len]
  have er : ∀ i (hi : i < sz T), idx ro.1 (i : Int) = some (((iin T 0 0)[i]'(by rw [iin_len]; exact hi)).1 : Int) := fun i hi => by
    rw [idx_get (by omega)]; simp only [← hro]; simp
  have e3 : ro.2.2 = true := by rw [← hro]
  rw [e3, Bool.not_true, br_false]
  obtain ⟨y, e1, e2⟩ := loop_inv (F := spec_IsK_l1 ro t (m : Int)) 0 (fun r v => ∃ i : Nat, v = (i : Int) ∧ i + r = sz T) (fun y => y = .inr ()) (fun k r v _ hI => by
    obtain ⟨i, rfl, h2⟩ := hI
    by_cases hi : i < sz T
    · obtain ⟨p, a, b, e, w1, w2, w3, w4, w5, w6, _⟩ := hna _ (List.getElem_mem (show i < (iin T 0 0).length by rw [iin_len]; exact hi))
      refine .inr ⟨r - 1, ((i + 1 : Nat) : Int), by omega, ⟨i + 1, rfl, by omega⟩, ?_⟩
      have c1 : ((p.length : Nat) : Int) = (m : Int) := by rw [w6.1]
      simp only [spec_IsK_l1, spec_IsK_l1s, lt_true (show i < ro.1.length by omega), br_true, er i hi, w1, Option.bind_eq_bind, Option.bind_some, decide_eq_true c1, Bool.not_true, br_false]
      rw [decide_eq_false (by omega)]
      simp only [spec_IsK_j3, br_false]
      rw [decide_eq_false (by omega)]
      simp only [spec_IsK_j4, br_false, iadd_one (show i < 9223372036854775807 by omega)]
    · exact .inl ⟨.inr (), by simp only [spec_IsK_l1, spec_IsK_l1s, lt_false (show ¬ i < ro.1.length by omega), br_false], rfl⟩) (sz T) 0 k ⟨0, rfl, by omega⟩ (by omega)
  rw [e1, sbind, e2]
  simp only []
  obtain ⟨y, e1, e2⟩ := loop_inv (F := spec_IsK_l6 ro t) 3000 (fun r v => ∃ i : Nat, v = (i : Int) ∧ i + r = sz T) (fun y => y = .inr ()) (fun k r v hk hI => by
    obtain ⟨i, rfl, h2⟩ := hI
    by_cases hi : i < sz T
    · obtain ⟨p, a, b, e, w1, w2, w3, w4, w5, w6, w7, w8⟩ := hna _ (List.getElem_mem (show i < (iin T 0 0).length by rw [iin_len]; exact hi))
      have pa := kpoints_is (k := k) w2 (by omega) (by omega) (by omega)
      have pb := kpoints_is (k := k) w3 (by omega) (by omega) (by omega)
      have la : (pts a).length < 1000 := by rw [pts_len]; omega
      have lb : (pts b).length < 1000 := by rw [pts_len]; omega
      generalize hq : (iin T 0 0)[i]'(by rw [iin_len]; exact hi) = q at *
      obtain ⟨y4, f1, f2⟩ := loop_inv (F := spec_IsK_l4 (pts a) (p, ((q.2 % m : Nat) : Int), rt a (q.1 + 1), rt b (q.1 + 1 + sz a), blo e, bhi e)) 0 (fun r v => ∃ i : Nat, v = (i : Int) ∧ i + r = (pts a).length) (fun y => y = .inr ()) (fun k r v _ hI => by
        obtain ⟨i, rfl, h2⟩ := hI
        by_cases hi : i < (pts a).length
        · obtain ⟨x1, x2⟩ := w7 _ (List.getElem_mem hi)
          refine .inr ⟨r - 1, ((i + 1 : Nat) : Int), by omega, ⟨i + 1, rfl, by omega⟩, ?_⟩
          simp only [spec_IsK_l4, spec_IsK_l4s, lt_true hi, br_true, idx_get hi, Option.bind_eq_bind, Option.bind_some, (ky_at x1 w5).1, (ky_at w6 w5).1, D_le (ky_at x1 w5).2 (ky_at w6 w5).2, decide_eq_true x2, Bool.not_true, br_false, iadd_one (show i < 9223372036854775807 by omega)]
        · exact .inl ⟨.inr (), by simp only [spec_IsK_l4, spec_IsK_l4s, lt_false hi, br_false], rfl⟩) (pts a).length 0 k ⟨0, rfl, by omega⟩ (by omega)
      obtain ⟨y5, f3, f4⟩ := loop_inv (F := spec_IsK_l5 (pts b) (p, ((q.2 % m : Nat) : Int), rt a (q.1 + 1), rt b (q.1 + 1 + sz a), blo e, bhi e)) 0 (fun r v => ∃ i : Nat, v = (i : Int) ∧ i + r = (pts b).length) (fun y => y = .inr ()) (fun k r v _ hI => by
        obtain ⟨i, rfl, h2⟩ := hI
        by_cases hi : i < (pts b).length
        · obtain ⟨x1, x2⟩ := w8 _ (List.getElem_mem hi)
          refine .inr ⟨r - 1, ((i + 1 : Nat) : Int), by omega, ⟨i + 1, rfl, by omega⟩, ?_⟩
          simp only [spec_IsK_l5, spec_IsK_l5s, lt_true hi, br_true, idx_get hi, Option.bind_eq_bind, Option.bind_some, (ky_at x1 w5).1, (ky_at w6 w5).1, D_ge (ky_at x1 w5).2 (ky_at w6 w5).2, decide_eq_true (Int.le_of_lt x2), Bool.not_true, br_false, iadd_one (show i < 9223372036854775807 by omega)]
        · exact .inl ⟨.inr (), by simp only [spec_IsK_l5, spec_IsK_l5s, lt_false hi, br_false], rfl⟩) (pts b).length 0 k ⟨0, rfl, by omega⟩ (by omega)
      subst f2; subst f4
      refine .inr ⟨r - 1, ((i + 1 : Nat) : Int), by omega, ⟨i + 1, rfl, by omega⟩, ?_⟩
      have er' := er i hi
      simp only [hq] at er'
      simp only [spec_IsK_l6, spec_IsK_l6s, lt_true (show i < ro.1.length by omega), br_true, er', w1, Option.bind_eq_bind, Option.bind_some, pa, f1, pb, f3, iadd_one (show i < 9223372036854775807 by omega)]
    · exact .inl ⟨.inr (), by simp only [spec_IsK_l6, spec_IsK_l6s, lt_false (show ¬ i < ro.1.length by omega), br_false], rfl⟩) (sz T) 0 k ⟨0, rfl, by omega⟩ (by omega)
  rw [e1, sbind, e2]
end Go.Proofs.Ytjgpiealnfbkcaa
