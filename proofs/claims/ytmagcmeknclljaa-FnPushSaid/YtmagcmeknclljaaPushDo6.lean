/-
  What the program's push does: multi polygons. Ours.
-/
import Derived.Test.YtmagcmeknclljaaPushDo
namespace Go.Proofs.Ytmagcmeknclljaa
open Go.Sx
set_option linter.unusedVariables false
set_option linter.unusedSimpArgs false
set_option maxRecDepth 100000

theorem intss3 (a : List (List Int)) : ∀ k v, impl_intss_v3_l1 a k v = impl_intss_l1 a k v := by
  intro k
  induction k with
  | zero => intro v; rfl
  | succ k ih =>
    intro v
    have h : impl_intss_v3_l1 a k = impl_intss_l1 a k := funext ih
    show impl_intss_v3_l1s a k (impl_intss_v3_l1 a k) v.1 v.2 = impl_intss_l1s a k (impl_intss_l1 a k) v.1 v.2
    rw [h]; rfl
theorem intss3_is {k : Nat} {xs : List (List Int)} (h : impl_intss k xs = some xs) : impl_intss_v3 k xs = some (xs, xs) := by
  unfold impl_intss at h
  unfold impl_intss_v3
  rw [intss3]
  cases hl : impl_intss_l1 xs k ([], 0) with
  | none => rw [hl] at h; cases h
  | some v =>
    rw [hl] at h
    have : v = xs := by rw [sbind] at h; exact Option.some.inj h
    subst this
    rw [sbind]
theorem mv_loop {es : List Int} {fl : List Nat} (hl : es.length ≤ 2147483647) : ∀ (n k i : Nat), es.length - i = n → n < k → i ≤ es.length →
    gogeom_MultiPolygon_Push_l1 es fl k (mv fl.length (es.take i) ++ List.replicate (es.length - i) 0, (i : Int)) = some (mv fl.length es) := by
  intro n
  induction n with
  | zero =>
    intro k i hn hk hi
    obtain ⟨k, rfl⟩ : ∃ j, k = j + 1 := ⟨k - 1, by omega⟩
    have : i = es.length := by omega
    subst this
    simp only [gogeom_MultiPolygon_Push_l1, gogeom_MultiPolygon_Push_l1s, lt_false (Nat.lt_irrefl _), br_false, List.take_length, Nat.sub_self, List.replicate_zero, List.append_nil]
  | succ n ih =>
    intro k i hn hk hi
    obtain ⟨k, rfl⟩ : ∃ j, k = j + 1 := ⟨k - 1, by omega⟩
    have hlt : i < es.length := by omega
    have hml : (mv fl.length (es.take i)).length = i := by unfold mv; simp; omega
    have hidx : idx (mv fl.length (es.take i) ++ List.replicate (es.length - i) 0) (i : Int) = some 0 := by
      rw [idx_get (by rw [List.length_append, hml, List.length_replicate]; omega)]
      congr 1
      rw [List.getElem_append_right (by omega)]
      simp
    have hset : (mv fl.length (es.take i) ++ List.replicate (es.length - i) 0).set i (iadd .i64 es[i] (fl.length : Int)) = mv fl.length (es.take (i + 1)) ++ List.replicate (es.length - (i + 1)) 0 := by
      rw [List.set_append_right _ _ (by omega), hml, Nat.sub_self]
      obtain ⟨m, hm⟩ : ∃ m, es.length - i = m + 1 := ⟨es.length - i - 1, by omega⟩
      rw [hm, List.replicate_succ, List.set_cons_zero, show es.length - (i + 1) = m by omega]
      unfold mv
      rw [List.take_add_one, List.getElem?_eq_getElem hlt, List.map_append, List.append_assoc]
      have : iadd .i64 es[i] (fl.length : Int) = iadd .i64 (fl.length : Int) es[i] := by unfold iadd; rw [Int.add_comm]
      rw [this]; rfl
    simp only [gogeom_MultiPolygon_Push_l1, gogeom_MultiPolygon_Push_l1s, lt_true hlt, br_true, idx_get hlt, sbind, hidx, Int.toNat_natCast, hset, iadd_one (show i < 9223372036854775807 by omega)]
    exact ih k (i + 1) (by omega) (by omega) (by omega)
theorem mv_zero {es : List Int} (h : ∀ x ∈ es, IntKind.min .i64 ≤ x ∧ x ≤ IntKind.max .i64) : mv 0 es = es := by
  unfold mv
  apply List.ext_getElem
  · simp
  · intro j h1 h2
    rw [List.getElem_map]
    obtain ⟨a, b⟩ := h _ (List.getElem_mem h2)
    rw [kmin] at a
    rw [kmax] at b
    rw [iadd_i64 (by omega) (by omega)]; omega
theorem push_polys (j : Nat) (lay srid lay' srid' : Int) (fl fl' : List Nat) (es' : List Int) (xs : List (List Int)) (kids kids' : List T27) (h1 : 1 ≤ lay) (h1' : 1 ≤ lay')
    (h3 : fl.length ≤ 2147483647) (h5 : xs.length ≤ 2147483647) (h5' : ∀ x ∈ xs, x.length ≤ 2147483647) (h3' : fl'.length ≤ 2147483647) (h4' : es'.length ≤ 2147483647) (hr : ∀ x ∈ es', IntKind.min .i64 ≤ x ∧ x ≤ IntKind.max .i64) (hj : xs.length + es'.length + 2 < j) :
    impl_Push (j + 1) 6 lay srid fl [] xs kids 3 lay' srid' fl' es' [] kids' = some (if lay' = lay then (6, lay, srid, fl ++ fl', [], xs ++ [mv fl.length es'], [], true) else (0, 0, 0, [], [], [], [], false)) := by
  have hg := geom_flat j 6 lay srid fl [] xs kids (by omega) h1 (by omega) (by simp) (by omega) (fun x hx => by have := h5' x hx; omega) (by omega) (by simp)
  have hg' := geom_flat j 3 lay' srid' fl' es' [] kids' (by simp) h1' (by omega) (by omega) (by simp) (by simp) (by simp; omega) (by simp)
  have hml : (mv fl.length es').length = es'.length := by unfold mv; simp
  have hpf : apd 8 ([] : List Nat) (fl ++ fl') = some (fl ++ fl') := by rw [apd_some (by simp; omega) (by simp; omega), List.nil_append]
  have ha : apd 8 fl fl' = some (fl ++ fl') := apd_some (by omega) (by omega)
  have hb : apd 24 xs [mv fl.length es'] = some (xs ++ [mv fl.length es']) := apd_some (by simp; omega) (by simp; omega)
  have hi := intss3_is (k := j + 1) (intssW (j + 1) (xs ++ [mv fl.length es']) (by simp; omega) (fun x hx => by
    rcases List.mem_append.1 hx with h | h
    · have := h5' x h; omega
    · rw [List.mem_singleton.1 h, hml]; omega) (by simp; omega))
  unfold impl_Push
  rw [hg, sbind, hg']
  show (gogeom_MultiPolygon_Push (j + 1) lay (stri lay) fl srid xs lay' (stri lay') fl' srid' es' >>= _) = _
  unfold gogeom_MultiPolygon_Push
  by_cases hl : lay' = lay
  · rw [decide_eq_true hl, Bool.not_true, br_false, if_pos hl]
    have key : ∀ F : List Int, F = mv fl.length es' → (gogeom_MultiPolygon_Push_j1 (j + 1) fl fl' xs lay (stri lay) srid lay' (stri lay') srid' es' F >>= fun r50 => match r50 with
        | .inl y87 => impl_Push_j4a (j + 1) y87.2.2.2.2.2.1 y87.1 y87.2.1 y87.2.2.1 y87.2.2.2.1 y87.2.2.2.2.1
        | .inr y87 => impl_Push_j4b (j + 1) y87.1 y87.2.1 y87.2.2.1 y87.2.2.2.1 y87.2.2.2.2.1) = some (6, lay, srid, fl ++ fl', [], xs ++ [mv fl.length es'], [], true) := by
      rintro F rfl
      unfold gogeom_MultiPolygon_Push_j1
      rw [ha, sbind, hb, sbind]
      show impl_Push_j4b _ _ _ _ _ _ = _
      simp only [impl_Push_j4b, impl_plain_v4, gogeom_geom0_SRID_v4, gogeom_geom0_Layout_v7, gogeom_geom0_FlatCoords_v4, impl_floats_v2, gogeom_geom0_Ends, intsV, gogeom_geom3_Endss, hpf, hi, sbind]
    by_cases h0 : es' = []
    · subst h0
      rw [show decide ((0 : Int) < (([] : List Int).length : Int)) = false from rfl, br_false]
      exact key _ rfl
    · have hpos : 0 < es'.length := List.length_pos_iff.2 h0
      rw [decide_eq_true (show (0 : Int) < (es'.length : Int) by omega), br_true, mk_some (by omega) (by omega) (by omega) (by omega), sbind, Int.toNat_natCast]
      by_cases hf : fl = []
      · subst hf
        rw [show decide (((([] : List Nat).length : Nat) : Int) = 0) = true from rfl, br_true]
        refine key _ ?_
        show cpy (List.replicate es'.length 0) es' = mv 0 es'
        rw [mv_zero hr]; unfold cpy; simp
      · rw [decide_eq_false (show ¬ ((fl.length : Nat) : Int) = 0 by intro h; exact hf (List.length_eq_zero_iff.1 (by omega))), br_false]
        have hm := mv_loop (es := es') (fl := fl) h4' es'.length (j + 1) 0 (by omega) (by omega) (by omega)
        have hm' : gogeom_MultiPolygon_Push_l1 es' fl (j + 1) (List.replicate es'.length 0, 0) = some (mv fl.length es') := hm
        rw [hm', sbind]
        exact key _ rfl
  · rw [decide_eq_false hl, Bool.not_false, br_true, if_neg hl]; rfl
end Go.Proofs.Ytmagcmeknclljaa
