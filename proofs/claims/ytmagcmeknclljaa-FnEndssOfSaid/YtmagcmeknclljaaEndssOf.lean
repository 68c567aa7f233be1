/-
  FnEndssOf: the ends of a good plain geometry, told back by what is built out of it. Ours.
-/
import Derived.Test.YtmagcmeknclljaaGeomBuild
namespace Go.Proofs.Ytmagcmeknclljaa
open Go.Sx
set_option linter.unusedVariables false
set_option linter.unusedSimpArgs false
set_option maxRecDepth 100000

theorem fits3_is (xs : List (List Int)) (hlen : xs.length ≤ maxLen) (k : Nat) (hk : xs.length < k) : ∃ b, laws_zzFits3 k xs = some b ∧ (b = true → ∀ x ∈ xs, x.length ≤ 2147483647) := by
  unfold laws_zzFits3
  by_cases h : 2147483647 < (xs.length : Int)
  · rw [decide_eq_true h, br_true]; exact ⟨false, rfl, fun h => by cases h⟩
  rw [decide_eq_false h, br_false]
  have := loop_inv (F := laws_zzFits3_l1 xs) 0 (fun m p => p = ((xs.length - m : Nat) : Int) ∧ m ≤ xs.length ∧ ∀ i (hi : i < xs.length), i < xs.length - m → xs[i].length ≤ 2147483647) (fun y => y = .inr () → ∀ x ∈ xs, x.length ≤ 2147483647) (by
    intro k m p _ hI
    obtain ⟨rfl, hm, hI⟩ := hI
    have hs : laws_zzFits3_l1 xs (k + 1) ((xs.length - m : Nat) : Int) = laws_zzFits3_l1s xs k (laws_zzFits3_l1 xs k) ((xs.length - m : Nat) : Int) := rfl
    rw [hs]
    unfold laws_zzFits3_l1s
    by_cases e : m = 0
    · subst e
      rw [decide_eq_false (by omega), br_false]
      refine .inl ⟨_, rfl, fun _ x hx => ?_⟩
      obtain ⟨i, hi, rfl⟩ := List.mem_iff_getElem.1 hx
      exact hI i hi (by omega)
    · have hi : xs.length - m < xs.length := by omega
      rw [decide_eq_true (by omega), br_true, idx_get hi, sbind]
      by_cases hb : 2147483647 < (xs[xs.length - m].length : Int)
      · rw [decide_eq_true hb, br_true]
        exact .inl ⟨_, rfl, fun h => by cases h⟩
      · rw [decide_eq_false hb, br_false, iadd_one (by omega)]
        refine .inr ⟨m - 1, _, by omega, ⟨?_, by omega, fun i hi' hlt => ?_⟩, rfl⟩
        · congr 1; omega
        · by_cases ee : i = xs.length - m
          · subst ee; omega
          · exact hI i hi' (by omega)) xs.length 0 k ⟨by simp, Nat.le_refl _, fun i hi h => by omega⟩ (by omega)
  obtain ⟨y, hy, hQ⟩ := this
  rw [hy, sbind]
  rcases y with u | u
  · exact ⟨false, rfl, fun h => by cases h⟩
  · exact ⟨true, rfl, fun _ => hQ rfl⟩
theorem fits2_is (k : Nat) (a0 a1 a2 : Int) (a3 : List Nat) (a4 : List Int) (a5 : List (List Int)) (a6 : List T27) (h5 : a5.length ≤ maxLen) (hk : a5.length < k) :
    ∃ b, laws_zzFits2 k a0 a1 a2 a3 a4 a5 a6 = some b ∧ (b = true → a3.length ≤ 2147483647 ∧ a4.length ≤ 2147483647 ∧ a5.length ≤ 2147483647 ∧ (∀ x ∈ a5, x.length ≤ 2147483647) ∧ a6.length ≤ 2147483647) := by
  unfold laws_zzFits2
  by_cases h3 : 2147483647 < (a3.length : Int)
  · rw [decide_eq_true h3, br_true]; exact ⟨false, rfl, fun h => by cases h⟩
  rw [decide_eq_false h3, br_false]
  by_cases h4 : 2147483647 < (a4.length : Int)
  · rw [decide_eq_true h4, br_true]; exact ⟨false, rfl, fun h => by cases h⟩
  rw [decide_eq_false h4, br_false]
  have h5' : a5.length ≤ 2147483647 ∨ laws_zzFits3 k a5 = some false := by
    by_cases h : 2147483647 < (a5.length : Int)
    · right; unfold laws_zzFits3; rw [decide_eq_true h, br_true]
    · left; omega
  obtain ⟨b, hb, hQ⟩ := fits3_is a5 h5 k hk
  rw [hb, sbind]
  cases b
  · exact ⟨false, rfl, fun h => by cases h⟩
  rw [Bool.not_true, br_false]
  by_cases h6 : 2147483647 < (a6.length : Int)
  · rw [decide_eq_true h6, br_true]; exact ⟨false, rfl, fun h => by cases h⟩
  rw [decide_eq_false h6, br_false]
  refine ⟨true, rfl, fun _ => ⟨by omega, by omega, ?_, hQ rfl, by omega⟩⟩
  rcases h5' with h | h
  · exact h
  · rw [hb] at h; cases h

theorem gInts_self {k : Nat} (xs : List Int) (h : xs.length < k) (h2 : xs.length < 9223372036854775807) : laws_gInts k xs xs = some true := by
  have key := loop_any (F := laws_gInts_l1 xs xs) 0 xs.length (fun _ => false) (.inl ()) (.inr ()) (fun k i _ hi => by
    simp only [laws_gInts_l1, laws_gInts_l1s, lt_true hi, br_true, idx_get hi, Option.bind_eq_bind, Option.bind_some, decide_true, Bool.not_true, br_false, Bool.false_eq_true, if_false]
    rw [iadd_one (by omega)]) (fun k => by simp only [laws_gInts_l1, laws_gInts_l1s, lt_false (Nat.lt_irrefl _), br_false]) xs.length 0 k (by omega) (by omega)
  have e : (List.range' 0 xs.length).any (fun _ => false) = false := any_false fun _ _ => rfl
  rw [e] at key
  unfold laws_gInts
  rw [show (!decide ((xs.length : Int) = (xs.length : Int))) = false from by simp, br_false]
  rw [show (0 : Int) = ((0 : Nat) : Int) from rfl, key]
  rfl
theorem gIntss_self {k : Nat} (xs : List (List Int)) (hx : xs.length ≤ 2147483647) (hxl : ∀ es ∈ xs, es.length ≤ 2147483647) (h : xs.length + 2147483650 < k) : laws_gIntss k xs xs = some true := by
  have key := loop_any (F := laws_gIntss_l1 xs xs) 2147483649 xs.length (fun _ => false) (.inl ()) (.inr ()) (fun k i hk hi => by
    have hl := hxl _ (List.getElem_mem hi)
    simp only [laws_gIntss_l1, laws_gIntss_l1s, lt_true hi, br_true, idx_get hi, Option.bind_eq_bind, Option.bind_some, gInts_self (k := k) xs[i] (by omega) (by omega), Bool.not_true, br_false, Bool.false_eq_true, if_false]
    rw [iadd_one (by omega)]) (fun k => by simp only [laws_gIntss_l1, laws_gIntss_l1s, lt_false (Nat.lt_irrefl _), br_false]) xs.length 0 k (by omega) (by omega)
  have e : (List.range' 0 xs.length).any (fun _ => false) = false := any_false fun _ _ => rfl
  rw [e] at key
  unfold laws_gIntss
  rw [show (!decide ((xs.length : Int) = (xs.length : Int))) = false from by simp, br_false]
  rw [show (0 : Int) = ((0 : Nat) : Int) from rfl, key]
  rfl

def fromG : G53 → Out
  | .c0 a b c d => .inl (a, b, c, d)
  | .c1 a b c d => .inr (.inl (a, b, c, d))
  | .c2 a b c d => .inr (.inr (.inl (a, b, c, d)))
  | .c3 a b c d e => .inr (.inr (.inr (.inl (a, b, c, d, e))))
  | .c4 a b c d e => .inr (.inr (.inr (.inr (.inl (a, b, c, d, e)))))
  | .c5 a b c d e => .inr (.inr (.inr (.inr (.inr (.inl (a, b, c, d, e))))))
  | .c6 a b c d e => .inr (.inr (.inr (.inr (.inr (.inr (.inl (a, b, c, d, e)))))))
  | .c7 a b c => .inr (.inr (.inr (.inr (.inr (.inr (.inr (a, b, c)))))))
theorem fromG_toG (o : Out) : fromG (toG o) = o := by
  rcases o with y | y | y | y | y | y | y | y <;> rfl
theorem toG_inj {o p : Out} (h : toG o = toG p) : o = p := by
  rw [← fromG_toG o, ← fromG_toG p, h]
theorem endss_flat (k : Nat) (a0 a1 a2 : Int) (a3 : List Nat) (a4 : List Int) (a5 : List (List Int)) (a6 : List T27) (h0 : a0 = 1 ∨ a0 = 2 ∨ a0 = 3 ∨ a0 = 4 ∨ a0 = 5 ∨ a0 = 6 ∨ a0 = 8)
    (h5 : a5.length * 24 ≤ 140737488351232) (h5' : ∀ x ∈ a5, x.length * 8 ≤ 140737488351232) (hk : a5.length < k) (hf : a0 = 6 ∨ a5 = [])
    (hg : impl_geometry k a0 a1 a2 a3 a4 a5 a6 = some (flatOut a0 a1 a2 a3 a4 a5)) : impl_EndssOf k a0 a1 a2 a3 a4 a5 a6 = some (a5, true) := by
  unfold impl_EndssOf
  rw [hg, sbind]
  have hi := intssW k a5 h5 h5' hk
  have hn : a0 ≠ 6 → a5 = [] := fun h => hf.resolve_left h
  rcases h0 with rfl | rfl | rfl | rfl | rfl | rfl | rfl
  · obtain rfl := hn (by decide); rfl
  · obtain rfl := hn (by decide); rfl
  · obtain rfl := hn (by decide); rfl
  · obtain rfl := hn (by decide); rfl
  · obtain rfl := hn (by decide); rfl
  · show (impl_intss k a5 >>= fun r8 => some (r8, true)) = _
    rw [hi, sbind]
  · obtain rfl := hn (by decide); rfl
theorem endss_kids (k : Nat) (a1 a2 : Int) (a3 : List Nat) (a4 : List Int) (a5 : List (List Int)) (a6 : List T27) (o : Out) (kids : List G53) (ho : toG o = .c7 a1 kids a2)
    (hg : impl_geometry k 7 a1 a2 a3 a4 a5 a6 = some o) : impl_EndssOf k 7 a1 a2 a3 a4 a5 a6 = some ([], false) := by
  unfold impl_EndssOf
  rw [hg, sbind]
  rcases o with y | y | y | y | y | y | y | y <;> first | rfl | cases ho
theorem endss_point (k : Nat) : impl_EndssOf_v2 k 1 1 0 [4607182418800017408, 4611686018427387904] = some true := by
  unfold impl_EndssOf_v2 impl_geometry_v2
  rw [floatsW k _ (by decide), sbind, decide_eq_true rfl, br_true]
  simp only [gogeom_NewPointFlat, gogeom_Point_SetSRID, lstride_is k 1 (by decide), sbind]
  rfl
theorem fact_FnEndssOf (a0 a1 a2 : Int) (a3 : List Nat) (a4 : List Int) (a5 : List (List Int)) (a6 : List T27)
    (g : (IntKind.min .i64 ≤ a0 ∧ a0 ≤ IntKind.max .i64) ∧ (IntKind.min .i64 ≤ a1 ∧ a1 ≤ IntKind.max .i64) ∧ (IntKind.min .i64 ≤ a2 ∧ a2 ≤ IntKind.max .i64) ∧ (a3.length * 8 ≤ 140737488351232 ∧ ∀ y ∈ a3, y < 18446744073709551616) ∧ (a4.length * 8 ≤ 140737488351232 ∧ ∀ y ∈ a4, IntKind.min .i64 ≤ y ∧ y ≤ IntKind.max .i64) ∧ (a5.length * 24 ≤ 140737488351232 ∧ ∀ x ∈ a5, x.length * 8 ≤ 140737488351232 ∧ ∀ y ∈ x, IntKind.min .i64 ≤ y ∧ y ≤ IntKind.max .i64) ∧ (a6.length * 120 ≤ 140737488351232 ∧ ∀ y ∈ a6, T27.OkW y)) :
    ∃ k, laws_FnEndssOf k a0 a1 a2 a3 a4 a5 a6 = some true := by
  obtain ⟨g0, g1, g2, g3, g4, g5, g6, gk⟩ := g
  have hx := T27.OkW.mk g0 g1 g2 g3 g4 g5 g6 gk
  have hm : maxLen = 9223372036854775807 := rfl
  obtain ⟨K, hK⟩ := gGood_is (okw_ok hx)
  obtain ⟨L, hL⟩ := geom_is hx
  refine ⟨K + L + a5.length + 2147483660, ?_⟩
  generalize hkk : K + L + a5.length + 2147483660 = k
  obtain ⟨b, hb, hbt⟩ := fits2_is k a0 a1 a2 a3 a4 a5 a6 (by omega) (by omega)
  unfold laws_FnEndssOf
  rw [hb, sbind]
  cases b
  · rfl
  obtain ⟨h3, h4, h5, h5', h6⟩ := hbt rfl
  rw [Bool.not_true, br_false]
  obtain ⟨p, hp, hpt⟩ := hK k (by omega)
  rw [hp, sbind]
  cases p
  · rfl
  obtain ⟨j, hj⟩ := hpt rfl
  rw [Bool.not_true, br_false]
  obtain ⟨o, ho, ht⟩ := hL k (by omega) ⟨j, hj⟩
  replace ho : impl_geometry k a0 a1 a2 a3 a4 a5 a6 = some o := ho
  rw [GO_mk] at ht
  by_cases h7 : a0 = 7
  · subst h7
    rw [if_pos rfl] at ht
    rw [endss_kids k a1 a2 a3 a4 a5 a6 o _ ht ho, sbind, endss_point, sbind, br_true, decide_eq_true rfl]
    rfl
  · rw [if_neg h7] at ht
    obtain rfl := toG_inj ht
    have hk0 : a0 = 1 ∨ a0 = 2 ∨ a0 = 3 ∨ a0 = 4 ∨ a0 = 5 ∨ a0 = 6 ∨ a0 = 8 := by
      by_cases hc : a0 = 1 ∨ a0 = 2 ∨ a0 = 3 ∨ a0 = 4 ∨ a0 = 5 ∨ a0 = 6 ∨ a0 = 8
      · exact hc
      · rw [good_kind a0 a1 a2 a3 a4 a5 a6 j (by omega)] at hj; cases hj
    rw [endss_flat k a0 a1 a2 a3 a4 a5 a6 hk0 g5.1 (fun x hx => (g5.2 x hx).1) (by omega) (good_form hj h7).2.1 ho, sbind, endss_point, sbind, br_true, decide_eq_false h7]
    show laws_FnEndssOf_j1 k (a5, true) a5 true = _
    unfold laws_FnEndssOf_j1
    rw [br_true]
    show ((laws_gIntss k a5 a5) >>= fun r40 => laws_FnEndssOf_j2 k r40) = some true
    rw [gIntss_self a5 h5 h5' (by omega), sbind]
    rfl
end Go.Proofs.Ytmagcmeknclljaa
