/-
  The polygon of a box has the ring of its corners, or none: the plain statement. Ours.
-/
import Derived.Test.YtkeaodoibflhnaaBoxBase
namespace Go.Proofs.Ytkeaodoibflhnaa
open Go.Sx
set_option linter.unusedVariables false
set_option linter.unusedSimpArgs false

/-- lists of numbers, none of them NaN, held against themselves -/
theorem eq_self {k : Nat} (xs : List Nat) (h : xs.length < k) (h2 : xs.length < 9223372036854775807) (hn : ∀ x ∈ xs, feq x x = true) : laws_gEqual_l1 xs xs k 0 = some (.inr ()) := by
  have key := loop_any (F := laws_gEqual_l1 xs xs) 0 xs.length (fun _ => false) (.inl ()) (.inr ()) (fun k i _ hi => by
    simp only [laws_gEqual_l1, laws_gEqual_l1s, lt_true hi, br_true, idx_get hi, Option.bind_eq_bind, Option.bind_some, fne_feq, hn _ (List.getElem_mem hi), Bool.not_true, br_false, Bool.false_eq_true, if_false]
    rw [iadd_one (by omega)]) (fun k => by simp only [laws_gEqual_l1, laws_gEqual_l1s, lt_false (Nat.lt_irrefl _), br_false]) xs.length 0 k (by omega) (by omega)
  have e : (List.range' 0 xs.length).any (fun _ => false) = false := any_false fun _ _ => rfl
  rw [e] at key
  exact key
theorem gInts_self {k : Nat} (xs : List Int) (h : xs.length < k) (h2 : xs.length < 9223372036854775807) : laws_gInts k xs xs = some true := by
  have key := loop_any (F := laws_gInts_l1 xs xs) 0 xs.length (fun _ => false) (.inl ()) (.inr ()) (fun k i _ hi => by
    simp only [laws_gInts_l1, laws_gInts_l1s, lt_true hi, br_true, idx_get hi, Option.bind_eq_bind, Option.bind_some, decide_true, Bool.not_true, br_false, Bool.false_eq_true, if_false]
    rw [iadd_one (by omega)]) (fun k => by simp only [laws_gInts_l1, laws_gInts_l1s, lt_false (Nat.lt_irrefl _), br_false]) xs.length 0 k (by omega) (by omega)
  have e : (List.range' 0 xs.length).any (fun _ => false) = false := any_false fun _ _ => rfl
  rw [e] at key
  unfold laws_gInts
  rw [show (!decide ((xs.length : Int) = (xs.length : Int))) = false from by simp, br_false]
  rw [show (0 : Int) = ((0 : Nat) : Int) from rfl, key]
  rfl
theorem gEqual_self {k : Nat} (a b c : Int) (f : List Nat) (e : List Int) (hk : 0 < k) (h : f.length < k) (h2 : f.length < 9223372036854775807) (hn : ∀ x ∈ f, feq x x = true) (he : e.length < k) (he2 : e.length < 9223372036854775807) :
    laws_gEqual k a b c f e a b c f e = some true := by
  obtain ⟨k, rfl⟩ : ∃ j, k = j + 1 := ⟨k - 1, by omega⟩
  simp only [laws_gEqual, laws_gEqual_j1, laws_gEqual_j2, laws_gEqual_j3, laws_gEqual_j4, laws_gEqual_j5, laws_gEqual_j6, decide_true, Bool.not_true, br_false, gInts_self e he he2, eq_self f h h2 hn, Option.bind_eq_bind, Option.bind_some, laws_gIntss, laws_gIntss_l1, laws_gIntss_l1s, laws_gEqual_l2, laws_gEqual_l2s]

def lessAt (a b : List Nat) (i : Nat) : Bool := flt (b.getD i 0) (a.getD i 0)
theorem empty_is (n : Nat) (a b : List Nat) (ha : a.length = n) (hb : b.length = n) (hn : n ≤ 20) :
    ∃ y, gogeom_Bounds_IsEmpty_l1 (n : Int) b a 200 0 = some y ∧ spec_BoxEmpty_l1 a b 200 0 = some y := by
  have e : ∀ (l : List Nat) (i : Nat) (h : i < l.length), l.getD i 0 = l[i] := fun l i h => by simp [List.getD, List.getElem?_eq_getElem h]
  have h1 := loop_any (F := gogeom_Bounds_IsEmpty_l1 (n : Int) b a) 0 n (lessAt a b) (.inl ()) (.inr ()) (fun k i _ hi => by
    have i1 : i < a.length := by omega
    have i2 : i < b.length := by omega
    simp only [gogeom_Bounds_IsEmpty_l1, gogeom_Bounds_IsEmpty_l1s, lt_true hi, br_true, idx_get i1, idx_get i2, Option.bind_eq_bind, Option.bind_some, lessAt, e _ _ i1, e _ _ i2]
    cases flt b[i] a[i] <;> simp [br, iadd_one (show i < 9223372036854775807 from by omega)])
    (fun k => by simp only [gogeom_Bounds_IsEmpty_l1, gogeom_Bounds_IsEmpty_l1s, lt_false (Nat.lt_irrefl _), br_false]) n 0 200 (by omega) (by omega)
  have h2 := loop_any (F := spec_BoxEmpty_l1 a b) 0 n (lessAt a b) (.inl ()) (.inr ()) (fun k i _ hi => by
    have i1 : i < a.length := by omega
    have i2 : i < b.length := by omega
    simp only [spec_BoxEmpty_l1, spec_BoxEmpty_l1s, lt_true i1, br_true, idx_get i1, idx_get i2, Option.bind_eq_bind, Option.bind_some, lessAt, e _ _ i1, e _ _ i2]
    cases flt b[i] a[i] <;> simp [br, iadd_one (show i < 9223372036854775807 from by omega)])
    (fun k => by simp only [spec_BoxEmpty_l1, spec_BoxEmpty_l1s, ha, lt_false (Nat.lt_irrefl _), br_false]) n 0 200 (by omega) (by omega)
  exact ⟨_, h1, h2⟩

def isl : Unit ⊕ Unit → Bool
  | .inl _ => true
  | .inr _ => false
theorem apd0 {α : Type} (l : List α) (h : l.length ≤ 100000) : apd 8 [] l = some l := by
  rw [apd_some (by simp; omega) (by simp; omega)]; rfl

theorem boxPolygon_is (a : Int) (m M : List Nat) (h1 : 1 ≤ a) (hg : GoodBox (a, m, M)) : laws_FnBoxPolygon_j1 200 a m M false = some true := by
  obtain ⟨b0, b9, bs, bl, bn⟩ := hg
  simp only at b0 b9 bs bl bn
  obtain ⟨s, hs, hs1, hs2, hs3⟩ := stride_is 200 a
  have hls : gogeom_Layout_Stride 200 a = some s := hs1 h1 b9
  have hlen := bs 200 s hs
  have hs0 := hs2 h1
  have hs9 := hs3 b9
  have hs2' : 2 ≤ s := by
    unfold gogeom_Layout_Stride at hls
    by_cases e1 : a = 1
    · subst e1; have := Option.some.inj hls; omega
    by_cases e2 : a = 2
    · subst e2; have := Option.some.inj hls; omega
    by_cases e3 : a = 3
    · subst e3; have := Option.some.inj hls; omega
    by_cases e4 : a = 4
    · subst e4; have := Option.some.inj hls; omega
    rw [decide_eq_false (by omega), br_false, decide_eq_false e1, br_false, decide_eq_false e2, br_false, decide_eq_false e3, br_false, decide_eq_false e4, br_false] at hls
    have := Option.some.inj hls; omega
  obtain ⟨n, hn⟩ : ∃ n : Nat, s = (n : Int) := ⟨s.toNat, by omega⟩
  subst hn
  obtain ⟨y, y1, y2⟩ := empty_is n m M (by omega) (by omega) (by omega)
  have ha0 : ¬ a = 0 := by omega
  have fm := apd0 m (by omega)
  have fM := apd0 M (by omega)
  have hbox : impl_box 200 a m M = some (a, m, M) := by
    simp only [impl_box, impl_floats, fm, fM, gogeom_DoorBounds, Option.bind_eq_bind, Option.bind_some]
  have h0 : 0 < m.length := by omega
  have h1' : 1 < m.length := by omega
  have H0 : 0 < M.length := by omega
  have H1 : 1 < M.length := by omega
  have i0 : idx m 0 = some m[0] := idx_get h0
  have i1 : idx m 1 = some m[1] := idx_get h1'
  have I0 : idx M 0 = some M[0] := idx_get H0
  have I1 : idx M 1 = some M[1] := idx_get H1
  have num : ∀ i (h : i < m.length), feq m[i] m[i] = true ∧ feq (M[i]'(by omega)) (M[i]'(by omega)) = true := fun i h => by
    have := bn i h
    unfold nanAt at this
    have h' : i < M.length := by omega
    rw [show m.getD i 0 = m[i] from by simp [List.getD, List.getElem?_eq_getElem h], show M.getD i 0 = M[i] from by simp [List.getD, List.getElem?_eq_getElem h']] at this
    simpa using this
  unfold laws_FnBoxPolygon_j1
  rw [br_false]
  have hE : spec_BoxEmpty 200 a m M = some (isl y) := by
    unfold spec_BoxEmpty
    rw [y2, sbind]
    cases y with
    | inl u => rfl
    | inr u => simp only [decide_eq_false ha0, isl]
  have hI : gogeom_Bounds_IsEmpty 200 a m M = some (a, m, M, isl y) := by
    unfold gogeom_Bounds_IsEmpty
    rw [decide_eq_false ha0, br_false, hls, sbind, y1, sbind]
    cases y <;> rfl
  rw [hE, sbind]
  have hst1 : gogeom_Layout_Stride 200 1 = some 2 := rfl
  have hintss : impl_intss 200 = some () := rfl
  cases y with
  | inl u =>
    simp only [isl, Bool.not_true, br_false] at hI ⊢
    unfold laws_FnBoxPolygon_j2
    have hP : impl_BoxPolygon 200 a m M = some (3, 1, 0, [], [], true) := by
      simp only [impl_BoxPolygon, hbox, gogeom_Bounds_Polygon, hI, br_true, gogeom_NewPolygonFlat, hst1, Option.bind_eq_bind, Option.bind_some, impl_plain, gogeom_geom0_SRID, gogeom_geom0_Layout, gogeom_geom0_FlatCoords, gogeom_geom2_Ends, gogeom_geom0_Endss, impl_floats, impl_ints, apd0 ([] : List Nat) (by simp), apd0 ([] : List Int) (by simp), hintss]
    rw [hP, sbind, br_true, gEqual_self 3 1 0 [] [] (by omega) (by simp) (by simp) (by simp) (by simp) (by simp)]
    rfl
  | inr u =>
    simp only [isl] at hI
    simp only [isl, Bool.not_false, br_true, i0, i1, I0, I1, Option.bind_eq_bind, Option.bind_some]
    unfold laws_FnBoxPolygon_j2
    have hP : impl_BoxPolygon 200 a m M = some ((3 : Int), (1 : Int), (0 : Int), [m[0], m[1], m[0], M[1], M[0], M[1], M[0], m[1], m[0], m[1]], [(10 : Int)], true) := by
      simp only [impl_BoxPolygon, hbox, gogeom_Bounds_Polygon, hI, br_false, i0, i1, I0, I1, gogeom_NewPolygonFlat_v2, hst1, Option.bind_eq_bind, Option.bind_some, impl_plain, gogeom_geom0_SRID, gogeom_geom0_Layout, gogeom_geom0_FlatCoords, gogeom_geom2_Ends, gogeom_geom0_Endss, impl_floats, impl_ints]
      rw [apd0 _ (by simp), Option.bind_some, apd0 _ (by simp), Option.bind_some, hintss]
      rfl
    rw [hP, sbind, br_true, gEqual_self 3 1 0 _ [10] (by omega) (by simp) (by simp) (fun x hx => by
      have q0 := num 0 h0
      have q1 := num 1 h1'
      simp only [List.mem_cons, List.not_mem_nil, or_false] at hx
      rcases hx with rfl | rfl | rfl | rfl | rfl | rfl | rfl | rfl | rfl | rfl <;> first | exact q0.1 | exact q0.2 | exact q1.1 | exact q1.2) (by simp) (by simp)]
    rfl

theorem fact_FnBoxPolygon {p : Prop} (a : Int) (m M : List Nat) (g0 : p) : laws_FnBoxPolygon 200 a m M = some true := by
  unfold laws_FnBoxPolygon
  obtain ⟨r, hr, hr'⟩ := fits1_is 200 a m M
  rw [hr, sbind]
  cases r with
  | false => rfl
  | true =>
    rw [Bool.not_true, br_false]
    obtain ⟨q, hq, hq'⟩ := bBox_is 200 [(a, m, M)] (by simp) (by simp)
    rw [hq, sbind]
    cases q with
    | false => rfl
    | true =>
      rw [Bool.not_true, br_false]
      by_cases h : a < 1
      · rw [decide_eq_true h]; rfl
      · rw [decide_eq_false h]
        exact boxPolygon_is a m M (by omega) (hq' rfl _ (by simp))
end Go.Proofs.Ytkeaodoibflhnaa
