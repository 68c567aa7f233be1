/-
  A box that is set by its numbers has them, and an odd number of them is refused: the plain statement. Ours.
-/
import Derived.Test.YtlipjaacncpaoaaBoxBaseB
import Derived.Test.YtlipjaacncpaoaaSxW
namespace Go.Proofs.Ytlipjaacncpaoaa
open Go.Sx
set_option linter.unusedVariables false
set_option linter.unusedSimpArgs false

theorem iand_one {n : Nat} (h : n < 9223372036854775807) : iand .i64 (n : Int) 1 = ((n % 2 : Nat) : Int) := by
  unfold iand
  show IntKind.wrap .i64 ((BitVec.ofInt 64 (n : Int) &&& BitVec.ofInt 64 ((1 : Nat) : Int)).toNat : Int) = _
  rw [BitVec.toNat_and, bv_nat64 n (by omega), bv_nat64 1 (by decide), Nat.and_one_is_mod, wrap_i64 (by omega) (by omega)]
theorem each_is (k : Nat) (a b c : Int) (xs : List Nat) (h : xs.length < 100) (hk : 200 < k) : ∃ r, laws_gEach k a b c xs = some r ∧ (r = true → ∀ i (h : i < xs.length), feq xs[i] xs[i] = true) := by
  have key := loop_any (F := laws_gEach_l1 xs) 0 xs.length (fun i => !feq (xs.getD i 0) (xs.getD i 0)) (.inl ()) (.inr ()) (fun k i _ hi => by
    have e1 : xs.getD i 0 = xs[i] := by simp [List.getD, List.getElem?_eq_getElem hi]
    simp only [laws_gEach_l1, laws_gEach_l1s, lt_true hi, br_true, idx_get hi, Option.bind_eq_bind, Option.bind_some, laws_gNumber, e1, iadd_one (show i < 9223372036854775807 from by omega)]
    cases feq xs[i] xs[i] <;> simp [br]) (fun k => by simp only [laws_gEach_l1, laws_gEach_l1s, lt_false (Nat.lt_irrefl _), br_false]) xs.length 0 k (by omega) (by omega)
  unfold laws_gEach
  rw [show (0 : Int) = ((0 : Nat) : Int) from rfl, key]
  cases ha : (List.range' 0 xs.length).any (fun i => !feq (xs.getD i 0) (xs.getD i 0)) with
  | true => exact ⟨false, rfl, by simp⟩
  | false =>
    refine ⟨true, rfl, fun _ i hi => ?_⟩
    have := not_any ha hi
    have e1 : xs.getD i 0 = xs[i] := by simp [List.getD, List.getElem?_eq_getElem hi]
    rw [e1] at this
    simpa using this
theorem sameBox_self (k : Nat) (hk : 200 < k) (L : Int) (xs ys : List Nat) (h : xs.length < 100) (hl : ys.length = xs.length) (hx : ∀ i (h : i < xs.length), feq xs[i] xs[i] = true) (hy : ∀ i (h : i < ys.length), feq ys[i] ys[i] = true) :
    spec_SameBox k L xs ys L xs ys = some true := by
  have ne (x : Nat) (h : feq x x = true) : fne x x = false := by
    unfold feq at h; unfold fne
    simpa using h
  have key := loop_any (F := spec_SameBox_l1 xs xs ys ys) 0 xs.length (fun _ => false) (.inl ()) (.inr ()) (fun k i _ hi => by
    have hi2 : i < ys.length := by omega
    simp only [spec_SameBox_l1, spec_SameBox_l1s, lt_true hi, br_true, idx_get hi, idx_get hi2, Option.bind_eq_bind, Option.bind_some, ne _ (hx i hi), ne _ (hy i hi2), br_false, spec_SameBox_j5, Bool.false_eq_true, if_false]
    rw [iadd_one (by omega)]) (fun k => by simp only [spec_SameBox_l1, spec_SameBox_l1s, lt_false (Nat.lt_irrefl _), br_false]) xs.length 0 k (by omega) (by omega)
  rw [any_false (fun _ _ => rfl)] at key
  unfold spec_SameBox
  rw [decide_eq_true rfl, Bool.not_true, br_false, decide_eq_true rfl, Bool.not_true]
  unfold spec_SameBox_j1
  rw [br_false, decide_eq_true rfl, Bool.not_true]
  unfold spec_SameBox_j2
  rw [br_false, decide_eq_true (show (xs.length : Int) = (ys.length : Int) by omega), Bool.not_true]
  unfold spec_SameBox_j3
  rw [br_false, show (0 : Int) = ((0 : Nat) : Int) from rfl, key]
  rfl
theorem extend_is (k : Nat) (hk : 1 ≤ k) (L : Int) (mn mx : List Nat) (s : Int) (hs : gogeom_Layout_Stride k L = some s) : gogeom_Bounds_extendStride k L mn mx s = some (L, mn, mx) := by
  obtain ⟨k, rfl⟩ : ∃ j, k = j + 1 := ⟨k - 1, by omega⟩
  unfold gogeom_Bounds_extendStride
  rw [hs, sbind]
  have : gogeom_Bounds_extendStride_l1 s (k + 1) (mn, mx, s) = some (mn, mx) := by
    show br (decide (s < s)) _ (some (mn, mx)) = _
    rw [decide_eq_false (by omega), br_false]
  rw [this]; rfl
theorem setLoop_is (k : Nat) (s : Nat) (a mn mx : List Nat) (hs : s < 50) (ha : a.length = 2 * s) (hn : mn.length = s) (hx : mx.length = s) (hk : 200 < k) :
    gogeom_Bounds_Set_l1 (s : Int) a k (mn, mx, 0) = some (a.take s, a.drop s) := by
  obtain ⟨y, hy, hQ⟩ := loop_inv (F := gogeom_Bounds_Set_l1 (s : Int) a) 0 (fun m x => ∃ (i : Nat) (x1 x2 : List Nat), x = (x1, x2, (i : Int)) ∧ i + m = s ∧ x1.length = s ∧ x2.length = s ∧ ∀ j, j < i → x1[j]? = a[j]? ∧ x2[j]? = a[j + s]?)
    (fun y => y = (a.take s, a.drop s)) (fun k m x hk => by
    rintro ⟨i, x1, x2, rfl, him, h1, h2, hj⟩
    by_cases hi : i < s
    · refine .inr ⟨m - 1, (x1.set i a[i], x2.set i a[i + s], ((i + 1 : Nat) : Int)), by omega, ⟨i + 1, _, _, rfl, by omega, by simpa using h1, by simpa using h2, fun j hji => ?_⟩, ?_⟩
      · by_cases e : j = i
        · subst e
          rw [List.getElem?_set_self (by omega), List.getElem?_set_self (by omega), List.getElem?_eq_getElem (by omega), List.getElem?_eq_getElem (by omega)]
          exact ⟨rfl, rfl⟩
        · rw [List.getElem?_set_ne (by omega), List.getElem?_set_ne (by omega)]
          exact hj j (by omega)
      · have e1 : iadd .i64 (i : Int) (s : Int) = ((i + s : Nat) : Int) := by rw [iadd_i64 (by omega) (by omega)]; omega
        simp only [gogeom_Bounds_Set_l1, gogeom_Bounds_Set_l1s, lt_true hi, br_true, e1, idx_get (show i < a.length by omega), idx_get (show i + s < a.length by omega), idx_get (show i < x1.length by omega), idx_get (show i < x2.length by omega), Option.bind_eq_bind, Option.bind_some]
        rw [iadd_one (by omega)]
        rfl
    · have : i = s := by omega
      subst this
      refine .inl ⟨(x1, x2), by simp only [gogeom_Bounds_Set_l1, gogeom_Bounds_Set_l1s, lt_false hi, br_false], ?_⟩
      have e1 : x1 = a.take i := by
        apply List.ext_getElem?
        intro j
        by_cases h : j < i
        · rw [(hj j h).1, List.getElem?_take, if_pos h]
        · rw [List.getElem?_eq_none (by omega), List.getElem?_eq_none (by simp; omega)]
      have e2 : x2 = a.drop i := by
        apply List.ext_getElem?
        intro j
        by_cases h : j < i
        · rw [(hj j h).2, List.getElem?_drop, Nat.add_comm]
        · rw [List.getElem?_eq_none (by omega), List.getElem?_eq_none (by simp; omega)]
      rw [e1, e2]) s (mn, mx, 0) k ⟨0, mn, mx, rfl, by omega, hn, hx, fun j h => by omega⟩ (by omega)
  rw [hy, hQ]
theorem plainBox_is (k : Nat) (L : Int) (xs ys : List Nat) (h : xs.length < 100) (h' : ys.length < 100) : impl_plainBox k L xs ys = some (L, xs, ys, xs, ys) := by
  have e (zs : List Nat) (h : zs.length < 100) : impl_floats_v2 k zs = some (zs, zs) := by
    unfold impl_floats_v2
    rw [apd_some (by simp; omega) (by simp; omega)]; rfl
  unfold impl_plainBox gogeom_DoorBoundsParts
  rw [sbind]
  dsimp only
  rw [e xs h, sbind, e ys h', sbind]
theorem box_is (k : Nat) (L : Int) (mn mx : List Nat) (h : mn.length < 100) (h' : mx.length < 100) : impl_box k L mn mx = some (L, mn, mx) := by
  unfold impl_box gogeom_DoorBounds
  rw [floats_is k mn (by omega), sbind, floats_is k mx (by omega), sbind, sbind]
theorem even_is (k : Nat) (hk : 200 < k) (L : Int) (s : Nat) (a mn mx : List Nat) (hs : s < 50) (ha : a.length = 2 * s) (hn : mn.length = s) (hx : mx.length = s) (hl : gogeom_Layout_Stride k L = some (s : Int)) :
    impl_BoxSet k L mn mx a = some (L, a.take s, a.drop s, true) := by
  unfold impl_BoxSet
  rw [box_is k L mn mx (by omega) (by omega), sbind]
  have e : gogeom_Bounds_Set k L mn mx a = some (.inl (L, a.take s, a.drop s)) := by
    unfold gogeom_Bounds_Set
    have e1 : iquo .i64 (a.length : Int) 2 = some (s : Int) := by
      unfold iquo
      rw [if_neg (by decide), Int.tdiv_eq_ediv_of_nonneg (by omega), wrap_i64 (by omega) (by omega)]
      congr 1
      omega
    rw [iand_one (by omega), decide_eq_true (by omega), Bool.not_true, br_false, e1, sbind, extend_is k (by omega) L mn mx _ hl, sbind]
    dsimp only
    rw [setLoop_is k s a mn mx hs ha hn hx hk, sbind]
  dsimp only
  rw [e, sbind]
  dsimp only
  rw [plainBox_is k L _ _ (by simp; omega) (by simp; omega), sbind]
theorem odd_is (k : Nat) (L : Int) (a mn mx : List Nat) (ha : a.length % 2 = 1) (h1 : a.length < 100) (hn : mn.length < 50) (hx : mx.length < 50) : ∃ r, impl_BoxSet k L mn mx a = some r ∧ r.2.2.2 = false := by
  unfold impl_BoxSet
  rw [box_is k L mn mx (by omega) (by omega), sbind]
  have e : gogeom_Bounds_Set k L mn mx a = some (.inr ()) := by
    unfold gogeom_Bounds_Set
    rw [iand_one (by omega), decide_eq_false (by omega), Bool.not_false, br_true]
  dsimp only
  rw [e, sbind]
  exact ⟨_, rfl, rfl⟩
theorem j5_true (k : Nat) (L : Int) (mn mx a : List Nat) : laws_FnBoxSet_j5 k L mn mx a true = some true := rfl
theorem j4_true (k : Nat) (L : Int) (mn mx a : List Nat) : laws_FnBoxSet_j4 k L mn mx a true = some true := rfl
theorem j2_true (k : Nat) (L : Int) (mn mx a : List Nat) : laws_FnBoxSet_j2 k L mn mx a true = some true := rfl
theorem j1_true (k : Nat) (L : Int) (mn mx a : List Nat) : laws_FnBoxSet_j1 k L mn mx a true = some true := rfl
theorem known : impl_BoxSet_v2 1000 1 [0, 0] [0, 0] [4607182418800017408, 4611686018427387904, 4613937818241073152, 4616189618054758400] = some ([0, 0], [0, 0], 1, [4607182418800017408, 4611686018427387904], [4613937818241073152, 4616189618054758400], true) := by
  rfl
theorem j5_false (L : Int) (s : Nat) (mn mx a : List Nat) (h1 : 1 ≤ L) (hs : s ≤ 9) (hn : mn.length = s) (hx : mx.length = s) (hl : gogeom_Layout_Stride 1000 L = some (s : Int)) (ha : a.length = 2 * s ∨ (a.length = 2 * s - 1 ∧ 1 ≤ s)) (hf : ∀ i (h : i < a.length), feq a[i] a[i] = true) :
    laws_FnBoxSet_j5 1000 L mn mx a false = some true := by
  unfold laws_FnBoxSet_j5
  rw [br_false]
  have em : imul .i64 2 (mn.length : Int) = ((2 * s : Nat) : Int) := by
    show IntKind.wrap .i64 _ = _
    rw [wrap_i64 (by omega) (by omega), hn]; push_cast; rfl
  rcases ha with ha | ⟨ha, h⟩
  · rw [even_is 1000 (by decide) L s a mn mx (by omega) ha hn hx hl, sbind, known, sbind, em, decide_eq_true (by omega), Bool.not_true, br_false]
    dsimp only
    rw [br_true]
    unfold laws_FnBoxSet_j7
    have c1 : cut a 0 (mn.length : Int) = some (a.take s) := by
      rw [cut_some (by omega) (by omega) (by omega), hn]; rfl
    have c2 : cut a (mn.length : Int) (a.length : Int) = some (a.drop s) := by
      rw [cut_some (by omega) (by omega) (by omega), hn, Int.toNat_natCast, Int.toNat_natCast, List.take_length]
    rw [br_true, c1, sbind, c2, sbind]
    dsimp only
    rw [sameBox_self 1000 (by decide) L (a.take s) (a.drop s) (by simp; omega) (by simp; omega) (fun i hi => by
      have : i < a.length := by simp at hi; omega
      simpa using hf i this) (fun i hi => by
      have : s + i < a.length := by simp at hi; omega
      simpa using hf (s + i) this), sbind]
    rfl
  · obtain ⟨r, hr, hr2⟩ := odd_is 1000 L a mn mx (by omega) (by omega) (by omega) (by omega)
    rw [hr, sbind, known, sbind, em, decide_eq_false (by omega), Bool.not_false, br_true]
    dsimp only
    rw [br_true, hr2]
    rfl
theorem main (L : Int) (mn mx a : List Nat) : laws_FnBoxSet 1000 L mn mx a = some true := by
  obtain ⟨r, hr, _⟩ := fits1_is 1000 L mn mx
  unfold laws_FnBoxSet
  rw [hr, sbind]
  cases r with
  | false => rw [Bool.not_false, br_true]; exact j1_true _ _ _ _ _
  | true =>
    rw [Bool.not_true, br_false]
    by_cases hbig : 2147483647 < (a.length : Int)
    · rw [decide_eq_true hbig]; exact j1_true _ _ _ _ _
    · rw [decide_eq_false hbig]
      unfold laws_FnBoxSet_j1
      rw [br_false]
      obtain ⟨b, hb, hg⟩ := bBox_is 1000 [(L, mn, mx)] (by simp) (by simp)
      rw [hb, sbind]
      cases b with
      | false => rw [Bool.not_false, br_true]; exact j2_true _ _ _ _ _
      | true =>
        rw [Bool.not_true, br_false]
        obtain ⟨g0, g9, gs, gl, gn⟩ := hg rfl _ (List.mem_singleton.2 rfl)
        by_cases h1 : L < 1
        · rw [decide_eq_true h1]; exact j2_true _ _ _ _ _
        · rw [decide_eq_false h1]
          obtain ⟨s, hs, hlay, hpos, hs9⟩ := stride_is 1000 L
          have hms : (mn.length : Int) = s := gs 1000 s hs
          have hs9 := hs9 g9
          have gl : mx.length = mn.length := gl
          have hl : gogeom_Layout_Stride 1000 L = some ((mn.length : Nat) : Int) := by rw [hms]; exact hlay (by omega) g9
          have em : imul .i64 2 (mn.length : Int) = ((2 * mn.length : Nat) : Int) := by
            show IntKind.wrap .i64 _ = _
            rw [wrap_i64 (by omega) (by omega)]; push_cast; rfl
          have es : isub .i64 ((2 * mn.length : Nat) : Int) 1 = ((2 * mn.length : Nat) : Int) - 1 := by
            show IntKind.wrap .i64 _ = _
            rw [wrap_i64 (by omega) (by omega)]
          have last (ha : a.length = 2 * mn.length ∨ (a.length = 2 * mn.length - 1 ∧ 1 ≤ mn.length)) : laws_FnBoxSet_j4 1000 L mn mx a false = some true := by
            unfold laws_FnBoxSet_j4
            rw [br_false]
            obtain ⟨r, hr, hf⟩ := each_is 1000 0 0 0 a (by omega) (by decide)
            rw [hr, sbind]
            cases r with
            | false => rw [Bool.not_false]; exact j5_true _ _ _ _ _
            | true => exact j5_false L mn.length mn mx a (by omega) (by omega) rfl gl hl ha (hf rfl)
          unfold laws_FnBoxSet_j2 laws_FnBoxSet_j3
          rw [br_false, em]
          by_cases h2 : (a.length : Int) = ((2 * mn.length : Nat) : Int)
          · rw [decide_eq_true h2, Bool.not_true, br_false]
            exact last (.inl (by omega))
          · rw [decide_eq_false h2, Bool.not_false, br_true, es]
            by_cases h3 : (a.length : Int) = ((2 * mn.length : Nat) : Int) - 1
            · rw [decide_eq_true h3, Bool.not_true]
              exact last (.inr (by omega))
            · rw [decide_eq_false h3, Bool.not_false]; exact j4_true _ _ _ _ _
theorem fact_FnBoxSet (L : Int) (mn mx a : List Nat) {p q : Prop} (g0 : p) (g1 : q) : laws_FnBoxSet 1000 L mn mx a = some true := main L mn mx a
end Go.Proofs.Ytlipjaacncpaoaa
